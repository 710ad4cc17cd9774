import PyProof.Rows.All
import Wide.All
import OpenK.AllK
import Wide.FinOn
import PySem.Challenge.RW_mj0268_01
open PySem PySem.W PyProof.Rows
set_option Elab.async false
set_option compiler.extract_closed false
set_option maxRecDepth 100000
set_option maxHeartbeats 8000000
set_option linter.all false
namespace Mine
/-! ### Sl -/
section
open PySem.StrLaws PySem.Builtin.Str
/-- a text by its signs -/
def S (l : List Nat) : Str := ⟨l.toArray⟩
@[simp] theorem S_len (l : List Nat) : (S l).length = l.length := by simp [S, Str.length]
@[simp] theorem S_list (l : List Nat) : (S l).cps.toList = l := by simp [S]
theorem S_ext {x : Str} {l : List Nat} (h : x.cps.toList = l) : x = S l := by
  cases x with
  | mk c => subst h; simp [S]
theorem S_cat (a b : List Nat) : S a ++ S b = S (a ++ b) := S_ext (by rw [Str.cps_append]; simp [S])
theorem S_inj {a b : List Nat} (h : S a = S b) : a = b := by
  have := congrArg (fun x => x.cps.toList) h
  simpa using this
/-- the text with every y, from the left, made z; k signs are to be passed over -/
def rep (y z : List Nat) : Nat → List Nat → List Nat
  | _, [] => []
  | k + 1, _ :: r => rep y z k r
  | 0, a :: r => if (a :: r).take y.length = y then z ++ rep y z (y.length - 1) r else a :: rep y z 0 r
theorem rep_skip (y z : List Nat) : ∀ (l : List Nat) (k : Nat), rep y z k l = rep y z 0 (l.drop k)
  | [], k => by simp [rep]
  | a :: r, 0 => rfl
  | a :: r, k + 1 => by
    show rep y z k r = rep y z 0 (r.drop k)
    exact rep_skip y z r k
theorem rep_hit {y z : List Nat} (hy : y ≠ []) {l : List Nat} (h : l.take y.length = y) : rep y z 0 l = z ++ rep y z 0 (l.drop y.length) := by
  cases l with
  | nil => simp at h; exact absurd h hy
  | cons a r =>
    rw [rep, if_pos h, rep_skip]
    cases y with
    | nil => exact absurd rfl hy
    | cons b y' => rfl
theorem rep_run {y z : List Nat} : ∀ (n : Nat) (l : List Nat), n ≤ l.length → (∀ k, k < n → (l.drop k).take y.length ≠ y) → rep y z 0 l = l.take n ++ rep y z 0 (l.drop n)
  | 0, l, _, _ => by simp
  | n + 1, [], h, _ => by simp at h
  | n + 1, a :: r, h, hn => by
    have h0 := hn 0 (by omega)
    rw [List.drop_zero] at h0
    rw [rep, if_neg h0, rep_run n r (by simpa using h) (fun k hk => by simpa using hn (k + 1) (by omega))]
    rfl
theorem at_iff (l y : List Nat) (hy : y ≠ []) (k : Nat) : At (S l) (S y) (S l).length k ↔ (l.drop k).take y.length = y := by
  unfold At
  rw [subAt_eq, S_len, S_len, S_list, S_list, beq_iff_eq]
  constructor
  · exact fun h => h.2
  · intro h
    refine ⟨?_, h⟩
    have := congrArg List.length h
    rw [List.length_take, List.length_drop] at this
    have h1 : y.length ≠ 0 := fun e => hy (List.eq_nil_of_length_eq_zero e)
    omega
theorem join_cons (z p : Str) (l : List Str) (h : ∃ a r, l = a :: r) : Str.join z (p :: l) = p ++ z ++ Str.join z l := by
  obtain ⟨a, r, rfl⟩ := h; rfl
theorem rep_parts (l y z : List Nat) (hy : y ≠ []) : ∀ (cuts : List Nat) (a f : Nat), a ≤ l.length → ChainG (S l) (S y) (S l).length a cuts f → (∀ k, f ≤ k → ¬ At (S l) (S y) (S l).length k) →
    (Str.join (S z) (partsFrom (S l) (S y).length a cuts)).cps.toList = rep y z 0 (l.drop a)
  | [], a, f, ha, h, hn => by
    have e : f = a := h
    subst e
    show (strSub (S l) f (S l).length).cps.toList = _
    rw [strSub_toList, S_list, S_len]
    have hr := rep_run (z := z) (y := y) (l.drop f).length (l.drop f) (Nat.le_refl _) (fun k hk => by
      rw [List.drop_drop]
      exact fun q => hn (f + k) (by omega) ((at_iff l y hy _).mpr (by simpa [Nat.add_comm] using q)))
    rw [hr, List.drop_length, List.take_length, ← List.length_drop, List.take_length]
    simp [rep]
  | c :: r, a, f, ha, h, hn => by
    obtain ⟨h1, h2, h3, h4⟩ := h
    have h2' := (at_iff l y hy c).mp h2
    have hc : c + y.length ≤ l.length := by have := h2.1; simpa using this
    show (Str.join (S z) (strSub (S l) a c :: partsFrom (S l) (S y).length (c + (S y).length) r)).cps.toList = _
    rw [join_cons _ _ _ (partsFrom_ne _ _ _ _), Str.cps_append, Str.cps_append, Array.toList_append, Array.toList_append, S_list, strSub_toList, S_list]
    rw [S_len] at h4
    rw [rep_parts l y z hy r (c + (S y).length) f (by simpa using hc) (by simpa using h4) hn, S_len]
    have hr := rep_run (z := z) (y := y) (c - a) (l.drop a) (by rw [List.length_drop]; omega) (fun k hk => by
      rw [List.drop_drop]
      exact fun q => h3 (a + k) (by omega) (by omega) ((at_iff l y hy _).mpr (by simpa [Nat.add_comm] using q)))
    rw [hr, List.drop_drop, show a + (c - a) = c from by omega, rep_hit hy h2', List.drop_drop]
    simp [List.append_assoc]
theorem replace_S (l y z : List Nat) (hy : y ≠ []) : Txt.replace (S l) (S y) (S z) = S (rep y z 0 l) := by
  obtain ⟨f, hc, hn⟩ := occ_tight (S l) (S y) (by rw [S_len]; cases y with | nil => exact absurd rfl hy | cons => simp)
  have key := rep_parts l y z hy _ 0 f (Nat.zero_le _) hc hn
  have h10 : ((S y).length == 0) = false := by rw [S_len]; cases y with | nil => exact absurd rfl hy | cons => rfl
  unfold Txt.replace
  rw [h10, Bool.false_and, Bool.or_false]
  cases he : occurrences (S l) (S y) 0 (S l).length ((S l).length + 1) with
  | nil =>
    rw [he] at key
    simp only [List.isEmpty_nil, if_true]
    apply S_ext
    rw [S_list]
    rw [List.drop_zero] at key
    rw [← key]
    show _ = (strSub (S l) 0 (S l).length).cps.toList
    rw [sub_whole, S_list]
  | cons c r =>
    simp only [List.isEmpty_cons, Bool.false_eq_true, if_false]
    rw [glued_eq_join, partsBetween_eq, ← he]
    apply S_ext
    rw [key, List.drop_zero]
theorem rep_one (c : Nat) (z : List Nat) : ∀ l : List Nat, rep [c] z 0 l = l.flatMap fun k => if k = c then z else [k]
  | [] => rfl
  | a :: r => by
    rw [List.flatMap_cons, ← rep_one c z r, rep]
    by_cases h : a = c
    · subst h; rw [if_pos (by simp), if_pos rfl]; rfl
    · rw [if_neg (by simp [h]), if_neg h]; rfl
theorem rep_le (y z : List Nat) (hz : z.length ≤ y.length) : ∀ (l : List Nat) (k : Nat), (rep y z k l).length ≤ l.length - k
  | [], k => by simp [rep]
  | a :: r, k + 1 => by
    have := rep_le y z hz r k
    rw [rep]; simpa using this
  | a :: r, 0 => by
    rw [rep]
    split
    · rename_i h
      have h1 := rep_le y z hz r (y.length - 1)
      have h2 := congrArg List.length h
      rw [List.length_take, List.length_cons] at h2
      rw [List.length_append, List.length_cons]
      by_cases h3 : y.length = 0 <;> omega
    · have := rep_le y z hz r 0
      rw [List.length_cons, List.length_cons]; omega
end
/-! ### Cmp -/
section
section
variable {prog : Program} {w : World} {A : Around} {E : Value → Shared → Prop} {env : Env} {s : Shared}
/-- a list comprehension of one clause: its loop is left open -/
theorem listComp {elt target iter : Expr} {ifs : List Expr} {scope : Scope} {cl : List (Str × Addr)} {pos : Pos} {Q : Value → Shared → Prop}
    (hclos : closureFor scope env = pure cl) (hcell : ∀ y ∈ scope.names, y.2 ≠ .cell) (hkind : scope.kind = .function)
    (hnames : ∀ y ∈ scope.names, y.2 = .local → scope.names.lookup y.1 = some .local)
    (h : wpAny (model prog w) A (eval iter env) (fun xv s₁ => wpAny (model prog w) A (pyIter xv) (fun it s₂ =>
      (∀ (s' : Shared) (Q' : Value → Shared → Prop) (E' : Value → Shared → Prop), (∀ b o, s₂.heap.get? b = some o → s'.heap.get? b = some o) → Q' it s' → wpAny (model prog w) A (pyIter it) Q' E' s') ∧
      ∀ (D C : Nat) h₁ tk m, D = s₂.heap.objs.size → C = D + 1 → h₁.PlainList D #[] → h₁.Ns C m → (∀ b o, s₂.heap.get? b = some o → h₁.get? b = some o) → s₂.toks ≤ tk →
        codeAny (model prog w) A (.compLoop (.ListComp elt [⟨target, iter, ifs, 0⟩] scope pos) 0 it (.ref D) (compEnvC scope cl C env))
          (compPost (model prog w) A E none Q (.ref D) C) { s₂ with heap := h₁, toks := tk }) E s₁) E s)
    (hs : ∀ x, foldedSetIterable iter env x = pure x := by intro _; rfl) :
    wpAny (model prog w) A (eval (.ListComp elt [⟨target, iter, ifs, 0⟩] scope pos) env) Q E s := by
  rw [eval_ListComp]
  refine wpAny_comprehension_free (use := none) rfl hs hclos hkind hnames (wpAny_mono h (fun xv s₁ h₁ => wpAny_mono h₁ (fun it s₂ h₂ => ?_) fun _ _ e => e) fun _ _ e => e)
  obtain ⟨hself, hloop⟩ := h₂
  refine wpAny_newObj_type (wpAny_newFunctionEnv hcell (by intro y hy; simp at hy) (fun h₁ hns₁ hsb₁ => ?_) hkind)
  dsimp only at hns₁ hsb₁ ⊢
  generalize hH2 : s₂.heap.push { cls := .type "list", dict := none, data := .seq ([] : List Value).toArray } = H2 at hns₁ hsb₁ ⊢
  have hC : H2.objs.size = s₂.heap.objs.size + 1 := by rw [← hH2, Heap.size_push]
  have hDC : s₂.heap.objs.size ≠ H2.objs.size := by rw [hC]; exact Nat.ne_of_lt (Nat.lt_succ_self _)
  have old : ∀ b o, s₂.heap.get? b = some o → h₁.get? b = some o := fun b o e => hsb₁.extBut b o (by rw [hC]; exact Nat.ne_of_lt (Nat.lt_succ_of_lt (Heap.lt_size e))) (Heap.get?_push_of_some _ (hH2 ▸ Heap.get?_push_of_some _ e))
  have hacc : h₁.PlainList s₂.heap.objs.size #[] := ⟨_, hsb₁.extBut _ _ hDC (Heap.get?_push_of_some _ (hH2 ▸ Heap.get?_push_size _ rfl))⟩
  have key := hloop s₂.heap.objs.size H2.objs.size h₁ _ _ rfl hC hacc hns₁ old (Nat.le_add_right s₂.toks ([] : List (Str × Value)).length)
  exact codeAny_compStart_list key (hself _ _ _ old key)
end
end
/-! ### Leq -/
section
def okL (l : List Nat) : Bool := l.all (· < 128)
theorem strOk_S {l : List Nat} (h : okL l = true) : PyData.strOk (S l) = true := by
  unfold PyData.strOk
  rw [← Array.all_toList, S_list]
  rw [okL, List.all_eq_true] at h
  rw [List.all_eq_true]
  intro c hc
  have := h c hc
  simp at this ⊢
  omega
theorem eqs_lay : ∀ ls : List (List Nat), (∀ l ∈ ls, okL l = true) → PyData.canLayAll0 (ls.map fun l => PyData.str (S l)) = true
  | [], _ => rfl
  | l :: r, h => by
    simp only [List.map_cons, PyData.canLayAll0, PyData.canLay0, strOk_S (h l (.head _)), eqs_lay r fun z hz => h z (.tail _ hz), Bool.and_self]
theorem eqs_depth : ∀ ls : List (List Nat), PyData.depthAll (ls.map fun l => PyData.str (S l)) = 0
  | [] => rfl
  | _ :: r => by simp [PyData.depthAll, PyData.depth, eqs_depth r]
theorem eqs_shaped (ls : List (List Nat)) (h : ∀ l ∈ ls, okL l = true) : SeqAt.shaped (.list (ls.map fun l => PyData.str (S l))) = true := by
  simp [SeqAt.shaped, PyData.canLay0, PyData.depth, eqs_lay ls h, eqs_depth]
theorem S_beq (a b : List Nat) : (S a == S b) = decide (a = b) := by
  by_cases h : a = b
  · subst h; simp
  · rw [decide_eq_false h]
    rw [beq_eq_false_iff_ne]
    exact fun e => h (S_inj e)
theorem eqs_sameAll : ∀ a b : List (List Nat), PySem.Spec.sameAll (a.map fun l => PyData.str (S l)) (b.map fun l => PyData.str (S l)) = decide (a = b)
  | [], [] => by simp [PySem.Spec.sameAll]
  | [], _ :: _ => by simp [PySem.Spec.sameAll]
  | _ :: _, [] => by simp [PySem.Spec.sameAll]
  | a :: r, b :: t => by
    simp only [List.map_cons, PySem.Spec.sameAll, PySem.Spec.same, eqs_sameAll r t, S_beq]
    by_cases h : a = b <;> by_cases h' : r = t <;> simp [h, h']
theorem eqs_same (a b : List (List Nat)) : PySem.Spec.same (.list (a.map fun l => PyData.str (S l))) (.list (b.map fun l => PyData.str (S l))) = decide (a = b) := by
  simp only [PySem.Spec.same]; exact eqs_sameAll a b
theorem eqs_carried {vs : List Value} {ls : List (List Nat)} (h : StrsAre vs (ls.map S)) : CarriedAll vs (ls.map fun l => PyData.str (S l)) := by
  have := h.carried
  rwa [List.map_map] at this
section
variable {prog : Program} {w : World} {A : Around} {E : Value → Shared → Prop} {s : Shared} {a b : Addr} {xs ys : List Value} {ls ms : List (List Nat)} {Q : Value → Shared → Prop}
theorem eq_texts (ha : s.heap.IsList a xs.toArray) (hb : s.heap.IsList b ys.toArray) (hi : StrsAre xs (ls.map S)) (hj : StrsAre ys (ms.map S)) (hl : ∀ l ∈ ls, okL l = true) (hm : ∀ l ∈ ms, okL l = true) (hu : A.units + 64 < cLine) (h : Q (.bool (decide (ls = ms))) s) :
    wpAny (model prog w) A (compareOp .Eq (.ref a) (.ref b)) Q E s :=
  eq_dataH_same (reads_newData ha (eqs_carried hi)) (reads_newData hb (eqs_carried hj)) (eqs_shaped _ hl) (eqs_shaped _ hm) hu (SeqAt.noMix_of_shape (.list .str) rfl _ _ (list_map_has fun _ => rfl) (list_map_has fun _ => rfl)) (by rw [eqs_same]; exact h)
theorem ne_texts (ha : s.heap.IsList a xs.toArray) (hb : s.heap.IsList b ys.toArray) (hi : StrsAre xs (ls.map S)) (hj : StrsAre ys (ms.map S)) (hl : ∀ l ∈ ls, okL l = true) (hm : ∀ l ∈ ms, okL l = true) (hu : A.units + 64 < cLine) (h : Q (.bool (!decide (ls = ms))) s) :
    wpAny (model prog w) A (compareOp .NotEq (.ref a) (.ref b)) Q E s :=
  ne_dataH_same (reads_newData ha (eqs_carried hi)) (reads_newData hb (eqs_carried hj)) (eqs_shaped _ hl) (eqs_shaped _ hm) hu (SeqAt.noMix_of_shape (.list .str) rfl _ _ (list_map_has fun _ => rfl) (list_map_has fun _ => rfl)) (by rw [eqs_same]; exact h)
end
section
variable {prog : Program} {w : World} {A : Around} {E : Value → Shared → Prop} {env : Env} {s : Shared} {m : Str → Option Value}
theorem paired_texts {pw : List Nat → Bool} {f : List Nat → List Nat} {p : Value → Bool} {F : Value → Value → Prop} (hp : ∀ l t, p (.str (S l) t) = pw l) (hF : ∀ l t y, F (.str (S l) t) y → ∃ u, y = .str (S (f l)) u) :
    ∀ {vs : List Value} {ws : List (List Nat)} {ys : List Value}, StrsAre vs (ws.map S) → Paired F (vs.filter p) ys → StrsAre ys (((ws.filter pw).map f).map S)
  | [], [], ys, _, h => by
    cases h; exact .nil
  | v :: vs, l :: ws, ys, hv, h => by
    cases hv with
    | cons _ t hv =>
      rw [List.filter_cons, hp] at h
      rw [List.filter_cons]
      cases q : pw l with
      | false =>
        rw [q] at h
        exact paired_texts hp hF hv h
      | true =>
        rw [q, if_pos rfl] at h
        rw [if_pos rfl]
        cases h with
        | cons h1 h2 =>
          obtain ⟨u, rfl⟩ := hF _ _ _ h1
          exact .cons _ u (paired_texts hp hF hv h2)
theorem items_all {vs ws : List Value} (hl : vs.length = ws.toArray.size) (h : ∀ (j : Nat) v, vs[j]? = some v → ws.toArray[j]? = some v) : vs = ws := by
  apply List.ext_getElem?
  intro j
  by_cases hj : j < vs.length
  · have := h j vs[j] (List.getElem?_eq_getElem hj)
    rw [List.getElem?_eq_getElem hj]
    simpa using this.symm
  · rw [List.getElem?_eq_none (by omega), List.getElem?_eq_none (by simp at hl; omega)]
abbrev testsC (ifs : List Expr) (scope : Scope) (cl : List (Str × Addr)) (C : Addr) (env : Env) : Sem Bool :=
  forIn ifs true fun c r => if r = true then do let ok ← isTrue c (compEnvC scope cl C env) (eval c (compEnvC scope cl C env)); pure (ForInStep.yield ok) else pure (ForInStep.yield r)
def pV (pw : List Nat → Bool) : Value → Bool
  | .str z _ => pw z.cps.toList
  | _ => false
theorem pV_S (pw : List Nat → Bool) (l : List Nat) (t : Tok) : pV pw (.str (S l) t) = pw l := by simp [pV]
theorem sizes {vs : List Value} {ws : List (List Nat)} (hv : StrsAre vs (ws.map S)) (hn : ws.length ≤ 1000) : vs.toArray.size ≤ sizeLine := by
  have := hv.length
  rw [List.length_map] at this
  rw [sizeLine_eq, List.size_toArray]
  omega
theorem itemAt {vs : List Value} {ws : List (List Nat)} (hv : StrsAre vs (ws.map S)) {i : Nat} {v : Value} (h : vs.toArray[i]? = some v) : ∃ l t, l ∈ ws ∧ v = .str (S l) t := by
  have h' : vs[i]? = some v := by simpa using h
  obtain ⟨y, t, rfl, e⟩ := hv.item i v h'
  rw [List.getElem?_map] at e
  cases q : ws[i]? with
  | none => rw [q] at e; cases e
  | some l =>
    rw [q] at e
    cases e
    exact ⟨l, t, List.mem_of_getElem? q, rfl⟩
/-- [elt for x in y if ..], y a name that holds a list of texts; what is evaluated only makes new objects -/
theorem lcK {elt : Expr} {x y : Str} {px py : Pos} {ifs : List Expr} {scope : Scope} {cl : List (Str × Addr)} {pos : Pos} {wa : Addr} {vs : List Value} {ws : List (List Nat)} {Q : Value → Shared → Prop} (pw : List Nat → Bool) (f : List Nat → List Nat)
    (hh : A.handled = none) (hek : env.scope.kind = .function) (hyk : env.kindOf y = some .local) (hn : s.heap.Ns env.locals m) (hm : m y = some (.ref wa)) (hL : s.heap.IsList wa vs.toArray) (hv : StrsAre vs (ws.map S)) (hlen : ws.length ≤ 1000)
    (hclos : closureFor scope env = pure cl) (hcell : ∀ z ∈ scope.names, z.2 ≠ .cell) (hkind : scope.kind = .function) (hnames : ∀ z ∈ scope.names, z.2 = .local → scope.names.lookup z.1 = some .local) (hx : scope.names.lookup x = some .local)
    (test : ∀ C l t s₃ m₃ E', l ∈ ws → s.heap.objs.size ≤ C → s₃.heap.Ns C m₃ → m₃ x = some (.str (S l) t) → (∀ b o, s.heap.get? b = some o → s₃.heap.get? b = some o) → wpAny (model prog w) A (testsC ifs scope cl C env) (fun ok s₄ => ok = pw l ∧ Keeps s₃ s₄) E' s₃)
    (helt : ∀ C l t s₃ m₃ E', l ∈ ws → pw l = true → s.heap.objs.size ≤ C → s₃.heap.Ns C m₃ → m₃ x = some (.str (S l) t) → (∀ b o, s.heap.get? b = some o → s₃.heap.get? b = some o) → wpAny (model prog w) A (eval elt (compEnvC scope cl C env)) (fun v s₄ => (∃ u, v = .str (S (f l)) u) ∧ Keeps s₃ s₄) E' s₃)
    (hQ : ∀ D h' tk ys, s.heap.get? D = none → h'.IsList D ys → StrsAre ys.toList (((ws.filter pw).map f).map S) → (∀ b o, s.heap.get? b = some o → h'.get? b = some o) → Q (.ref D) { s with heap := h', toks := tk })
    (hyd : (y == ("__debug__" : Str)) = false := by decide) :
    wpAny (model prog w) A (eval (.ListComp elt [⟨.Name x px, .Name y py, ifs, 0⟩] scope pos) env) Q E s := by
  refine wpAny_ListComp_free (pV pw) (fun v y => ∃ l t u, v = .str (S l) t ∧ y = .str (S (f l)) u) hclos hcell hkind hnames hx (wpAny_Name (wpAny_loadName_local hek hyk hn hm ?_) hyd)
  refine wpAny_pyIter_list hL ?_
  have hne : wa ≠ s.heap.objs.size := Nat.ne_of_lt (let ⟨_, ho, _⟩ := hL; Heap.lt_size ho)
  have up : ∀ b o, s.heap.get? b = some o → b ∉ [s.heap.objs.size] ∧ (s.heap.push { cls := .type "list_iterator", data := .fields #[.ref wa, .int 0 0] }).get? b = some o := fun b o e => ⟨by
    rw [List.mem_singleton]; exact Nat.ne_of_lt (Heap.lt_size e), Heap.get?_push_of_some _ e⟩
  refine ⟨s.heap.objs.size, [s.heap.objs.size, wa], [s.heap.objs.size], vs.toArray.size, _, _, rfl, Walks.list hh _ wa hne vs.toArray, sizes hv hlen, ⟨⟨_, Heap.get?_push_size _ rfl, rfl, rfl⟩, hL.at fun o e => Heap.get?_push_of_some _ e⟩, ?_, ⟨?_, ?_⟩, ?_⟩
  · intro b hb
    show b < (s.heap.push _).objs.size
    rw [Heap.size_push]
    rcases List.mem_cons.mp hb with rfl | hb
    · exact Nat.lt_succ_self _
    · rw [List.mem_singleton.mp hb]
      exact Nat.lt_succ_of_lt (let ⟨_, ho, _⟩ := hL; Heap.lt_size ho)
  · intro C i v s₃ m₃ E' hC hP hns hmx hk htk
    obtain ⟨l, t, hl, rfl⟩ := itemAt hv hP
    rw [pV_S]
    rw [Heap.size_push] at hC
    exact test C l t s₃ m₃ E' hl (by exact Nat.le_of_succ_le hC) hns hmx fun b o e => hk b o (up b o e).1 (up b o e).2
  · intro C i v s₃ m₃ E' hC hP hpv hns hmx hk htk
    obtain ⟨l, t, hl, rfl⟩ := itemAt hv hP
    rw [pV_S] at hpv
    rw [Heap.size_push] at hC
    refine wpAny_mono (helt C l t s₃ m₃ E' hl hpv (by exact Nat.le_of_succ_le hC) hns hmx fun b o e => hk b o (up b o e).1 (up b o e).2) (fun y s₄ hy => ?_) fun _ _ e => e
    obtain ⟨⟨u, rfl⟩, hk4⟩ := hy
    exact ⟨⟨l, t, u, rfl, rfl⟩, hk4⟩
  · intro D h' tk ys vs' hD hlD _ hlen' hP hF hk
    have e := items_all hlen' hP
    subst e
    refine hQ D h' tk ys ?_ hlD (paired_texts (fun l t => pV_S pw l t) (fun l t y hy => ?_) hv hF) fun b o e => hk b o (up b o e).1 (up b o e).2
    · cases q : s.heap.get? D with
      | none => rfl
      | some o => rw [(up D o q).2] at hD; cases hD
    · obtain ⟨l', t', u, e1, e2⟩ := hy
      have : S l = S l' := by injection e1
      rw [S_inj this]
      exact ⟨u, e2⟩
end
end
/-! ### K -/
section
/-- the statement at a place of the text -/
def fNth : Nat → List Stmt → Option Stmt
  | _, [] => none
  | 0, s :: _ => some s
  | n + 1, _ :: r => fNth n r
def fInner : Option Stmt → List Stmt
  | some (.ClassDef _ _ _ b _ _ _ _ _ _ _) => b
  | _ => []
def fAt : List Nat → List Stmt → Option Stmt
  | [], _ => none
  | [i], l => fNth i l
  | i :: r, l => fAt r (fInner (fNth i l))
def fStmt (p : List Nat) : Option Stmt := fAt p PySem.Challenge.pw_mj0268_01.main.body
def fBody (p : List Nat) : List Stmt := match fStmt p with | some (.FunctionDef _ _ b _ _ _ _ _ _ _) => b | _ => []
def fArgs (p : List Nat) : Arguments := match fStmt p with | some (.FunctionDef _ a _ _ _ _ _ _ _ _) => a | _ => { posonlyargs := [], args := [], vararg := none, kwonlyargs := [], kw_defaults := [], kwarg := none, defaults := [] }
def fScope (p : List Nat) : Scope := match fStmt p with | some (.FunctionDef _ _ _ _ _ _ s _ _ _) => s | _ => { kind := .function, names := [], isGenerator := false, isCoroutine := false, more := [] }
/-- the objects that the top leaves -/
noncomputable def K0 (P : Params) : Frag :=
  (nat_lit 2, Obj.mk Value.none Option.none (Data.dict #[DictEntry.mk (PyData.keyHash P (Str.ofString "\x69mport.loaded._sre")) (Value.str (Str.ofString "\x69mport.loaded._sre") 183) (Value.bool Bool.true), DictEntry.mk (PyData.keyHash P (Str.ofString "class._frozen_\x69mportlib.BuiltinImporter")) (Value.str (Str.ofString "class._frozen_\x69mportlib.BuiltinImporter") 185) (Value.ref 14), DictEntry.mk (PyData.keyHash P (Str.ofString "watched.\x69mport")) (Value.str (Str.ofString "watched.\x69mport") 206) (Value.ref 18), DictEntry.mk (PyData.keyHash P (Str.ofString "class._frozen_\x69mportlib.ModuleSpec")) (Value.str (Str.ofString "class._frozen_\x69mportlib.ModuleSpec") 216) (Value.ref 22), DictEntry.mk (PyData.keyHash P (Str.ofString "sys.modules.booked-epoch")) (Value.str (Str.ofString "sys.modules.booked-epoch") 245) (Value.int 4 0), DictEntry.mk (PyData.keyHash P (Str.ofString "\x69mport.later-laid._sre")) (Value.str (Str.ofString "\x69mport.later-laid._sre") 270) (Value.bool Bool.true), DictEntry.mk (PyData.keyHash P (Str.ofString "watched.library")) (Value.str (Str.ofString "watched.library") 272) (Value.ref 27), DictEntry.mk (PyData.keyHash P (Str.ofString "watched.library-objects")) (Value.str (Str.ofString "watched.library-objects") 0) (Value.str (Str.ofString "\x0c\x1e") 0), DictEntry.mk (PyData.keyHash P (Str.ofString "watched.library-deep._sre")) (Value.str (Str.ofString "watched.library-deep._sre") 273) (Value.str (Str.ofString "\x04\x00\x00\x0b\x04\x00\x00\x0b\x04\x00\x00\x03\x04\x00\x00\x0b\x08\x04dict\x02") 0), DictEntry.mk (PyData.keyHash P (Str.ofString "\x69mport.loaded._collections")) (Value.str (Str.ofString "\x69mport.loaded._collections") 280) (Value.bool Bool.true), DictEntry.mk (PyData.keyHash P (Str.ofString "sys.modules.landed._collections")) (Value.str (Str.ofString "sys.modules.landed._collections") 294) (Value.bool Bool.true), DictEntry.mk (PyData.keyHash P (Str.ofString "\x69mport.later-laid._collections")) (Value.str (Str.ofString "\x69mport.later-laid._collections") 309) (Value.bool Bool.true), DictEntry.mk (PyData.keyHash P (Str.ofString "watched.library-deep._collections")) (Value.str (Str.ofString "watched.library-deep._collections") 311) (Value.str (Str.ofString "\x04\x00\x00\x1d\x04\x00\x00\x1d\x04\x00\x00\x03\x04\x00\x00\x1d\x08\x04dict\x02") 0), DictEntry.mk (PyData.keyHash P (Str.ofString "type.__subclasses__.OSError.0")) (Value.str (Str.ofString "type.__subclasses__.OSError.0") 451) (Value.int 85 0), DictEntry.mk (PyData.keyHash P (Str.ofString "type.__subclasses__.OSError.n")) (Value.str (Str.ofString "type.__subclasses__.OSError.n") 452) (Value.int 1 0)] 15) #[]) ::
  (nat_lit 3, Obj.mk (Value.type "dict") Option.none (Data.dict #[DictEntry.mk (PyData.keyHash P (Str.ofString "__name__")) (Value.str (Str.ofString "__name__") 165) (Value.str (Str.ofString "law_mj0268_01") 1299), DictEntry.mk (PyData.keyHash P (Str.ofString "__doc__")) (Value.str (Str.ofString "__doc__") 166) Value.none, DictEntry.mk (PyData.keyHash P (Str.ofString "__package__")) (Value.str (Str.ofString "__package__") 167) Value.none, DictEntry.mk (PyData.keyHash P (Str.ofString "__loader__")) (Value.str (Str.ofString "__loader__") 168) (Value.builtin "__main__.__loader__#opaque"), DictEntry.mk (PyData.keyHash P (Str.ofString "__spec__")) (Value.str (Str.ofString "__spec__") 169) Value.none, DictEntry.mk (PyData.keyHash P (Str.ofString "__annotations__")) (Value.str (Str.ofString "__annotations__") 170) (Value.ref 6), DictEntry.mk (PyData.keyHash P (Str.ofString "__builtins__")) (Value.str (Str.ofString "__builtins__") 171) (Value.ref 4), DictEntry.mk (PyData.keyHash P (Str.ofString "__file__")) (Value.str (Str.ofString "__file__") 173) (Value.str (Str.ofString "/claim/cut.py") 172), DictEntry.mk (PyData.keyHash P (Str.ofString "__cached__")) (Value.str (Str.ofString "__cached__") 174) Value.none, DictEntry.mk (PyData.keyHash P (Str.ofString "_sre")) (Value.str (Str.ofString "_sre") 275) (Value.ref 12), DictEntry.mk (PyData.keyHash P (Str.ofString "deque")) (Value.str (Str.ofString "deque") 317) (Value.type "collections.deque"), DictEntry.mk (PyData.keyHash P (Str.ofString "_wall")) (Value.str (Str.ofString "_wall") 330) (Value.ref 44), DictEntry.mk (PyData.keyHash P (Str.ofString "_controlCharPat")) (Value.str (Str.ofString "_controlCharPat") 366) (Value.ref 49), DictEntry.mk (PyData.keyHash P (Str.ofString "_escape")) (Value.str (Str.ofString "_escape") 374) (Value.ref 56), DictEntry.mk (PyData.keyHash P (Str.ofString "_twin_re_1")) (Value.str (Str.ofString "_twin_re_1") 414) (Value.ref 61), DictEntry.mk (PyData.keyHash P (Str.ofString "_whence")) (Value.str (Str.ofString "_whence") 424) (Value.ref 68), DictEntry.mk (PyData.keyHash P (Str.ofString "_index")) (Value.str (Str.ofString "_index") 432) (Value.ref 75), DictEntry.mk (PyData.keyHash P (Str.ofString "UnsupportedOperation")) (Value.str (Str.ofString "UnsupportedOperation") 454) (Value.ref 85), DictEntry.mk (PyData.keyHash P (Str.ofString "IOBase")) (Value.str (Str.ofString "IOBase") 486) (Value.ref 105), DictEntry.mk (PyData.keyHash P (Str.ofString "BufferedIOBase")) (Value.str (Str.ofString "BufferedIOBase") 504) (Value.ref 120), DictEntry.mk (PyData.keyHash P (Str.ofString "TextIOBase")) (Value.str (Str.ofString "TextIOBase") 522) (Value.ref 132), DictEntry.mk (PyData.keyHash P (Str.ofString "BytesIO")) (Value.str (Str.ofString "BytesIO") 784) (Value.ref 362), DictEntry.mk (PyData.keyHash P (Str.ofString "StringIO")) (Value.str (Str.ofString "StringIO") 1071) (Value.ref 609), DictEntry.mk (PyData.keyHash P (Str.ofString "_kind")) (Value.str (Str.ofString "_kind") 1082) (Value.ref 618), DictEntry.mk (PyData.keyHash P (Str.ofString "_fspath")) (Value.str (Str.ofString "_fspath") 1091) (Value.ref 625), DictEntry.mk (PyData.keyHash P (Str.ofString "_check_arg_types")) (Value.str (Str.ofString "_check_arg_types") 1101) (Value.ref 632), DictEntry.mk (PyData.keyHash P (Str.ofString "isabs")) (Value.str (Str.ofString "isabs") 1108) (Value.ref 639), DictEntry.mk (PyData.keyHash P (Str.ofString "join")) (Value.str (Str.ofString "join") 1119) (Value.ref 763), DictEntry.mk (PyData.keyHash P (Str.ofString "join_path")) (Value.str (Str.ofString "join_path") 1120) (Value.ref 646), DictEntry.mk (PyData.keyHash P (Str.ofString "dirname")) (Value.str (Str.ofString "dirname") 1130) (Value.ref 653), DictEntry.mk (PyData.keyHash P (Str.ofString "shlex")) (Value.str (Str.ofString "shlex") 1271) (Value.ref 744), DictEntry.mk (PyData.keyHash P (Str.ofString "split")) (Value.str (Str.ofString "split") 1281) (Value.ref 756), DictEntry.mk (PyData.keyHash P (Str.ofString "join_shlex")) (Value.str (Str.ofString "join_shlex") 1289) (Value.ref 763), DictEntry.mk (PyData.keyHash P (Str.ofString "_find_unsafe")) (Value.str (Str.ofString "_find_unsafe") 1291) (Value.ref 764), DictEntry.mk (PyData.keyHash P (Str.ofString "quote")) (Value.str (Str.ofString "quote") 1298) (Value.ref 771), DictEntry.mk (PyData.keyHash P (Str.ofString "_law_words")) (Value.str (Str.ofString "_law_words") 1309) (Value.ref 778), DictEntry.mk (PyData.keyHash P (Str.ofString "_law_feeds")) (Value.str (Str.ofString "_law_feeds") 1315) (Value.ref 783), DictEntry.mk (PyData.keyHash P (Str.ofString "_law_escaped")) (Value.str (Str.ofString "_law_escaped") 1324) (Value.ref 790), DictEntry.mk (PyData.keyHash P (Str.ofString "_law_read")) (Value.str (Str.ofString "_law_read") 1336) (Value.ref 797), DictEntry.mk (PyData.keyHash P (Str.ofString "_law_refused")) (Value.str (Str.ofString "_law_refused") 1343) (Value.ref 804), DictEntry.mk (PyData.keyHash P (Str.ofString "law")) (Value.str (Str.ofString "law") 1349) (Value.ref 809)] 41) #[]) ::
  (nat_lit 38, Obj.mk (Value.type "tuple") Option.none (Data.seq #[] 0) #[]) ::
  (nat_lit 40, Obj.mk (Value.type "tuple") Option.none (Data.seq #[Value.str (Str.ofString "k") 327] 0) #[]) ::
  (nat_lit 41, Obj.mk (Value.type "tuple") Option.none (Data.seq #[] 0) #[]) ::
  (nat_lit 43, Obj.mk (Value.type "code") Option.none (Data.fields #[Value.str (Str.ofString "_wall") 324, Value.str (Str.ofString "_wall") 325, Value.str (Str.ofString "/claim/cut.py") 326, Value.int 3 0, Value.int 1 0, Value.int 0 0, Value.int 0 0, Value.int 3 0, Value.ref 38, Value.bool Bool.true, Value.int 318 0, Value.ref 39, Value.none, Value.ref 40, Value.ref 41, Value.ref 42, Value.int 328 0, Value.int 3 0, Value.str (Str.ofString "/claim/cut.py") 329]) #[]) ::
  (nat_lit 44, Obj.mk (Value.type "function") Option.none (Data.func (FuncData.mk (Str.ofString "_wall") (Str.ofString "_wall") (fArgs [2]) (FuncBody.stmts (fBody [2])) (fScope [2]) 3 [] Value.none Value.none Value.none (Value.str (Str.ofString "__main__") 164) Option.none (Value.ref 43) Value.none 0)) #[]) ::
  (nat_lit 48, Obj.mk (Value.type "tuple") Option.none (Data.seq #[Value.int 14 0, Value.int 14 0, Value.int 4 0, Value.int 1 0, Value.int 1 0, Value.int 9 0, Value.int 4294957567 0, Value.int 0 0, Value.int 0 0, Value.int 0 0, Value.int 0 0, Value.int 0 0, Value.int 0 0, Value.int 0 0, Value.int 0 0, Value.int 13 0, Value.int 11 0, Value.int 9 0, Value.int 4294957567 0, Value.int 0 0, Value.int 0 0, Value.int 0 0, Value.int 0 0, Value.int 0 0, Value.int 0 0, Value.int 0 0, Value.int 0 0, Value.int 1 0] 0) #[]) ::
  (nat_lit 49, Obj.mk (Value.type "re.Pattern") Option.none (Data.fields #[Value.str (Str.ofString "[\\x00\\x01\\x02\\x03\\x04\\x05\\x06\\x07\\x08\\x0b\\x0c\\x0e\\x0f\\x10\\x11\\x12\\x13\\x14\\x15\\x16\\x17\\x18\\x19\\x1a\\x1b\\x1c\\x1d\\x1e\\x1f]") 334, Value.int 32 365, Value.int 0 0, Value.none, Value.none, Value.ref 48, Value.int 0 0]) #[]) ::
  (nat_lit 50, Obj.mk (Value.type "tuple") Option.none (Data.seq #[] 0) #[]) ::
  (nat_lit 52, Obj.mk (Value.type "tuple") Option.none (Data.seq #[Value.str (Str.ofString "text") 370, Value.str (Str.ofString "m") 371] 0) #[]) ::
  (nat_lit 53, Obj.mk (Value.type "tuple") Option.none (Data.seq #[] 0) #[]) ::
  (nat_lit 55, Obj.mk (Value.type "code") Option.none (Data.fields #[Value.str (Str.ofString "_escape") 367, Value.str (Str.ofString "_escape") 368, Value.str (Str.ofString "/claim/cut.py") 369, Value.int 8 0, Value.int 1 0, Value.int 0 0, Value.int 0 0, Value.int 3 0, Value.ref 50, Value.bool Bool.true, Value.int 318 0, Value.ref 51, Value.none, Value.ref 52, Value.ref 53, Value.ref 54, Value.int 372 0, Value.int 8 0, Value.str (Str.ofString "/claim/cut.py") 373]) #[]) ::
  (nat_lit 56, Obj.mk (Value.type "function") Option.none (Data.func (FuncData.mk (Str.ofString "_escape") (Str.ofString "_escape") (fArgs [5]) (FuncBody.stmts (fBody [5])) (fScope [5]) 3 [] Value.none Value.none Value.none (Value.str (Str.ofString "cpy313.plistlib") 331) Option.none (Value.ref 55) Value.none 0)) #[]) ::
  (nat_lit 60, Obj.mk (Value.type "tuple") Option.none (Data.seq #[Value.int 14 0, Value.int 17 0, Value.int 4 0, Value.int 1 0, Value.int 1 0, Value.int 21 0, Value.int 9 0, Value.int 0 0, Value.int 604043296 0, Value.int 1 0, Value.int 0 0, Value.int 0 0, Value.int 0 0, Value.int 0 0, Value.int 0 0, Value.int 8 0, Value.int 4 0, Value.int 0 0, Value.int 13 0, Value.int 14 0, Value.int 21 0, Value.int 9 0, Value.int 0 0, Value.int 604043296 0, Value.int 1 0, Value.int 0 0, Value.int 0 0, Value.int 0 0, Value.int 0 0, Value.int 0 0, Value.int 8 0, Value.int 4 0, Value.int 0 0, Value.int 1 0] 0) #[]) ::
  (nat_lit 61, Obj.mk (Value.type "re.Pattern") Option.none (Data.fields #[Value.str (Str.ofString "[^\\w@%+=:,./-]") 376, Value.int 256 413, Value.int 0 0, Value.none, Value.none, Value.ref 60, Value.int 0 0]) #[]) ::
  (nat_lit 62, Obj.mk (Value.type "tuple") Option.none (Data.seq #[] 0) #[]) ::
  (nat_lit 64, Obj.mk (Value.type "tuple") Option.none (Data.seq #[Value.str (Str.ofString "n") 420, Value.str (Str.ofString "what") 421] 0) #[]) ::
  (nat_lit 65, Obj.mk (Value.type "tuple") Option.none (Data.seq #[] 0) #[]) ::
  (nat_lit 67, Obj.mk (Value.type "code") Option.none (Data.fields #[Value.str (Str.ofString "_whence") 417, Value.str (Str.ofString "_whence") 418, Value.str (Str.ofString "/claim/cut.py") 419, Value.int 20 0, Value.int 2 0, Value.int 0 0, Value.int 0 0, Value.int 3 0, Value.ref 62, Value.bool Bool.true, Value.int 318 0, Value.ref 63, Value.none, Value.ref 64, Value.ref 65, Value.ref 66, Value.int 422 0, Value.int 20 0, Value.str (Str.ofString "/claim/cut.py") 423]) #[]) ::
  (nat_lit 68, Obj.mk (Value.type "function") Option.none (Data.func (FuncData.mk (Str.ofString "_whence") (Str.ofString "_whence") (fArgs [8]) (FuncBody.stmts (fBody [8])) (fScope [8]) 3 [] Value.none Value.none Value.none (Value.str (Str.ofString "io") 415) Option.none (Value.ref 67) Value.none 0)) #[]) ::
  (nat_lit 69, Obj.mk (Value.type "tuple") Option.none (Data.seq #[] 0) #[]) ::
  (nat_lit 71, Obj.mk (Value.type "tuple") Option.none (Data.seq #[Value.str (Str.ofString "n") 428, Value.str (Str.ofString "what") 429] 0) #[]) ::
  (nat_lit 72, Obj.mk (Value.type "tuple") Option.none (Data.seq #[] 0) #[]) ::
  (nat_lit 74, Obj.mk (Value.type "code") Option.none (Data.fields #[Value.str (Str.ofString "_index") 425, Value.str (Str.ofString "_index") 426, Value.str (Str.ofString "/claim/cut.py") 427, Value.int 25 0, Value.int 2 0, Value.int 0 0, Value.int 0 0, Value.int 3 0, Value.ref 69, Value.bool Bool.true, Value.int 318 0, Value.ref 70, Value.none, Value.ref 71, Value.ref 72, Value.ref 73, Value.int 430 0, Value.int 25 0, Value.str (Str.ofString "/claim/cut.py") 431]) #[]) ::
  (nat_lit 75, Obj.mk (Value.type "function") Option.none (Data.func (FuncData.mk (Str.ofString "_index") (Str.ofString "_index") (fArgs [9]) (FuncBody.stmts (fBody [9])) (fScope [9]) 3 [] Value.none Value.none Value.none (Value.str (Str.ofString "io") 415) Option.none (Value.ref 74) Value.none 0)) #[]) ::
  (nat_lit 76, Obj.mk (Value.type "tuple") Option.none (Data.seq #[Value.type "OSError", Value.type "ValueError"] 0) #[]) ::
  (nat_lit 83, Obj.mk (Value.type "tuple") Option.none (Data.seq #[] 0) #[]) ::
  (nat_lit 84, Obj.mk (Value.type "dict") Option.none (Data.dict #[DictEntry.mk (PyData.keyHash P (Str.ofString "__module__")) (Value.str (Str.ofString "__module__") 440) (Value.str (Str.ofString "io") 445), DictEntry.mk (PyData.keyHash P (Str.ofString "__firstlineno__")) (Value.str (Str.ofString "__firstlineno__") 444) (Value.int 32 443), DictEntry.mk (PyData.keyHash P (Str.ofString "__static_attributes__")) (Value.str (Str.ofString "__static_attributes__") 447) (Value.ref 83), DictEntry.mk (PyData.keyHash P (Str.ofString "__weakref__")) (Value.str (Str.ofString "__weakref__") 449) (Value.ref 86), DictEntry.mk (PyData.keyHash P (Str.ofString "__doc__")) (Value.str (Str.ofString "__doc__") 450) Value.none] 3) #[]) ::
  (nat_lit 85, Obj.mk (Value.type "type") Option.none (Data.cls (ClassData.mk (Str.ofString "UnsupportedOperation") [Value.type "OSError", Value.type "ValueError"] [Value.ref 85, Value.type "OSError", Value.type "ValueError", Value.type "Exception", Value.type "BaseException", Value.type "object"] 84 (Str.ofString "UnsupportedOperation") Bool.true [] [] Bool.false Option.none Bool.false)) #[Option.some (Value.ref 76), Option.none, Option.some (Value.str (Str.ofString "UnsupportedOperation") 433), Option.some (Value.str (Str.ofString "UnsupportedOperation") 441), Option.some (Value.builtin "OSError.__new__"), Option.some (Value.bool Bool.true)]) ::
  (nat_lit 86, Obj.mk (Value.type "getset_descriptor") Option.none (Data.fields #[Value.str (Str.ofString "__weakref__") 448, Value.ref 85, Value.builtin "ExceptionGroup.__weakref__", Value.none]) #[]) ::
  (nat_lit 96, Obj.mk (Value.type "tuple") Option.none (Data.seq #[] 0) #[]) ::
  (nat_lit 98, Obj.mk (Value.type "tuple") Option.none (Data.seq #[Value.str (Str.ofString "cls") 472, Value.str (Str.ofString "args") 473, Value.str (Str.ofString "kwargs") 474] 0) #[]) ::
  (nat_lit 99, Obj.mk (Value.type "tuple") Option.none (Data.seq #[] 0) #[]) ::
  (nat_lit 101, Obj.mk (Value.type "code") Option.none (Data.fields #[Value.str (Str.ofString "__new__") 469, Value.str (Str.ofString "IOBase.__new__") 470, Value.str (Str.ofString "/claim/cut.py") 471, Value.int 37 0, Value.int 1 0, Value.int 1 0, Value.int 0 0, Value.int 15 0, Value.ref 96, Value.bool Bool.true, Value.int 318 0, Value.ref 97, Value.none, Value.ref 98, Value.ref 99, Value.ref 100, Value.int 475 0, Value.int 37 0, Value.str (Str.ofString "/claim/cut.py") 476]) #[]) ::
  (nat_lit 102, Obj.mk (Value.type "function") Option.none (Data.func (FuncData.mk (Str.ofString "__new__") (Str.ofString "IOBase.__new__") (fArgs [11, 1]) (FuncBody.stmts (fBody [11, 1])) (fScope [11, 1]) 3 [] Value.none Value.none Value.none (Value.str (Str.ofString "io") 415) Option.none (Value.ref 101) Value.none 0)) #[]) ::
  (nat_lit 103, Obj.mk (Value.type "tuple") Option.none (Data.seq #[] 0) #[]) ::
  (nat_lit 104, Obj.mk (Value.type "dict") Option.none (Data.dict #[DictEntry.mk (PyData.keyHash P (Str.ofString "__module__")) (Value.str (Str.ofString "__module__") 462) (Value.str (Str.ofString "io") 467), DictEntry.mk (PyData.keyHash P (Str.ofString "__firstlineno__")) (Value.str (Str.ofString "__firstlineno__") 466) (Value.int 34 465), DictEntry.mk (PyData.keyHash P (Str.ofString "__new__")) (Value.str (Str.ofString "__new__") 477) (Value.ref 106), DictEntry.mk (PyData.keyHash P (Str.ofString "__static_attributes__")) (Value.str (Str.ofString "__static_attributes__") 478) (Value.ref 103), DictEntry.mk (PyData.keyHash P (Str.ofString "__dict__")) (Value.str (Str.ofString "__dict__") 481) (Value.ref 107), DictEntry.mk (PyData.keyHash P (Str.ofString "__weakref__")) (Value.str (Str.ofString "__weakref__") 483) (Value.ref 108), DictEntry.mk (PyData.keyHash P (Str.ofString "__doc__")) (Value.str (Str.ofString "__doc__") 484) Value.none] 4) #[]) ::
  (nat_lit 105, Obj.mk (Value.type "type") Option.none (Data.cls (ClassData.mk (Str.ofString "IOBase") [Value.type "object"] [Value.ref 105, Value.type "object"] 104 (Str.ofString "IOBase") Bool.true [] [Value.ref 120, Value.ref 132] Bool.false Option.none Bool.false)) #[Option.none, Option.none, Option.some (Value.str (Str.ofString "IOBase") 455), Option.some (Value.str (Str.ofString "IOBase") 463), Option.some Value.none, Option.some (Value.bool Bool.true)]) ::
  (nat_lit 106, Obj.mk (Value.type "staticmethod") Option.none (Data.fields #[Value.ref 102]) #[]) ::
  (nat_lit 107, Obj.mk (Value.type "getset_descriptor") Option.none (Data.fields #[Value.str (Str.ofString "__dict__") 480, Value.ref 105, Value.builtin "function.__dict__", Value.builtin "function.__dict__#set"]) #[]) ::
  (nat_lit 108, Obj.mk (Value.type "getset_descriptor") Option.none (Data.fields #[Value.str (Str.ofString "__weakref__") 482, Value.ref 105, Value.builtin "ExceptionGroup.__weakref__", Value.none]) #[]) ::
  (nat_lit 111, Obj.mk (Value.type "tuple") Option.none (Data.seq #[Value.ref 105] 0) #[]) ::
  (nat_lit 118, Obj.mk (Value.type "tuple") Option.none (Data.seq #[] 0) #[]) ::
  (nat_lit 119, Obj.mk (Value.type "dict") Option.none (Data.dict #[DictEntry.mk (PyData.keyHash P (Str.ofString "__module__")) (Value.str (Str.ofString "__module__") 494) (Value.str (Str.ofString "io") 499), DictEntry.mk (PyData.keyHash P (Str.ofString "__firstlineno__")) (Value.str (Str.ofString "__firstlineno__") 498) (Value.int 41 497), DictEntry.mk (PyData.keyHash P (Str.ofString "__static_attributes__")) (Value.str (Str.ofString "__static_attributes__") 501) (Value.ref 118), DictEntry.mk (PyData.keyHash P (Str.ofString "__doc__")) (Value.str (Str.ofString "__doc__") 502) Value.none] 2) #[]) ::
  (nat_lit 120, Obj.mk (Value.type "type") Option.none (Data.cls (ClassData.mk (Str.ofString "BufferedIOBase") [Value.ref 105] [Value.ref 120, Value.ref 105, Value.type "object"] 119 (Str.ofString "BufferedIOBase") Bool.true [] [Value.ref 362] Bool.false Option.none Bool.false)) #[Option.some (Value.ref 111), Option.none, Option.some (Value.str (Str.ofString "BufferedIOBase") 487), Option.some (Value.str (Str.ofString "BufferedIOBase") 495), Option.some Value.none, Option.some (Value.bool Bool.true)]) ::
  (nat_lit 123, Obj.mk (Value.type "tuple") Option.none (Data.seq #[Value.ref 105] 0) #[]) ::
  (nat_lit 130, Obj.mk (Value.type "tuple") Option.none (Data.seq #[] 0) #[]) ::
  (nat_lit 131, Obj.mk (Value.type "dict") Option.none (Data.dict #[DictEntry.mk (PyData.keyHash P (Str.ofString "__module__")) (Value.str (Str.ofString "__module__") 512) (Value.str (Str.ofString "io") 517), DictEntry.mk (PyData.keyHash P (Str.ofString "__firstlineno__")) (Value.str (Str.ofString "__firstlineno__") 516) (Value.int 43 515), DictEntry.mk (PyData.keyHash P (Str.ofString "__static_attributes__")) (Value.str (Str.ofString "__static_attributes__") 519) (Value.ref 130), DictEntry.mk (PyData.keyHash P (Str.ofString "__doc__")) (Value.str (Str.ofString "__doc__") 520) Value.none] 2) #[]) ::
  (nat_lit 132, Obj.mk (Value.type "type") Option.none (Data.cls (ClassData.mk (Str.ofString "TextIOBase") [Value.ref 105] [Value.ref 132, Value.ref 105, Value.type "object"] 131 (Str.ofString "TextIOBase") Bool.true [] [Value.ref 609] Bool.false Option.none Bool.false)) #[Option.some (Value.ref 123), Option.none, Option.some (Value.str (Str.ofString "TextIOBase") 505), Option.some (Value.str (Str.ofString "TextIOBase") 513), Option.some Value.none, Option.some (Value.bool Bool.true)]) ::
  (nat_lit 135, Obj.mk (Value.type "tuple") Option.none (Data.seq #[Value.ref 120] 0) #[]) ::
  (nat_lit 142, Obj.mk (Value.type "tuple") Option.none (Data.seq #[Value.none] 0) #[]) ::
  (nat_lit 143, Obj.mk (Value.type "tuple") Option.none (Data.seq #[] 0) #[]) ::
  (nat_lit 145, Obj.mk (Value.type "tuple") Option.none (Data.seq #[Value.str (Str.ofString "self") 540, Value.str (Str.ofString "initial_bytes") 541] 0) #[]) ::
  (nat_lit 146, Obj.mk (Value.type "tuple") Option.none (Data.seq #[] 0) #[]) ::
  (nat_lit 148, Obj.mk (Value.type "code") Option.none (Data.fields #[Value.str (Str.ofString "__init__") 537, Value.str (Str.ofString "BytesIO.__init__") 538, Value.str (Str.ofString "/claim/cut.py") 539, Value.int 48 0, Value.int 2 0, Value.int 0 0, Value.int 0 0, Value.int 3 0, Value.ref 143, Value.bool Bool.true, Value.int 318 0, Value.ref 144, Value.none, Value.ref 145, Value.ref 146, Value.ref 147, Value.int 542 0, Value.int 48 0, Value.str (Str.ofString "/claim/cut.py") 543]) #[]) ::
  (nat_lit 149, Obj.mk (Value.type "function") Option.none (Data.func (FuncData.mk (Str.ofString "__init__") (Str.ofString "BytesIO.__init__") (fArgs [14, 1]) (FuncBody.stmts (fBody [14, 1])) (fScope [14, 1]) 3 [] (Value.ref 142) Value.none Value.none (Value.str (Str.ofString "io") 415) Option.none (Value.ref 148) Value.none 0)) #[]) ::
  (nat_lit 150, Obj.mk (Value.type "tuple") Option.none (Data.seq #[] 0) #[]) ::
  (nat_lit 152, Obj.mk (Value.type "tuple") Option.none (Data.seq #[Value.str (Str.ofString "self") 548] 0) #[]) ::
  (nat_lit 153, Obj.mk (Value.type "tuple") Option.none (Data.seq #[] 0) #[]) ::
  (nat_lit 155, Obj.mk (Value.type "code") Option.none (Data.fields #[Value.str (Str.ofString "__check") 545, Value.str (Str.ofString "BytesIO.__check") 546, Value.str (Str.ofString "/claim/cut.py") 547, Value.int 54 0, Value.int 1 0, Value.int 0 0, Value.int 0 0, Value.int 3 0, Value.ref 150, Value.bool Bool.true, Value.int 318 0, Value.ref 151, Value.none, Value.ref 152, Value.ref 153, Value.ref 154, Value.int 549 0, Value.int 54 0, Value.str (Str.ofString "/claim/cut.py") 550]) #[]) ::
  (nat_lit 156, Obj.mk (Value.type "function") Option.none (Data.func (FuncData.mk (Str.ofString "__check") (Str.ofString "BytesIO.__check") (fArgs [14, 2]) (FuncBody.stmts (fBody [14, 2])) (fScope [14, 2]) 3 [] Value.none Value.none Value.none (Value.str (Str.ofString "io") 415) Option.none (Value.ref 155) Value.none 0)) #[]) ::
  (nat_lit 157, Obj.mk (Value.type "tuple") Option.none (Data.seq #[] 0) #[]) ::
  (nat_lit 159, Obj.mk (Value.type "tuple") Option.none (Data.seq #[Value.str (Str.ofString "self") 555, Value.str (Str.ofString "limit") 556, Value.str (Str.ofString "start") 557, Value.str (Str.ofString "stop") 558, Value.str (Str.ofString "i") 559] 0) #[]) ::
  (nat_lit 160, Obj.mk (Value.type "tuple") Option.none (Data.seq #[] 0) #[]) ::
  (nat_lit 162, Obj.mk (Value.type "code") Option.none (Data.fields #[Value.str (Str.ofString "__line") 552, Value.str (Str.ofString "BytesIO.__line") 553, Value.str (Str.ofString "/claim/cut.py") 554, Value.int 58 0, Value.int 2 0, Value.int 0 0, Value.int 0 0, Value.int 3 0, Value.ref 157, Value.bool Bool.true, Value.int 318 0, Value.ref 158, Value.none, Value.ref 159, Value.ref 160, Value.ref 161, Value.int 560 0, Value.int 58 0, Value.str (Str.ofString "/claim/cut.py") 561]) #[]) ::
  (nat_lit 163, Obj.mk (Value.type "function") Option.none (Data.func (FuncData.mk (Str.ofString "__line") (Str.ofString "BytesIO.__line") (fArgs [14, 3]) (FuncBody.stmts (fBody [14, 3])) (fScope [14, 3]) 3 [] Value.none Value.none Value.none (Value.str (Str.ofString "io") 415) Option.none (Value.ref 162) Value.none 0)) #[]) ::
  (nat_lit 164, Obj.mk (Value.type "tuple") Option.none (Data.seq #[] 0) #[]) ::
  (nat_lit 166, Obj.mk (Value.type "tuple") Option.none (Data.seq #[Value.str (Str.ofString "self") 566] 0) #[]) ::
  (nat_lit 167, Obj.mk (Value.type "tuple") Option.none (Data.seq #[] 0) #[]) ::
  (nat_lit 169, Obj.mk (Value.type "code") Option.none (Data.fields #[Value.str (Str.ofString "closed") 563, Value.str (Str.ofString "BytesIO.closed") 564, Value.str (Str.ofString "/claim/cut.py") 565, Value.int 71 0, Value.int 1 0, Value.int 0 0, Value.int 0 0, Value.int 3 0, Value.ref 164, Value.bool Bool.true, Value.int 318 0, Value.ref 165, Value.none, Value.ref 166, Value.ref 167, Value.ref 168, Value.int 567 0, Value.int 71 0, Value.str (Str.ofString "/claim/cut.py") 568]) #[]) ::
  (nat_lit 170, Obj.mk (Value.type "function") Option.none (Data.func (FuncData.mk (Str.ofString "closed") (Str.ofString "BytesIO.closed") (fArgs [14, 4]) (FuncBody.stmts (fBody [14, 4])) (fScope [14, 4]) 3 [] Value.none Value.none Value.none (Value.str (Str.ofString "io") 415) Option.none (Value.ref 169) Value.none 0)) #[]) ::
  (nat_lit 171, Obj.mk (Value.type "property") Option.none (Data.fields #[Value.ref 170, Value.none, Value.none, Value.none, Value.str (Str.ofString "closed") 570, Value.bool Bool.false]) #[]) ::
  (nat_lit 172, Obj.mk (Value.type "tuple") Option.none (Data.seq #[] 0) #[]) ::
  (nat_lit 174, Obj.mk (Value.type "tuple") Option.none (Data.seq #[Value.str (Str.ofString "self") 574] 0) #[]) ::
  (nat_lit 175, Obj.mk (Value.type "tuple") Option.none (Data.seq #[] 0) #[]) ::
  (nat_lit 177, Obj.mk (Value.type "code") Option.none (Data.fields #[Value.str (Str.ofString "close") 571, Value.str (Str.ofString "BytesIO.close") 572, Value.str (Str.ofString "/claim/cut.py") 573, Value.int 75 0, Value.int 1 0, Value.int 0 0, Value.int 0 0, Value.int 3 0, Value.ref 172, Value.bool Bool.true, Value.int 318 0, Value.ref 173, Value.none, Value.ref 174, Value.ref 175, Value.ref 176, Value.int 575 0, Value.int 75 0, Value.str (Str.ofString "/claim/cut.py") 576]) #[]) ::
  (nat_lit 178, Obj.mk (Value.type "function") Option.none (Data.func (FuncData.mk (Str.ofString "close") (Str.ofString "BytesIO.close") (fArgs [14, 5]) (FuncBody.stmts (fBody [14, 5])) (fScope [14, 4]) 3 [] Value.none Value.none Value.none (Value.str (Str.ofString "io") 415) Option.none (Value.ref 177) Value.none 0)) #[]) ::
  (nat_lit 179, Obj.mk (Value.type "tuple") Option.none (Data.seq #[] 0) #[]) ::
  (nat_lit 181, Obj.mk (Value.type "tuple") Option.none (Data.seq #[Value.str (Str.ofString "self") 581] 0) #[]) ::
  (nat_lit 182, Obj.mk (Value.type "tuple") Option.none (Data.seq #[] 0) #[]) ::
  (nat_lit 184, Obj.mk (Value.type "code") Option.none (Data.fields #[Value.str (Str.ofString "__enter__") 578, Value.str (Str.ofString "BytesIO.__enter__") 579, Value.str (Str.ofString "/claim/cut.py") 580, Value.int 78 0, Value.int 1 0, Value.int 0 0, Value.int 0 0, Value.int 3 0, Value.ref 179, Value.bool Bool.true, Value.int 318 0, Value.ref 180, Value.none, Value.ref 181, Value.ref 182, Value.ref 183, Value.int 582 0, Value.int 78 0, Value.str (Str.ofString "/claim/cut.py") 583]) #[]) ::
  (nat_lit 185, Obj.mk (Value.type "function") Option.none (Data.func (FuncData.mk (Str.ofString "__enter__") (Str.ofString "BytesIO.__enter__") (fArgs [14, 6]) (FuncBody.stmts (fBody [14, 6])) (fScope [14, 4]) 3 [] Value.none Value.none Value.none (Value.str (Str.ofString "io") 415) Option.none (Value.ref 184) Value.none 0)) #[]) ::
  (nat_lit 186, Obj.mk (Value.type "tuple") Option.none (Data.seq #[] 0) #[]) ::
  (nat_lit 188, Obj.mk (Value.type "tuple") Option.none (Data.seq #[Value.str (Str.ofString "self") 588, Value.str (Str.ofString "args") 589] 0) #[]) ::
  (nat_lit 189, Obj.mk (Value.type "tuple") Option.none (Data.seq #[] 0) #[]) ::
  (nat_lit 191, Obj.mk (Value.type "code") Option.none (Data.fields #[Value.str (Str.ofString "__exit__") 585, Value.str (Str.ofString "BytesIO.__exit__") 586, Value.str (Str.ofString "/claim/cut.py") 587, Value.int 82 0, Value.int 1 0, Value.int 0 0, Value.int 0 0, Value.int 7 0, Value.ref 186, Value.bool Bool.true, Value.int 318 0, Value.ref 187, Value.none, Value.ref 188, Value.ref 189, Value.ref 190, Value.int 590 0, Value.int 82 0, Value.str (Str.ofString "/claim/cut.py") 591]) #[]) ::
  (nat_lit 192, Obj.mk (Value.type "function") Option.none (Data.func (FuncData.mk (Str.ofString "__exit__") (Str.ofString "BytesIO.__exit__") (fArgs [14, 7]) (FuncBody.stmts (fBody [14, 7])) (fScope [14, 7]) 3 [] Value.none Value.none Value.none (Value.str (Str.ofString "io") 415) Option.none (Value.ref 191) Value.none 0)) #[]) ::
  (nat_lit 193, Obj.mk (Value.type "tuple") Option.none (Data.seq #[] 0) #[]) ::
  (nat_lit 195, Obj.mk (Value.type "tuple") Option.none (Data.seq #[Value.str (Str.ofString "self") 596] 0) #[]) ::
  (nat_lit 196, Obj.mk (Value.type "tuple") Option.none (Data.seq #[] 0) #[]) ::
  (nat_lit 198, Obj.mk (Value.type "code") Option.none (Data.fields #[Value.str (Str.ofString "readable") 593, Value.str (Str.ofString "BytesIO.readable") 594, Value.str (Str.ofString "/claim/cut.py") 595, Value.int 85 0, Value.int 1 0, Value.int 0 0, Value.int 0 0, Value.int 3 0, Value.ref 193, Value.bool Bool.true, Value.int 318 0, Value.ref 194, Value.none, Value.ref 195, Value.ref 196, Value.ref 197, Value.int 597 0, Value.int 85 0, Value.str (Str.ofString "/claim/cut.py") 598]) #[]) ::
  (nat_lit 199, Obj.mk (Value.type "function") Option.none (Data.func (FuncData.mk (Str.ofString "readable") (Str.ofString "BytesIO.readable") (fArgs [14, 8]) (FuncBody.stmts (fBody [14, 8])) (fScope [14, 4]) 3 [] Value.none Value.none Value.none (Value.str (Str.ofString "io") 415) Option.none (Value.ref 198) Value.none 0)) #[]) ::
  (nat_lit 200, Obj.mk (Value.type "tuple") Option.none (Data.seq #[] 0) #[]) ::
  (nat_lit 202, Obj.mk (Value.type "tuple") Option.none (Data.seq #[Value.str (Str.ofString "self") 603] 0) #[]) ::
  (nat_lit 203, Obj.mk (Value.type "tuple") Option.none (Data.seq #[] 0) #[]) ::
  (nat_lit 205, Obj.mk (Value.type "code") Option.none (Data.fields #[Value.str (Str.ofString "writable") 600, Value.str (Str.ofString "BytesIO.writable") 601, Value.str (Str.ofString "/claim/cut.py") 602, Value.int 89 0, Value.int 1 0, Value.int 0 0, Value.int 0 0, Value.int 3 0, Value.ref 200, Value.bool Bool.true, Value.int 318 0, Value.ref 201, Value.none, Value.ref 202, Value.ref 203, Value.ref 204, Value.int 604 0, Value.int 89 0, Value.str (Str.ofString "/claim/cut.py") 605]) #[]) ::
  (nat_lit 206, Obj.mk (Value.type "function") Option.none (Data.func (FuncData.mk (Str.ofString "writable") (Str.ofString "BytesIO.writable") (fArgs [14, 9]) (FuncBody.stmts (fBody [14, 9])) (fScope [14, 4]) 3 [] Value.none Value.none Value.none (Value.str (Str.ofString "io") 415) Option.none (Value.ref 205) Value.none 0)) #[]) ::
  (nat_lit 207, Obj.mk (Value.type "tuple") Option.none (Data.seq #[] 0) #[]) ::
  (nat_lit 209, Obj.mk (Value.type "tuple") Option.none (Data.seq #[Value.str (Str.ofString "self") 610] 0) #[]) ::
  (nat_lit 210, Obj.mk (Value.type "tuple") Option.none (Data.seq #[] 0) #[]) ::
  (nat_lit 212, Obj.mk (Value.type "code") Option.none (Data.fields #[Value.str (Str.ofString "seekable") 607, Value.str (Str.ofString "BytesIO.seekable") 608, Value.str (Str.ofString "/claim/cut.py") 609, Value.int 93 0, Value.int 1 0, Value.int 0 0, Value.int 0 0, Value.int 3 0, Value.ref 207, Value.bool Bool.true, Value.int 318 0, Value.ref 208, Value.none, Value.ref 209, Value.ref 210, Value.ref 211, Value.int 611 0, Value.int 93 0, Value.str (Str.ofString "/claim/cut.py") 612]) #[]) ::
  (nat_lit 213, Obj.mk (Value.type "function") Option.none (Data.func (FuncData.mk (Str.ofString "seekable") (Str.ofString "BytesIO.seekable") (fArgs [14, 10]) (FuncBody.stmts (fBody [14, 10])) (fScope [14, 4]) 3 [] Value.none Value.none Value.none (Value.str (Str.ofString "io") 415) Option.none (Value.ref 212) Value.none 0)) #[]) ::
  (nat_lit 214, Obj.mk (Value.type "tuple") Option.none (Data.seq #[] 0) #[]) ::
  (nat_lit 216, Obj.mk (Value.type "tuple") Option.none (Data.seq #[Value.str (Str.ofString "self") 617] 0) #[]) ::
  (nat_lit 217, Obj.mk (Value.type "tuple") Option.none (Data.seq #[] 0) #[]) ::
  (nat_lit 219, Obj.mk (Value.type "code") Option.none (Data.fields #[Value.str (Str.ofString "isatty") 614, Value.str (Str.ofString "BytesIO.isatty") 615, Value.str (Str.ofString "/claim/cut.py") 616, Value.int 97 0, Value.int 1 0, Value.int 0 0, Value.int 0 0, Value.int 3 0, Value.ref 214, Value.bool Bool.true, Value.int 318 0, Value.ref 215, Value.none, Value.ref 216, Value.ref 217, Value.ref 218, Value.int 618 0, Value.int 97 0, Value.str (Str.ofString "/claim/cut.py") 619]) #[]) ::
  (nat_lit 220, Obj.mk (Value.type "function") Option.none (Data.func (FuncData.mk (Str.ofString "isatty") (Str.ofString "BytesIO.isatty") (fArgs [14, 11]) (FuncBody.stmts (fBody [14, 11])) (fScope [14, 4]) 3 [] Value.none Value.none Value.none (Value.str (Str.ofString "io") 415) Option.none (Value.ref 219) Value.none 0)) #[]) ::
  (nat_lit 221, Obj.mk (Value.type "tuple") Option.none (Data.seq #[] 0) #[]) ::
  (nat_lit 223, Obj.mk (Value.type "tuple") Option.none (Data.seq #[Value.str (Str.ofString "self") 624] 0) #[]) ::
  (nat_lit 224, Obj.mk (Value.type "tuple") Option.none (Data.seq #[] 0) #[]) ::
  (nat_lit 226, Obj.mk (Value.type "code") Option.none (Data.fields #[Value.str (Str.ofString "flush") 621, Value.str (Str.ofString "BytesIO.flush") 622, Value.str (Str.ofString "/claim/cut.py") 623, Value.int 101 0, Value.int 1 0, Value.int 0 0, Value.int 0 0, Value.int 3 0, Value.ref 221, Value.bool Bool.true, Value.int 318 0, Value.ref 222, Value.none, Value.ref 223, Value.ref 224, Value.ref 225, Value.int 625 0, Value.int 101 0, Value.str (Str.ofString "/claim/cut.py") 626]) #[]) ::
  (nat_lit 227, Obj.mk (Value.type "function") Option.none (Data.func (FuncData.mk (Str.ofString "flush") (Str.ofString "BytesIO.flush") (fArgs [14, 12]) (FuncBody.stmts (fBody [14, 12])) (fScope [14, 4]) 3 [] Value.none Value.none Value.none (Value.str (Str.ofString "io") 415) Option.none (Value.ref 226) Value.none 0)) #[]) ::
  (nat_lit 228, Obj.mk (Value.type "tuple") Option.none (Data.seq #[] 0) #[]) ::
  (nat_lit 230, Obj.mk (Value.type "tuple") Option.none (Data.seq #[Value.str (Str.ofString "self") 631] 0) #[]) ::
  (nat_lit 231, Obj.mk (Value.type "tuple") Option.none (Data.seq #[] 0) #[]) ::
  (nat_lit 233, Obj.mk (Value.type "code") Option.none (Data.fields #[Value.str (Str.ofString "fileno") 628, Value.str (Str.ofString "BytesIO.fileno") 629, Value.str (Str.ofString "/claim/cut.py") 630, Value.int 104 0, Value.int 1 0, Value.int 0 0, Value.int 0 0, Value.int 3 0, Value.ref 228, Value.bool Bool.true, Value.int 318 0, Value.ref 229, Value.none, Value.ref 230, Value.ref 231, Value.ref 232, Value.int 632 0, Value.int 104 0, Value.str (Str.ofString "/claim/cut.py") 633]) #[]) ::
  (nat_lit 234, Obj.mk (Value.type "function") Option.none (Data.func (FuncData.mk (Str.ofString "fileno") (Str.ofString "BytesIO.fileno") (fArgs [14, 13]) (FuncBody.stmts (fBody [14, 13])) (fScope [14, 13]) 3 [] Value.none Value.none Value.none (Value.str (Str.ofString "io") 415) Option.none (Value.ref 233) Value.none 0)) #[]) ::
  (nat_lit 235, Obj.mk (Value.type "tuple") Option.none (Data.seq #[] 0) #[]) ::
  (nat_lit 237, Obj.mk (Value.type "tuple") Option.none (Data.seq #[Value.str (Str.ofString "self") 638] 0) #[]) ::
  (nat_lit 238, Obj.mk (Value.type "tuple") Option.none (Data.seq #[] 0) #[]) ::
  (nat_lit 240, Obj.mk (Value.type "code") Option.none (Data.fields #[Value.str (Str.ofString "detach") 635, Value.str (Str.ofString "BytesIO.detach") 636, Value.str (Str.ofString "/claim/cut.py") 637, Value.int 107 0, Value.int 1 0, Value.int 0 0, Value.int 0 0, Value.int 3 0, Value.ref 235, Value.bool Bool.true, Value.int 318 0, Value.ref 236, Value.none, Value.ref 237, Value.ref 238, Value.ref 239, Value.int 639 0, Value.int 107 0, Value.str (Str.ofString "/claim/cut.py") 640]) #[]) ::
  (nat_lit 241, Obj.mk (Value.type "function") Option.none (Data.func (FuncData.mk (Str.ofString "detach") (Str.ofString "BytesIO.detach") (fArgs [14, 14]) (FuncBody.stmts (fBody [14, 14])) (fScope [14, 14]) 3 [] Value.none Value.none Value.none (Value.str (Str.ofString "io") 415) Option.none (Value.ref 240) Value.none 0)) #[]) ::
  (nat_lit 242, Obj.mk (Value.type "tuple") Option.none (Data.seq #[] 0) #[]) ::
  (nat_lit 244, Obj.mk (Value.type "tuple") Option.none (Data.seq #[Value.str (Str.ofString "self") 645] 0) #[]) ::
  (nat_lit 245, Obj.mk (Value.type "tuple") Option.none (Data.seq #[] 0) #[]) ::
  (nat_lit 247, Obj.mk (Value.type "code") Option.none (Data.fields #[Value.str (Str.ofString "getvalue") 642, Value.str (Str.ofString "BytesIO.getvalue") 643, Value.str (Str.ofString "/claim/cut.py") 644, Value.int 110 0, Value.int 1 0, Value.int 0 0, Value.int 0 0, Value.int 3 0, Value.ref 242, Value.bool Bool.true, Value.int 318 0, Value.ref 243, Value.none, Value.ref 244, Value.ref 245, Value.ref 246, Value.int 646 0, Value.int 110 0, Value.str (Str.ofString "/claim/cut.py") 647]) #[]) ::
  (nat_lit 248, Obj.mk (Value.type "function") Option.none (Data.func (FuncData.mk (Str.ofString "getvalue") (Str.ofString "BytesIO.getvalue") (fArgs [14, 15]) (FuncBody.stmts (fBody [14, 15])) (fScope [14, 14]) 3 [] Value.none Value.none Value.none (Value.str (Str.ofString "io") 415) Option.none (Value.ref 247) Value.none 0)) #[]) ::
  (nat_lit 249, Obj.mk (Value.type "tuple") Option.none (Data.seq #[] 0) #[]) ::
  (nat_lit 251, Obj.mk (Value.type "tuple") Option.none (Data.seq #[Value.str (Str.ofString "self") 652] 0) #[]) ::
  (nat_lit 252, Obj.mk (Value.type "tuple") Option.none (Data.seq #[] 0) #[]) ::
  (nat_lit 254, Obj.mk (Value.type "code") Option.none (Data.fields #[Value.str (Str.ofString "getbuffer") 649, Value.str (Str.ofString "BytesIO.getbuffer") 650, Value.str (Str.ofString "/claim/cut.py") 651, Value.int 113 0, Value.int 1 0, Value.int 0 0, Value.int 0 0, Value.int 3 0, Value.ref 249, Value.bool Bool.true, Value.int 318 0, Value.ref 250, Value.none, Value.ref 251, Value.ref 252, Value.ref 253, Value.int 653 0, Value.int 113 0, Value.str (Str.ofString "/claim/cut.py") 654]) #[]) ::
  (nat_lit 255, Obj.mk (Value.type "function") Option.none (Data.func (FuncData.mk (Str.ofString "getbuffer") (Str.ofString "BytesIO.getbuffer") (fArgs [14, 16]) (FuncBody.stmts (fBody [14, 16])) (fScope [14, 14]) 3 [] Value.none Value.none Value.none (Value.str (Str.ofString "io") 415) Option.none (Value.ref 254) Value.none 0)) #[]) ::
  (nat_lit 256, Obj.mk (Value.type "tuple") Option.none (Data.seq #[] 0) #[]) ::
  (nat_lit 258, Obj.mk (Value.type "tuple") Option.none (Data.seq #[Value.str (Str.ofString "self") 659] 0) #[]) ::
  (nat_lit 259, Obj.mk (Value.type "tuple") Option.none (Data.seq #[] 0) #[]) ::
  (nat_lit 261, Obj.mk (Value.type "code") Option.none (Data.fields #[Value.str (Str.ofString "tell") 656, Value.str (Str.ofString "BytesIO.tell") 657, Value.str (Str.ofString "/claim/cut.py") 658, Value.int 116 0, Value.int 1 0, Value.int 0 0, Value.int 0 0, Value.int 3 0, Value.ref 256, Value.bool Bool.true, Value.int 318 0, Value.ref 257, Value.none, Value.ref 258, Value.ref 259, Value.ref 260, Value.int 660 0, Value.int 116 0, Value.str (Str.ofString "/claim/cut.py") 661]) #[]) ::
  (nat_lit 262, Obj.mk (Value.type "function") Option.none (Data.func (FuncData.mk (Str.ofString "tell") (Str.ofString "BytesIO.tell") (fArgs [14, 17]) (FuncBody.stmts (fBody [14, 17])) (fScope [14, 4]) 3 [] Value.none Value.none Value.none (Value.str (Str.ofString "io") 415) Option.none (Value.ref 261) Value.none 0)) #[]) ::
  (nat_lit 263, Obj.mk (Value.type "tuple") Option.none (Data.seq #[Value.int 0 663] 0) #[]) ::
  (nat_lit 264, Obj.mk (Value.type "tuple") Option.none (Data.seq #[] 0) #[]) ::
  (nat_lit 266, Obj.mk (Value.type "tuple") Option.none (Data.seq #[Value.str (Str.ofString "self") 667, Value.str (Str.ofString "pos") 668, Value.str (Str.ofString "whence") 669] 0) #[]) ::
  (nat_lit 267, Obj.mk (Value.type "tuple") Option.none (Data.seq #[] 0) #[]) ::
  (nat_lit 269, Obj.mk (Value.type "code") Option.none (Data.fields #[Value.str (Str.ofString "seek") 664, Value.str (Str.ofString "BytesIO.seek") 665, Value.str (Str.ofString "/claim/cut.py") 666, Value.int 120 0, Value.int 3 0, Value.int 3 0, Value.int 0 0, Value.int 3 0, Value.ref 264, Value.bool Bool.true, Value.int 318 0, Value.ref 265, Value.none, Value.ref 266, Value.ref 267, Value.ref 268, Value.int 670 0, Value.int 120 0, Value.str (Str.ofString "/claim/cut.py") 671]) #[]) ::
  (nat_lit 270, Obj.mk (Value.type "function") Option.none (Data.func (FuncData.mk (Str.ofString "seek") (Str.ofString "BytesIO.seek") (fArgs [14, 18]) (FuncBody.stmts (fBody [14, 18])) (fScope [14, 18]) 3 [] (Value.ref 263) Value.none Value.none (Value.str (Str.ofString "io") 415) Option.none (Value.ref 269) Value.none 0)) #[]) ::
  (nat_lit 271, Obj.mk (Value.type "tuple") Option.none (Data.seq #[Value.none] 0) #[]) ::
  (nat_lit 272, Obj.mk (Value.type "tuple") Option.none (Data.seq #[] 0) #[]) ::
  (nat_lit 274, Obj.mk (Value.type "tuple") Option.none (Data.seq #[Value.str (Str.ofString "self") 676, Value.str (Str.ofString "size") 677] 0) #[]) ::
  (nat_lit 275, Obj.mk (Value.type "tuple") Option.none (Data.seq #[] 0) #[]) ::
  (nat_lit 277, Obj.mk (Value.type "code") Option.none (Data.fields #[Value.str (Str.ofString "truncate") 673, Value.str (Str.ofString "BytesIO.truncate") 674, Value.str (Str.ofString "/claim/cut.py") 675, Value.int 137 0, Value.int 2 0, Value.int 2 0, Value.int 0 0, Value.int 3 0, Value.ref 272, Value.bool Bool.true, Value.int 318 0, Value.ref 273, Value.none, Value.ref 274, Value.ref 275, Value.ref 276, Value.int 678 0, Value.int 137 0, Value.str (Str.ofString "/claim/cut.py") 679]) #[]) ::
  (nat_lit 278, Obj.mk (Value.type "function") Option.none (Data.func (FuncData.mk (Str.ofString "truncate") (Str.ofString "BytesIO.truncate") (fArgs [14, 19]) (FuncBody.stmts (fBody [14, 19])) (fScope [14, 19]) 3 [] (Value.ref 271) Value.none Value.none (Value.str (Str.ofString "io") 415) Option.none (Value.ref 277) Value.none 0)) #[]) ::
  (nat_lit 279, Obj.mk (Value.type "tuple") Option.none (Data.seq #[Value.int (-1) 682] 0) #[]) ::
  (nat_lit 280, Obj.mk (Value.type "tuple") Option.none (Data.seq #[] 0) #[]) ::
  (nat_lit 282, Obj.mk (Value.type "tuple") Option.none (Data.seq #[Value.str (Str.ofString "self") 686, Value.str (Str.ofString "size") 687, Value.str (Str.ofString "start") 688, Value.str (Str.ofString "stop") 689] 0) #[]) ::
  (nat_lit 283, Obj.mk (Value.type "tuple") Option.none (Data.seq #[] 0) #[]) ::
  (nat_lit 285, Obj.mk (Value.type "code") Option.none (Data.fields #[Value.str (Str.ofString "read") 683, Value.str (Str.ofString "BytesIO.read") 684, Value.str (Str.ofString "/claim/cut.py") 685, Value.int 140 0, Value.int 2 0, Value.int 2 0, Value.int 0 0, Value.int 3 0, Value.ref 280, Value.bool Bool.true, Value.int 318 0, Value.ref 281, Value.none, Value.ref 282, Value.ref 283, Value.ref 284, Value.int 690 0, Value.int 140 0, Value.str (Str.ofString "/claim/cut.py") 691]) #[]) ::
  (nat_lit 286, Obj.mk (Value.type "function") Option.none (Data.func (FuncData.mk (Str.ofString "read") (Str.ofString "BytesIO.read") (fArgs [14, 20]) (FuncBody.stmts (fBody [14, 20])) (fScope [14, 20]) 3 [] (Value.ref 279) Value.none Value.none (Value.str (Str.ofString "io") 415) Option.none (Value.ref 285) Value.none 0)) #[]) ::
  (nat_lit 287, Obj.mk (Value.type "tuple") Option.none (Data.seq #[Value.int (-1) 694] 0) #[]) ::
  (nat_lit 288, Obj.mk (Value.type "tuple") Option.none (Data.seq #[] 0) #[]) ::
  (nat_lit 290, Obj.mk (Value.type "tuple") Option.none (Data.seq #[Value.str (Str.ofString "self") 698, Value.str (Str.ofString "size") 699] 0) #[]) ::
  (nat_lit 291, Obj.mk (Value.type "tuple") Option.none (Data.seq #[] 0) #[]) ::
  (nat_lit 293, Obj.mk (Value.type "code") Option.none (Data.fields #[Value.str (Str.ofString "read1") 695, Value.str (Str.ofString "BytesIO.read1") 696, Value.str (Str.ofString "/claim/cut.py") 697, Value.int 154 0, Value.int 2 0, Value.int 2 0, Value.int 0 0, Value.int 3 0, Value.ref 288, Value.bool Bool.true, Value.int 318 0, Value.ref 289, Value.none, Value.ref 290, Value.ref 291, Value.ref 292, Value.int 700 0, Value.int 154 0, Value.str (Str.ofString "/claim/cut.py") 701]) #[]) ::
  (nat_lit 294, Obj.mk (Value.type "function") Option.none (Data.func (FuncData.mk (Str.ofString "read1") (Str.ofString "BytesIO.read1") (fArgs [14, 21]) (FuncBody.stmts (fBody [14, 21])) (fScope [14, 19]) 3 [] (Value.ref 287) Value.none Value.none (Value.str (Str.ofString "io") 415) Option.none (Value.ref 293) Value.none 0)) #[]) ::
  (nat_lit 295, Obj.mk (Value.type "tuple") Option.none (Data.seq #[] 0) #[]) ::
  (nat_lit 297, Obj.mk (Value.type "tuple") Option.none (Data.seq #[Value.str (Str.ofString "self") 706, Value.str (Str.ofString "buffer") 707, Value.str (Str.ofString "start") 708, Value.str (Str.ofString "n") 709] 0) #[]) ::
  (nat_lit 298, Obj.mk (Value.type "tuple") Option.none (Data.seq #[] 0) #[]) ::
  (nat_lit 300, Obj.mk (Value.type "code") Option.none (Data.fields #[Value.str (Str.ofString "readinto") 703, Value.str (Str.ofString "BytesIO.readinto") 704, Value.str (Str.ofString "/claim/cut.py") 705, Value.int 157 0, Value.int 2 0, Value.int 2 0, Value.int 0 0, Value.int 3 0, Value.ref 295, Value.bool Bool.true, Value.int 318 0, Value.ref 296, Value.none, Value.ref 297, Value.ref 298, Value.ref 299, Value.int 710 0, Value.int 157 0, Value.str (Str.ofString "/claim/cut.py") 711]) #[]) ::
  (nat_lit 301, Obj.mk (Value.type "function") Option.none (Data.func (FuncData.mk (Str.ofString "readinto") (Str.ofString "BytesIO.readinto") (fArgs [14, 22]) (FuncBody.stmts (fBody [14, 22])) (fScope [14, 22]) 3 [] Value.none Value.none Value.none (Value.str (Str.ofString "io") 415) Option.none (Value.ref 300) Value.none 0)) #[]) ::
  (nat_lit 302, Obj.mk (Value.type "tuple") Option.none (Data.seq #[] 0) #[]) ::
  (nat_lit 304, Obj.mk (Value.type "tuple") Option.none (Data.seq #[Value.str (Str.ofString "self") 716, Value.str (Str.ofString "buffer") 717] 0) #[]) ::
  (nat_lit 305, Obj.mk (Value.type "tuple") Option.none (Data.seq #[] 0) #[]) ::
  (nat_lit 307, Obj.mk (Value.type "code") Option.none (Data.fields #[Value.str (Str.ofString "readinto1") 713, Value.str (Str.ofString "BytesIO.readinto1") 714, Value.str (Str.ofString "/claim/cut.py") 715, Value.int 171 0, Value.int 2 0, Value.int 2 0, Value.int 0 0, Value.int 3 0, Value.ref 302, Value.bool Bool.true, Value.int 318 0, Value.ref 303, Value.none, Value.ref 304, Value.ref 305, Value.ref 306, Value.int 718 0, Value.int 171 0, Value.str (Str.ofString "/claim/cut.py") 719]) #[]) ::
  (nat_lit 308, Obj.mk (Value.type "function") Option.none (Data.func (FuncData.mk (Str.ofString "readinto1") (Str.ofString "BytesIO.readinto1") (fArgs [14, 23]) (FuncBody.stmts (fBody [14, 23])) (fScope [14, 23]) 3 [] Value.none Value.none Value.none (Value.str (Str.ofString "io") 415) Option.none (Value.ref 307) Value.none 0)) #[]) ::
  (nat_lit 309, Obj.mk (Value.type "tuple") Option.none (Data.seq #[Value.int (-1) 722] 0) #[]) ::
  (nat_lit 310, Obj.mk (Value.type "tuple") Option.none (Data.seq #[] 0) #[]) ::
  (nat_lit 312, Obj.mk (Value.type "tuple") Option.none (Data.seq #[Value.str (Str.ofString "self") 726, Value.str (Str.ofString "size") 727] 0) #[]) ::
  (nat_lit 313, Obj.mk (Value.type "tuple") Option.none (Data.seq #[] 0) #[]) ::
  (nat_lit 315, Obj.mk (Value.type "code") Option.none (Data.fields #[Value.str (Str.ofString "readline") 723, Value.str (Str.ofString "BytesIO.readline") 724, Value.str (Str.ofString "/claim/cut.py") 725, Value.int 174 0, Value.int 2 0, Value.int 2 0, Value.int 0 0, Value.int 3 0, Value.ref 310, Value.bool Bool.true, Value.int 318 0, Value.ref 311, Value.none, Value.ref 312, Value.ref 313, Value.ref 314, Value.int 728 0, Value.int 174 0, Value.str (Str.ofString "/claim/cut.py") 729]) #[]) ::
  (nat_lit 316, Obj.mk (Value.type "function") Option.none (Data.func (FuncData.mk (Str.ofString "readline") (Str.ofString "BytesIO.readline") (fArgs [14, 24]) (FuncBody.stmts (fBody [14, 24])) (fScope [14, 24]) 3 [] (Value.ref 309) Value.none Value.none (Value.str (Str.ofString "io") 415) Option.none (Value.ref 315) Value.none 0)) #[]) ::
  (nat_lit 317, Obj.mk (Value.type "tuple") Option.none (Data.seq #[Value.none] 0) #[]) ::
  (nat_lit 318, Obj.mk (Value.type "tuple") Option.none (Data.seq #[] 0) #[]) ::
  (nat_lit 320, Obj.mk (Value.type "tuple") Option.none (Data.seq #[Value.str (Str.ofString "self") 734, Value.str (Str.ofString "size") 735] 0) #[]) ::
  (nat_lit 321, Obj.mk (Value.type "tuple") Option.none (Data.seq #[] 0) #[]) ::
  (nat_lit 323, Obj.mk (Value.type "code") Option.none (Data.fields #[Value.str (Str.ofString "readlines") 731, Value.str (Str.ofString "BytesIO.readlines") 732, Value.str (Str.ofString "/claim/cut.py") 733, Value.int 181 0, Value.int 2 0, Value.int 2 0, Value.int 0 0, Value.int 3 0, Value.ref 318, Value.bool Bool.true, Value.int 318 0, Value.ref 319, Value.none, Value.ref 320, Value.ref 321, Value.ref 322, Value.int 736 0, Value.int 181 0, Value.str (Str.ofString "/claim/cut.py") 737]) #[]) ::
  (nat_lit 324, Obj.mk (Value.type "function") Option.none (Data.func (FuncData.mk (Str.ofString "readlines") (Str.ofString "BytesIO.readlines") (fArgs [14, 25]) (FuncBody.stmts (fBody [14, 25])) (fScope [14, 19]) 3 [] (Value.ref 317) Value.none Value.none (Value.str (Str.ofString "io") 415) Option.none (Value.ref 323) Value.none 0)) #[]) ::
  (nat_lit 325, Obj.mk (Value.type "tuple") Option.none (Data.seq #[] 0) #[]) ::
  (nat_lit 327, Obj.mk (Value.type "tuple") Option.none (Data.seq #[Value.str (Str.ofString "self") 742] 0) #[]) ::
  (nat_lit 328, Obj.mk (Value.type "tuple") Option.none (Data.seq #[] 0) #[]) ::
  (nat_lit 330, Obj.mk (Value.type "code") Option.none (Data.fields #[Value.str (Str.ofString "__iter__") 739, Value.str (Str.ofString "BytesIO.__iter__") 740, Value.str (Str.ofString "/claim/cut.py") 741, Value.int 184 0, Value.int 1 0, Value.int 0 0, Value.int 0 0, Value.int 3 0, Value.ref 325, Value.bool Bool.true, Value.int 318 0, Value.ref 326, Value.none, Value.ref 327, Value.ref 328, Value.ref 329, Value.int 743 0, Value.int 184 0, Value.str (Str.ofString "/claim/cut.py") 744]) #[]) ::
  (nat_lit 331, Obj.mk (Value.type "function") Option.none (Data.func (FuncData.mk (Str.ofString "__iter__") (Str.ofString "BytesIO.__iter__") (fArgs [14, 26]) (FuncBody.stmts (fBody [14, 26])) (fScope [14, 4]) 3 [] Value.none Value.none Value.none (Value.str (Str.ofString "io") 415) Option.none (Value.ref 330) Value.none 0)) #[]) ::
  (nat_lit 332, Obj.mk (Value.type "tuple") Option.none (Data.seq #[] 0) #[]) ::
  (nat_lit 334, Obj.mk (Value.type "tuple") Option.none (Data.seq #[Value.str (Str.ofString "self") 749, Value.str (Str.ofString "line") 750] 0) #[]) ::
  (nat_lit 335, Obj.mk (Value.type "tuple") Option.none (Data.seq #[] 0) #[]) ::
  (nat_lit 337, Obj.mk (Value.type "code") Option.none (Data.fields #[Value.str (Str.ofString "__next__") 746, Value.str (Str.ofString "BytesIO.__next__") 747, Value.str (Str.ofString "/claim/cut.py") 748, Value.int 187 0, Value.int 1 0, Value.int 0 0, Value.int 0 0, Value.int 3 0, Value.ref 332, Value.bool Bool.true, Value.int 318 0, Value.ref 333, Value.none, Value.ref 334, Value.ref 335, Value.ref 336, Value.int 751 0, Value.int 187 0, Value.str (Str.ofString "/claim/cut.py") 752]) #[]) ::
  (nat_lit 338, Obj.mk (Value.type "function") Option.none (Data.func (FuncData.mk (Str.ofString "__next__") (Str.ofString "BytesIO.__next__") (fArgs [14, 27]) (FuncBody.stmts (fBody [14, 27])) (fScope [14, 27]) 3 [] Value.none Value.none Value.none (Value.str (Str.ofString "io") 415) Option.none (Value.ref 337) Value.none 0)) #[]) ::
  (nat_lit 339, Obj.mk (Value.type "tuple") Option.none (Data.seq #[] 0) #[]) ::
  (nat_lit 341, Obj.mk (Value.type "tuple") Option.none (Data.seq #[Value.str (Str.ofString "self") 757, Value.str (Str.ofString "b") 758, Value.str (Str.ofString "n") 759, Value.str (Str.ofString "start") 760] 0) #[]) ::
  (nat_lit 342, Obj.mk (Value.type "tuple") Option.none (Data.seq #[] 0) #[]) ::
  (nat_lit 344, Obj.mk (Value.type "code") Option.none (Data.fields #[Value.str (Str.ofString "write") 754, Value.str (Str.ofString "BytesIO.write") 755, Value.str (Str.ofString "/claim/cut.py") 756, Value.int 194 0, Value.int 2 0, Value.int 2 0, Value.int 0 0, Value.int 3 0, Value.ref 339, Value.bool Bool.true, Value.int 318 0, Value.ref 340, Value.none, Value.ref 341, Value.ref 342, Value.ref 343, Value.int 761 0, Value.int 194 0, Value.str (Str.ofString "/claim/cut.py") 762]) #[]) ::
  (nat_lit 345, Obj.mk (Value.type "function") Option.none (Data.func (FuncData.mk (Str.ofString "write") (Str.ofString "BytesIO.write") (fArgs [14, 28]) (FuncBody.stmts (fBody [14, 28])) (fScope [14, 28]) 3 [] Value.none Value.none Value.none (Value.str (Str.ofString "io") 415) Option.none (Value.ref 344) Value.none 0)) #[]) ::
  (nat_lit 346, Obj.mk (Value.type "tuple") Option.none (Data.seq #[] 0) #[]) ::
  (nat_lit 348, Obj.mk (Value.type "tuple") Option.none (Data.seq #[Value.str (Str.ofString "self") 767, Value.str (Str.ofString "lines") 768] 0) #[]) ::
  (nat_lit 349, Obj.mk (Value.type "tuple") Option.none (Data.seq #[] 0) #[]) ::
  (nat_lit 351, Obj.mk (Value.type "code") Option.none (Data.fields #[Value.str (Str.ofString "writelines") 764, Value.str (Str.ofString "BytesIO.writelines") 765, Value.str (Str.ofString "/claim/cut.py") 766, Value.int 210 0, Value.int 2 0, Value.int 2 0, Value.int 0 0, Value.int 3 0, Value.ref 346, Value.bool Bool.true, Value.int 318 0, Value.ref 347, Value.none, Value.ref 348, Value.ref 349, Value.ref 350, Value.int 769 0, Value.int 210 0, Value.str (Str.ofString "/claim/cut.py") 770]) #[]) ::
  (nat_lit 352, Obj.mk (Value.type "function") Option.none (Data.func (FuncData.mk (Str.ofString "writelines") (Str.ofString "BytesIO.writelines") (fArgs [14, 29]) (FuncBody.stmts (fBody [14, 29])) (fScope [14, 29]) 3 [] Value.none Value.none Value.none (Value.str (Str.ofString "io") 415) Option.none (Value.ref 351) Value.none 0)) #[]) ::
  (nat_lit 353, Obj.mk (Value.type "tuple") Option.none (Data.seq #[] 0) #[]) ::
  (nat_lit 355, Obj.mk (Value.type "tuple") Option.none (Data.seq #[Value.str (Str.ofString "self") 775] 0) #[]) ::
  (nat_lit 356, Obj.mk (Value.type "tuple") Option.none (Data.seq #[] 0) #[]) ::
  (nat_lit 358, Obj.mk (Value.type "code") Option.none (Data.fields #[Value.str (Str.ofString "__repr__") 772, Value.str (Str.ofString "BytesIO.__repr__") 773, Value.str (Str.ofString "/claim/cut.py") 774, Value.int 213 0, Value.int 1 0, Value.int 0 0, Value.int 0 0, Value.int 3 0, Value.ref 353, Value.bool Bool.true, Value.int 318 0, Value.ref 354, Value.none, Value.ref 355, Value.ref 356, Value.ref 357, Value.int 776 0, Value.int 213 0, Value.str (Str.ofString "/claim/cut.py") 777]) #[]) ::
  (nat_lit 359, Obj.mk (Value.type "function") Option.none (Data.func (FuncData.mk (Str.ofString "__repr__") (Str.ofString "BytesIO.__repr__") (fArgs [14, 30]) (FuncBody.stmts (fBody [14, 30])) (fScope [14, 14]) 3 [] Value.none Value.none Value.none (Value.str (Str.ofString "io") 415) Option.none (Value.ref 358) Value.none 0)) #[]) ::
  (nat_lit 360, Obj.mk (Value.type "tuple") Option.none (Data.seq #[Value.str (Str.ofString "__buf") 779, Value.str (Str.ofString "__pos") 780] 0) #[]) ::
  (nat_lit 361, Obj.mk (Value.type "dict") Option.none (Data.dict #[DictEntry.mk (PyData.keyHash P (Str.ofString "__module__")) (Value.str (Str.ofString "__module__") 530) (Value.str (Str.ofString "_io") 535), DictEntry.mk (PyData.keyHash P (Str.ofString "__firstlineno__")) (Value.str (Str.ofString "__firstlineno__") 534) (Value.int 45 533), DictEntry.mk (PyData.keyHash P (Str.ofString "__init__")) (Value.str (Str.ofString "__init__") 544) (Value.ref 149), DictEntry.mk (PyData.keyHash P (Str.ofString "_BytesIO__check")) (Value.str (Str.ofString "_BytesIO__check") 551) (Value.ref 156), DictEntry.mk (PyData.keyHash P (Str.ofString "_BytesIO__line")) (Value.str (Str.ofString "_BytesIO__line") 562) (Value.ref 163), DictEntry.mk (PyData.keyHash P (Str.ofString "closed")) (Value.str (Str.ofString "closed") 570) (Value.ref 171), DictEntry.mk (PyData.keyHash P (Str.ofString "close")) (Value.str (Str.ofString "close") 577) (Value.ref 178), DictEntry.mk (PyData.keyHash P (Str.ofString "__enter__")) (Value.str (Str.ofString "__enter__") 584) (Value.ref 185), DictEntry.mk (PyData.keyHash P (Str.ofString "__exit__")) (Value.str (Str.ofString "__exit__") 592) (Value.ref 192), DictEntry.mk (PyData.keyHash P (Str.ofString "readable")) (Value.str (Str.ofString "readable") 599) (Value.ref 199), DictEntry.mk (PyData.keyHash P (Str.ofString "writable")) (Value.str (Str.ofString "writable") 606) (Value.ref 206), DictEntry.mk (PyData.keyHash P (Str.ofString "seekable")) (Value.str (Str.ofString "seekable") 613) (Value.ref 213), DictEntry.mk (PyData.keyHash P (Str.ofString "isatty")) (Value.str (Str.ofString "isatty") 620) (Value.ref 220), DictEntry.mk (PyData.keyHash P (Str.ofString "flush")) (Value.str (Str.ofString "flush") 627) (Value.ref 227), DictEntry.mk (PyData.keyHash P (Str.ofString "fileno")) (Value.str (Str.ofString "fileno") 634) (Value.ref 234), DictEntry.mk (PyData.keyHash P (Str.ofString "detach")) (Value.str (Str.ofString "detach") 641) (Value.ref 241), DictEntry.mk (PyData.keyHash P (Str.ofString "getvalue")) (Value.str (Str.ofString "getvalue") 648) (Value.ref 248), DictEntry.mk (PyData.keyHash P (Str.ofString "getbuffer")) (Value.str (Str.ofString "getbuffer") 655) (Value.ref 255), DictEntry.mk (PyData.keyHash P (Str.ofString "tell")) (Value.str (Str.ofString "tell") 662) (Value.ref 262), DictEntry.mk (PyData.keyHash P (Str.ofString "seek")) (Value.str (Str.ofString "seek") 672) (Value.ref 270), DictEntry.mk (PyData.keyHash P (Str.ofString "truncate")) (Value.str (Str.ofString "truncate") 680) (Value.ref 278), DictEntry.mk (PyData.keyHash P (Str.ofString "read")) (Value.str (Str.ofString "read") 692) (Value.ref 286), DictEntry.mk (PyData.keyHash P (Str.ofString "read1")) (Value.str (Str.ofString "read1") 702) (Value.ref 294), DictEntry.mk (PyData.keyHash P (Str.ofString "readinto")) (Value.str (Str.ofString "readinto") 712) (Value.ref 301), DictEntry.mk (PyData.keyHash P (Str.ofString "readinto1")) (Value.str (Str.ofString "readinto1") 720) (Value.ref 308), DictEntry.mk (PyData.keyHash P (Str.ofString "readline")) (Value.str (Str.ofString "readline") 730) (Value.ref 316), DictEntry.mk (PyData.keyHash P (Str.ofString "readlines")) (Value.str (Str.ofString "readlines") 738) (Value.ref 324), DictEntry.mk (PyData.keyHash P (Str.ofString "__iter__")) (Value.str (Str.ofString "__iter__") 745) (Value.ref 331), DictEntry.mk (PyData.keyHash P (Str.ofString "__next__")) (Value.str (Str.ofString "__next__") 753) (Value.ref 338), DictEntry.mk (PyData.keyHash P (Str.ofString "write")) (Value.str (Str.ofString "write") 763) (Value.ref 345), DictEntry.mk (PyData.keyHash P (Str.ofString "writelines")) (Value.str (Str.ofString "writelines") 771) (Value.ref 352), DictEntry.mk (PyData.keyHash P (Str.ofString "__repr__")) (Value.str (Str.ofString "__repr__") 778) (Value.ref 359), DictEntry.mk (PyData.keyHash P (Str.ofString "__static_attributes__")) (Value.str (Str.ofString "__static_attributes__") 781) (Value.ref 360), DictEntry.mk (PyData.keyHash P (Str.ofString "__doc__")) (Value.str (Str.ofString "__doc__") 782) Value.none] 2) #[]) ::
  (nat_lit 362, Obj.mk (Value.type "type") Option.none (Data.cls (ClassData.mk (Str.ofString "BytesIO") [Value.ref 120] [Value.ref 362, Value.ref 120, Value.ref 105, Value.type "object"] 361 (Str.ofString "BytesIO") Bool.true [] [] Bool.false Option.none Bool.false)) #[Option.some (Value.ref 135), Option.none, Option.some (Value.str (Str.ofString "BytesIO") 523), Option.some (Value.str (Str.ofString "BytesIO") 531), Option.some Value.none, Option.some (Value.bool Bool.true)]) ::
  (nat_lit 365, Obj.mk (Value.type "tuple") Option.none (Data.seq #[Value.ref 132] 0) #[]) ::
  (nat_lit 372, Obj.mk (Value.type "tuple") Option.none (Data.seq #[Value.str (Str.ofString "") 799, Value.str (Str.ofString "\n") 800] 0) #[]) ::
  (nat_lit 373, Obj.mk (Value.type "tuple") Option.none (Data.seq #[] 0) #[]) ::
  (nat_lit 375, Obj.mk (Value.type "tuple") Option.none (Data.seq #[Value.str (Str.ofString "self") 804, Value.str (Str.ofString "initial_value") 805, Value.str (Str.ofString "newline") 806] 0) #[]) ::
  (nat_lit 376, Obj.mk (Value.type "tuple") Option.none (Data.seq #[] 0) #[]) ::
  (nat_lit 378, Obj.mk (Value.type "code") Option.none (Data.fields #[Value.str (Str.ofString "__init__") 801, Value.str (Str.ofString "StringIO.__init__") 802, Value.str (Str.ofString "/claim/cut.py") 803, Value.int 218 0, Value.int 3 0, Value.int 0 0, Value.int 0 0, Value.int 3 0, Value.ref 373, Value.bool Bool.true, Value.int 318 0, Value.ref 374, Value.none, Value.ref 375, Value.ref 376, Value.ref 377, Value.int 807 0, Value.int 218 0, Value.str (Str.ofString "/claim/cut.py") 808]) #[]) ::
  (nat_lit 379, Obj.mk (Value.type "function") Option.none (Data.func (FuncData.mk (Str.ofString "__init__") (Str.ofString "StringIO.__init__") (fArgs [15, 1]) (FuncBody.stmts (fBody [15, 1])) (fScope [15, 1]) 3 [] (Value.ref 372) Value.none Value.none (Value.str (Str.ofString "io") 415) Option.none (Value.ref 378) Value.none 0)) #[]) ::
  (nat_lit 380, Obj.mk (Value.type "tuple") Option.none (Data.seq #[] 0) #[]) ::
  (nat_lit 382, Obj.mk (Value.type "tuple") Option.none (Data.seq #[Value.str (Str.ofString "self") 813, Value.str (Str.ofString "s") 814, Value.str (Str.ofString "newline") 815] 0) #[]) ::
  (nat_lit 383, Obj.mk (Value.type "tuple") Option.none (Data.seq #[] 0) #[]) ::
  (nat_lit 385, Obj.mk (Value.type "code") Option.none (Data.fields #[Value.str (Str.ofString "__translated") 810, Value.str (Str.ofString "StringIO.__translated") 811, Value.str (Str.ofString "/claim/cut.py") 812, Value.int 231 0, Value.int 2 0, Value.int 0 0, Value.int 0 0, Value.int 3 0, Value.ref 380, Value.bool Bool.true, Value.int 318 0, Value.ref 381, Value.none, Value.ref 382, Value.ref 383, Value.ref 384, Value.int 816 0, Value.int 231 0, Value.str (Str.ofString "/claim/cut.py") 817]) #[]) ::
  (nat_lit 386, Obj.mk (Value.type "function") Option.none (Data.func (FuncData.mk (Str.ofString "__translated") (Str.ofString "StringIO.__translated") (fArgs [15, 2]) (FuncBody.stmts (fBody [15, 2])) (fScope [15, 2]) 3 [] Value.none Value.none Value.none (Value.str (Str.ofString "io") 415) Option.none (Value.ref 385) Value.none 0)) #[]) ::
  (nat_lit 387, Obj.mk (Value.type "tuple") Option.none (Data.seq #[] 0) #[]) ::
  (nat_lit 389, Obj.mk (Value.type "tuple") Option.none (Data.seq #[Value.str (Str.ofString "self") 822] 0) #[]) ::
  (nat_lit 390, Obj.mk (Value.type "tuple") Option.none (Data.seq #[] 0) #[]) ::
  (nat_lit 392, Obj.mk (Value.type "code") Option.none (Data.fields #[Value.str (Str.ofString "__check") 819, Value.str (Str.ofString "StringIO.__check") 820, Value.str (Str.ofString "/claim/cut.py") 821, Value.int 239 0, Value.int 1 0, Value.int 0 0, Value.int 0 0, Value.int 3 0, Value.ref 387, Value.bool Bool.true, Value.int 318 0, Value.ref 388, Value.none, Value.ref 389, Value.ref 390, Value.ref 391, Value.int 823 0, Value.int 239 0, Value.str (Str.ofString "/claim/cut.py") 824]) #[]) ::
  (nat_lit 393, Obj.mk (Value.type "function") Option.none (Data.func (FuncData.mk (Str.ofString "__check") (Str.ofString "StringIO.__check") (fArgs [15, 3]) (FuncBody.stmts (fBody [15, 3])) (fScope [14, 2]) 3 [] Value.none Value.none Value.none (Value.str (Str.ofString "io") 415) Option.none (Value.ref 392) Value.none 0)) #[]) ::
  (nat_lit 394, Obj.mk (Value.type "tuple") Option.none (Data.seq #[] 0) #[]) ::
  (nat_lit 396, Obj.mk (Value.type "tuple") Option.none (Data.seq #[Value.str (Str.ofString "self") 829] 0) #[]) ::
  (nat_lit 397, Obj.mk (Value.type "tuple") Option.none (Data.seq #[] 0) #[]) ::
  (nat_lit 399, Obj.mk (Value.type "code") Option.none (Data.fields #[Value.str (Str.ofString "__check_dot") 826, Value.str (Str.ofString "StringIO.__check_dot") 827, Value.str (Str.ofString "/claim/cut.py") 828, Value.int 243 0, Value.int 1 0, Value.int 0 0, Value.int 0 0, Value.int 3 0, Value.ref 394, Value.bool Bool.true, Value.int 318 0, Value.ref 395, Value.none, Value.ref 396, Value.ref 397, Value.ref 398, Value.int 830 0, Value.int 243 0, Value.str (Str.ofString "/claim/cut.py") 831]) #[]) ::
  (nat_lit 400, Obj.mk (Value.type "function") Option.none (Data.func (FuncData.mk (Str.ofString "__check_dot") (Str.ofString "StringIO.__check_dot") (fArgs [15, 4]) (FuncBody.stmts (fBody [15, 4])) (fScope [14, 2]) 3 [] Value.none Value.none Value.none (Value.str (Str.ofString "io") 415) Option.none (Value.ref 399) Value.none 0)) #[]) ::
  (nat_lit 401, Obj.mk (Value.type "tuple") Option.none (Data.seq #[] 0) #[]) ::
  (nat_lit 403, Obj.mk (Value.type "tuple") Option.none (Data.seq #[Value.str (Str.ofString "self") 836, Value.str (Str.ofString "limit") 837, Value.str (Str.ofString "start") 838, Value.str (Str.ofString "stop") 839, Value.str (Str.ofString "cut") 840, Value.str (Str.ofString "newline") 841, Value.str (Str.ofString "i") 842, Value.str (Str.ofString "j") 843, Value.str (Str.ofString "end") 844] 0) #[]) ::
  (nat_lit 404, Obj.mk (Value.type "tuple") Option.none (Data.seq #[] 0) #[]) ::
  (nat_lit 406, Obj.mk (Value.type "code") Option.none (Data.fields #[Value.str (Str.ofString "__line") 833, Value.str (Str.ofString "StringIO.__line") 834, Value.str (Str.ofString "/claim/cut.py") 835, Value.int 247 0, Value.int 2 0, Value.int 0 0, Value.int 0 0, Value.int 3 0, Value.ref 401, Value.bool Bool.true, Value.int 318 0, Value.ref 402, Value.none, Value.ref 403, Value.ref 404, Value.ref 405, Value.int 845 0, Value.int 247 0, Value.str (Str.ofString "/claim/cut.py") 846]) #[]) ::
  (nat_lit 407, Obj.mk (Value.type "function") Option.none (Data.func (FuncData.mk (Str.ofString "__line") (Str.ofString "StringIO.__line") (fArgs [15, 5]) (FuncBody.stmts (fBody [15, 5])) (fScope [15, 5]) 3 [] Value.none Value.none Value.none (Value.str (Str.ofString "io") 415) Option.none (Value.ref 406) Value.none 0)) #[]) ::
  (nat_lit 408, Obj.mk (Value.type "tuple") Option.none (Data.seq #[] 0) #[]) ::
  (nat_lit 410, Obj.mk (Value.type "tuple") Option.none (Data.seq #[Value.str (Str.ofString "self") 851] 0) #[]) ::
  (nat_lit 411, Obj.mk (Value.type "tuple") Option.none (Data.seq #[] 0) #[]) ::
  (nat_lit 413, Obj.mk (Value.type "code") Option.none (Data.fields #[Value.str (Str.ofString "closed") 848, Value.str (Str.ofString "StringIO.closed") 849, Value.str (Str.ofString "/claim/cut.py") 850, Value.int 279 0, Value.int 1 0, Value.int 0 0, Value.int 0 0, Value.int 3 0, Value.ref 408, Value.bool Bool.true, Value.int 318 0, Value.ref 409, Value.none, Value.ref 410, Value.ref 411, Value.ref 412, Value.int 852 0, Value.int 279 0, Value.str (Str.ofString "/claim/cut.py") 853]) #[]) ::
  (nat_lit 414, Obj.mk (Value.type "function") Option.none (Data.func (FuncData.mk (Str.ofString "closed") (Str.ofString "StringIO.closed") (fArgs [15, 6]) (FuncBody.stmts (fBody [15, 6])) (fScope [14, 4]) 3 [] Value.none Value.none Value.none (Value.str (Str.ofString "io") 415) Option.none (Value.ref 413) Value.none 0)) #[]) ::
  (nat_lit 415, Obj.mk (Value.type "property") Option.none (Data.fields #[Value.ref 414, Value.none, Value.none, Value.none, Value.str (Str.ofString "closed") 855, Value.bool Bool.false]) #[]) ::
  (nat_lit 416, Obj.mk (Value.type "tuple") Option.none (Data.seq #[] 0) #[]) ::
  (nat_lit 418, Obj.mk (Value.type "tuple") Option.none (Data.seq #[Value.str (Str.ofString "self") 859] 0) #[]) ::
  (nat_lit 419, Obj.mk (Value.type "tuple") Option.none (Data.seq #[] 0) #[]) ::
  (nat_lit 421, Obj.mk (Value.type "code") Option.none (Data.fields #[Value.str (Str.ofString "line_buffering") 856, Value.str (Str.ofString "StringIO.line_buffering") 857, Value.str (Str.ofString "/claim/cut.py") 858, Value.int 283 0, Value.int 1 0, Value.int 0 0, Value.int 0 0, Value.int 3 0, Value.ref 416, Value.bool Bool.true, Value.int 318 0, Value.ref 417, Value.none, Value.ref 418, Value.ref 419, Value.ref 420, Value.int 860 0, Value.int 283 0, Value.str (Str.ofString "/claim/cut.py") 861]) #[]) ::
  (nat_lit 422, Obj.mk (Value.type "function") Option.none (Data.func (FuncData.mk (Str.ofString "line_buffering") (Str.ofString "StringIO.line_buffering") (fArgs [15, 7]) (FuncBody.stmts (fBody [15, 7])) (fScope [14, 14]) 3 [] Value.none Value.none Value.none (Value.str (Str.ofString "io") 415) Option.none (Value.ref 421) Value.none 0)) #[]) ::
  (nat_lit 423, Obj.mk (Value.type "property") Option.none (Data.fields #[Value.ref 422, Value.none, Value.none, Value.none, Value.str (Str.ofString "line_buffering") 863, Value.bool Bool.false]) #[]) ::
  (nat_lit 424, Obj.mk (Value.type "tuple") Option.none (Data.seq #[] 0) #[]) ::
  (nat_lit 426, Obj.mk (Value.type "tuple") Option.none (Data.seq #[Value.str (Str.ofString "self") 867] 0) #[]) ::
  (nat_lit 427, Obj.mk (Value.type "tuple") Option.none (Data.seq #[] 0) #[]) ::
  (nat_lit 429, Obj.mk (Value.type "code") Option.none (Data.fields #[Value.str (Str.ofString "newlines") 864, Value.str (Str.ofString "StringIO.newlines") 865, Value.str (Str.ofString "/claim/cut.py") 866, Value.int 287 0, Value.int 1 0, Value.int 0 0, Value.int 0 0, Value.int 3 0, Value.ref 424, Value.bool Bool.true, Value.int 318 0, Value.ref 425, Value.none, Value.ref 426, Value.ref 427, Value.ref 428, Value.int 868 0, Value.int 287 0, Value.str (Str.ofString "/claim/cut.py") 869]) #[]) ::
  (nat_lit 430, Obj.mk (Value.type "function") Option.none (Data.func (FuncData.mk (Str.ofString "newlines") (Str.ofString "StringIO.newlines") (fArgs [15, 8]) (FuncBody.stmts (fBody [15, 8])) (fScope [14, 14]) 3 [] Value.none Value.none Value.none (Value.str (Str.ofString "io") 415) Option.none (Value.ref 429) Value.none 0)) #[]) ::
  (nat_lit 431, Obj.mk (Value.type "property") Option.none (Data.fields #[Value.ref 430, Value.none, Value.none, Value.none, Value.str (Str.ofString "newlines") 871, Value.bool Bool.false]) #[]) ::
  (nat_lit 432, Obj.mk (Value.type "tuple") Option.none (Data.seq #[] 0) #[]) ::
  (nat_lit 434, Obj.mk (Value.type "tuple") Option.none (Data.seq #[Value.str (Str.ofString "self") 875] 0) #[]) ::
  (nat_lit 435, Obj.mk (Value.type "tuple") Option.none (Data.seq #[] 0) #[]) ::
  (nat_lit 437, Obj.mk (Value.type "code") Option.none (Data.fields #[Value.str (Str.ofString "encoding") 872, Value.str (Str.ofString "StringIO.encoding") 873, Value.str (Str.ofString "/claim/cut.py") 874, Value.int 291 0, Value.int 1 0, Value.int 0 0, Value.int 0 0, Value.int 3 0, Value.ref 432, Value.bool Bool.true, Value.int 318 0, Value.ref 433, Value.none, Value.ref 434, Value.ref 435, Value.ref 436, Value.int 876 0, Value.int 291 0, Value.str (Str.ofString "/claim/cut.py") 877]) #[]) ::
  (nat_lit 438, Obj.mk (Value.type "function") Option.none (Data.func (FuncData.mk (Str.ofString "encoding") (Str.ofString "StringIO.encoding") (fArgs [15, 9]) (FuncBody.stmts (fBody [15, 9])) (fScope [14, 14]) 3 [] Value.none Value.none Value.none (Value.str (Str.ofString "io") 415) Option.none (Value.ref 437) Value.none 0)) #[]) ::
  (nat_lit 439, Obj.mk (Value.type "property") Option.none (Data.fields #[Value.ref 438, Value.none, Value.none, Value.none, Value.str (Str.ofString "encoding") 879, Value.bool Bool.false]) #[]) ::
  (nat_lit 440, Obj.mk (Value.type "tuple") Option.none (Data.seq #[] 0) #[]) ::
  (nat_lit 442, Obj.mk (Value.type "tuple") Option.none (Data.seq #[Value.str (Str.ofString "self") 883] 0) #[]) ::
  (nat_lit 443, Obj.mk (Value.type "tuple") Option.none (Data.seq #[] 0) #[]) ::
  (nat_lit 445, Obj.mk (Value.type "code") Option.none (Data.fields #[Value.str (Str.ofString "errors") 880, Value.str (Str.ofString "StringIO.errors") 881, Value.str (Str.ofString "/claim/cut.py") 882, Value.int 295 0, Value.int 1 0, Value.int 0 0, Value.int 0 0, Value.int 3 0, Value.ref 440, Value.bool Bool.true, Value.int 318 0, Value.ref 441, Value.none, Value.ref 442, Value.ref 443, Value.ref 444, Value.int 884 0, Value.int 295 0, Value.str (Str.ofString "/claim/cut.py") 885]) #[]) ::
  (nat_lit 446, Obj.mk (Value.type "function") Option.none (Data.func (FuncData.mk (Str.ofString "errors") (Str.ofString "StringIO.errors") (fArgs [15, 10]) (FuncBody.stmts (fBody [15, 10])) (fScope [14, 14]) 3 [] Value.none Value.none Value.none (Value.str (Str.ofString "io") 415) Option.none (Value.ref 445) Value.none 0)) #[]) ::
  (nat_lit 447, Obj.mk (Value.type "property") Option.none (Data.fields #[Value.ref 446, Value.none, Value.none, Value.none, Value.str (Str.ofString "errors") 887, Value.bool Bool.false]) #[]) ::
  (nat_lit 448, Obj.mk (Value.type "tuple") Option.none (Data.seq #[] 0) #[]) ::
  (nat_lit 450, Obj.mk (Value.type "tuple") Option.none (Data.seq #[Value.str (Str.ofString "self") 891] 0) #[]) ::
  (nat_lit 451, Obj.mk (Value.type "tuple") Option.none (Data.seq #[] 0) #[]) ::
  (nat_lit 453, Obj.mk (Value.type "code") Option.none (Data.fields #[Value.str (Str.ofString "close") 888, Value.str (Str.ofString "StringIO.close") 889, Value.str (Str.ofString "/claim/cut.py") 890, Value.int 299 0, Value.int 1 0, Value.int 0 0, Value.int 0 0, Value.int 3 0, Value.ref 448, Value.bool Bool.true, Value.int 318 0, Value.ref 449, Value.none, Value.ref 450, Value.ref 451, Value.ref 452, Value.int 892 0, Value.int 299 0, Value.str (Str.ofString "/claim/cut.py") 893]) #[]) ::
  (nat_lit 454, Obj.mk (Value.type "function") Option.none (Data.func (FuncData.mk (Str.ofString "close") (Str.ofString "StringIO.close") (fArgs [15, 11]) (FuncBody.stmts (fBody [15, 11])) (fScope [14, 4]) 3 [] Value.none Value.none Value.none (Value.str (Str.ofString "io") 415) Option.none (Value.ref 453) Value.none 0)) #[]) ::
  (nat_lit 455, Obj.mk (Value.type "tuple") Option.none (Data.seq #[] 0) #[]) ::
  (nat_lit 457, Obj.mk (Value.type "tuple") Option.none (Data.seq #[Value.str (Str.ofString "self") 898] 0) #[]) ::
  (nat_lit 458, Obj.mk (Value.type "tuple") Option.none (Data.seq #[] 0) #[]) ::
  (nat_lit 460, Obj.mk (Value.type "code") Option.none (Data.fields #[Value.str (Str.ofString "__enter__") 895, Value.str (Str.ofString "StringIO.__enter__") 896, Value.str (Str.ofString "/claim/cut.py") 897, Value.int 302 0, Value.int 1 0, Value.int 0 0, Value.int 0 0, Value.int 3 0, Value.ref 455, Value.bool Bool.true, Value.int 318 0, Value.ref 456, Value.none, Value.ref 457, Value.ref 458, Value.ref 459, Value.int 899 0, Value.int 302 0, Value.str (Str.ofString "/claim/cut.py") 900]) #[]) ::
  (nat_lit 461, Obj.mk (Value.type "function") Option.none (Data.func (FuncData.mk (Str.ofString "__enter__") (Str.ofString "StringIO.__enter__") (fArgs [15, 12]) (FuncBody.stmts (fBody [15, 12])) (fScope [14, 4]) 3 [] Value.none Value.none Value.none (Value.str (Str.ofString "io") 415) Option.none (Value.ref 460) Value.none 0)) #[]) ::
  (nat_lit 462, Obj.mk (Value.type "tuple") Option.none (Data.seq #[] 0) #[]) ::
  (nat_lit 464, Obj.mk (Value.type "tuple") Option.none (Data.seq #[Value.str (Str.ofString "self") 905, Value.str (Str.ofString "args") 906] 0) #[]) ::
  (nat_lit 465, Obj.mk (Value.type "tuple") Option.none (Data.seq #[] 0) #[]) ::
  (nat_lit 467, Obj.mk (Value.type "code") Option.none (Data.fields #[Value.str (Str.ofString "__exit__") 902, Value.str (Str.ofString "StringIO.__exit__") 903, Value.str (Str.ofString "/claim/cut.py") 904, Value.int 306 0, Value.int 1 0, Value.int 0 0, Value.int 0 0, Value.int 7 0, Value.ref 462, Value.bool Bool.true, Value.int 318 0, Value.ref 463, Value.none, Value.ref 464, Value.ref 465, Value.ref 466, Value.int 907 0, Value.int 306 0, Value.str (Str.ofString "/claim/cut.py") 908]) #[]) ::
  (nat_lit 468, Obj.mk (Value.type "function") Option.none (Data.func (FuncData.mk (Str.ofString "__exit__") (Str.ofString "StringIO.__exit__") (fArgs [15, 13]) (FuncBody.stmts (fBody [15, 13])) (fScope [14, 7]) 3 [] Value.none Value.none Value.none (Value.str (Str.ofString "io") 415) Option.none (Value.ref 467) Value.none 0)) #[]) ::
  (nat_lit 469, Obj.mk (Value.type "tuple") Option.none (Data.seq #[] 0) #[]) ::
  (nat_lit 471, Obj.mk (Value.type "tuple") Option.none (Data.seq #[Value.str (Str.ofString "self") 913] 0) #[]) ::
  (nat_lit 472, Obj.mk (Value.type "tuple") Option.none (Data.seq #[] 0) #[]) ::
  (nat_lit 474, Obj.mk (Value.type "code") Option.none (Data.fields #[Value.str (Str.ofString "readable") 910, Value.str (Str.ofString "StringIO.readable") 911, Value.str (Str.ofString "/claim/cut.py") 912, Value.int 309 0, Value.int 1 0, Value.int 0 0, Value.int 0 0, Value.int 3 0, Value.ref 469, Value.bool Bool.true, Value.int 318 0, Value.ref 470, Value.none, Value.ref 471, Value.ref 472, Value.ref 473, Value.int 914 0, Value.int 309 0, Value.str (Str.ofString "/claim/cut.py") 915]) #[]) ::
  (nat_lit 475, Obj.mk (Value.type "function") Option.none (Data.func (FuncData.mk (Str.ofString "readable") (Str.ofString "StringIO.readable") (fArgs [15, 14]) (FuncBody.stmts (fBody [15, 14])) (fScope [14, 4]) 3 [] Value.none Value.none Value.none (Value.str (Str.ofString "io") 415) Option.none (Value.ref 474) Value.none 0)) #[]) ::
  (nat_lit 476, Obj.mk (Value.type "tuple") Option.none (Data.seq #[] 0) #[]) ::
  (nat_lit 478, Obj.mk (Value.type "tuple") Option.none (Data.seq #[Value.str (Str.ofString "self") 920] 0) #[]) ::
  (nat_lit 479, Obj.mk (Value.type "tuple") Option.none (Data.seq #[] 0) #[]) ::
  (nat_lit 481, Obj.mk (Value.type "code") Option.none (Data.fields #[Value.str (Str.ofString "writable") 917, Value.str (Str.ofString "StringIO.writable") 918, Value.str (Str.ofString "/claim/cut.py") 919, Value.int 313 0, Value.int 1 0, Value.int 0 0, Value.int 0 0, Value.int 3 0, Value.ref 476, Value.bool Bool.true, Value.int 318 0, Value.ref 477, Value.none, Value.ref 478, Value.ref 479, Value.ref 480, Value.int 921 0, Value.int 313 0, Value.str (Str.ofString "/claim/cut.py") 922]) #[]) ::
  (nat_lit 482, Obj.mk (Value.type "function") Option.none (Data.func (FuncData.mk (Str.ofString "writable") (Str.ofString "StringIO.writable") (fArgs [15, 15]) (FuncBody.stmts (fBody [15, 15])) (fScope [14, 4]) 3 [] Value.none Value.none Value.none (Value.str (Str.ofString "io") 415) Option.none (Value.ref 481) Value.none 0)) #[]) ::
  (nat_lit 483, Obj.mk (Value.type "tuple") Option.none (Data.seq #[] 0) #[]) ::
  (nat_lit 485, Obj.mk (Value.type "tuple") Option.none (Data.seq #[Value.str (Str.ofString "self") 927] 0) #[]) ::
  (nat_lit 486, Obj.mk (Value.type "tuple") Option.none (Data.seq #[] 0) #[]) ::
  (nat_lit 488, Obj.mk (Value.type "code") Option.none (Data.fields #[Value.str (Str.ofString "seekable") 924, Value.str (Str.ofString "StringIO.seekable") 925, Value.str (Str.ofString "/claim/cut.py") 926, Value.int 317 0, Value.int 1 0, Value.int 0 0, Value.int 0 0, Value.int 3 0, Value.ref 483, Value.bool Bool.true, Value.int 318 0, Value.ref 484, Value.none, Value.ref 485, Value.ref 486, Value.ref 487, Value.int 928 0, Value.int 317 0, Value.str (Str.ofString "/claim/cut.py") 929]) #[]) ::
  (nat_lit 489, Obj.mk (Value.type "function") Option.none (Data.func (FuncData.mk (Str.ofString "seekable") (Str.ofString "StringIO.seekable") (fArgs [15, 16]) (FuncBody.stmts (fBody [15, 16])) (fScope [14, 4]) 3 [] Value.none Value.none Value.none (Value.str (Str.ofString "io") 415) Option.none (Value.ref 488) Value.none 0)) #[]) ::
  (nat_lit 490, Obj.mk (Value.type "tuple") Option.none (Data.seq #[] 0) #[]) ::
  (nat_lit 492, Obj.mk (Value.type "tuple") Option.none (Data.seq #[Value.str (Str.ofString "self") 934] 0) #[]) ::
  (nat_lit 493, Obj.mk (Value.type "tuple") Option.none (Data.seq #[] 0) #[]) ::
  (nat_lit 495, Obj.mk (Value.type "code") Option.none (Data.fields #[Value.str (Str.ofString "isatty") 931, Value.str (Str.ofString "StringIO.isatty") 932, Value.str (Str.ofString "/claim/cut.py") 933, Value.int 321 0, Value.int 1 0, Value.int 0 0, Value.int 0 0, Value.int 3 0, Value.ref 490, Value.bool Bool.true, Value.int 318 0, Value.ref 491, Value.none, Value.ref 492, Value.ref 493, Value.ref 494, Value.int 935 0, Value.int 321 0, Value.str (Str.ofString "/claim/cut.py") 936]) #[]) ::
  (nat_lit 496, Obj.mk (Value.type "function") Option.none (Data.func (FuncData.mk (Str.ofString "isatty") (Str.ofString "StringIO.isatty") (fArgs [15, 17]) (FuncBody.stmts (fBody [15, 17])) (fScope [14, 4]) 3 [] Value.none Value.none Value.none (Value.str (Str.ofString "io") 415) Option.none (Value.ref 495) Value.none 0)) #[]) ::
  (nat_lit 497, Obj.mk (Value.type "tuple") Option.none (Data.seq #[] 0) #[]) ::
  (nat_lit 499, Obj.mk (Value.type "tuple") Option.none (Data.seq #[Value.str (Str.ofString "self") 941] 0) #[]) ::
  (nat_lit 500, Obj.mk (Value.type "tuple") Option.none (Data.seq #[] 0) #[]) ::
  (nat_lit 502, Obj.mk (Value.type "code") Option.none (Data.fields #[Value.str (Str.ofString "flush") 938, Value.str (Str.ofString "StringIO.flush") 939, Value.str (Str.ofString "/claim/cut.py") 940, Value.int 325 0, Value.int 1 0, Value.int 0 0, Value.int 0 0, Value.int 3 0, Value.ref 497, Value.bool Bool.true, Value.int 318 0, Value.ref 498, Value.none, Value.ref 499, Value.ref 500, Value.ref 501, Value.int 942 0, Value.int 325 0, Value.str (Str.ofString "/claim/cut.py") 943]) #[]) ::
  (nat_lit 503, Obj.mk (Value.type "function") Option.none (Data.func (FuncData.mk (Str.ofString "flush") (Str.ofString "StringIO.flush") (fArgs [15, 18]) (FuncBody.stmts (fBody [15, 18])) (fScope [14, 4]) 3 [] Value.none Value.none Value.none (Value.str (Str.ofString "io") 415) Option.none (Value.ref 502) Value.none 0)) #[]) ::
  (nat_lit 504, Obj.mk (Value.type "tuple") Option.none (Data.seq #[] 0) #[]) ::
  (nat_lit 506, Obj.mk (Value.type "tuple") Option.none (Data.seq #[Value.str (Str.ofString "self") 948] 0) #[]) ::
  (nat_lit 507, Obj.mk (Value.type "tuple") Option.none (Data.seq #[] 0) #[]) ::
  (nat_lit 509, Obj.mk (Value.type "code") Option.none (Data.fields #[Value.str (Str.ofString "fileno") 945, Value.str (Str.ofString "StringIO.fileno") 946, Value.str (Str.ofString "/claim/cut.py") 947, Value.int 328 0, Value.int 1 0, Value.int 0 0, Value.int 0 0, Value.int 3 0, Value.ref 504, Value.bool Bool.true, Value.int 318 0, Value.ref 505, Value.none, Value.ref 506, Value.ref 507, Value.ref 508, Value.int 949 0, Value.int 328 0, Value.str (Str.ofString "/claim/cut.py") 950]) #[]) ::
  (nat_lit 510, Obj.mk (Value.type "function") Option.none (Data.func (FuncData.mk (Str.ofString "fileno") (Str.ofString "StringIO.fileno") (fArgs [15, 19]) (FuncBody.stmts (fBody [15, 19])) (fScope [14, 13]) 3 [] Value.none Value.none Value.none (Value.str (Str.ofString "io") 415) Option.none (Value.ref 509) Value.none 0)) #[]) ::
  (nat_lit 511, Obj.mk (Value.type "tuple") Option.none (Data.seq #[] 0) #[]) ::
  (nat_lit 513, Obj.mk (Value.type "tuple") Option.none (Data.seq #[Value.str (Str.ofString "self") 955] 0) #[]) ::
  (nat_lit 514, Obj.mk (Value.type "tuple") Option.none (Data.seq #[] 0) #[]) ::
  (nat_lit 516, Obj.mk (Value.type "code") Option.none (Data.fields #[Value.str (Str.ofString "detach") 952, Value.str (Str.ofString "StringIO.detach") 953, Value.str (Str.ofString "/claim/cut.py") 954, Value.int 331 0, Value.int 1 0, Value.int 0 0, Value.int 0 0, Value.int 3 0, Value.ref 511, Value.bool Bool.true, Value.int 318 0, Value.ref 512, Value.none, Value.ref 513, Value.ref 514, Value.ref 515, Value.int 956 0, Value.int 331 0, Value.str (Str.ofString "/claim/cut.py") 957]) #[]) ::
  (nat_lit 517, Obj.mk (Value.type "function") Option.none (Data.func (FuncData.mk (Str.ofString "detach") (Str.ofString "StringIO.detach") (fArgs [15, 20]) (FuncBody.stmts (fBody [15, 20])) (fScope [14, 14]) 3 [] Value.none Value.none Value.none (Value.str (Str.ofString "io") 415) Option.none (Value.ref 516) Value.none 0)) #[]) ::
  (nat_lit 518, Obj.mk (Value.type "tuple") Option.none (Data.seq #[] 0) #[]) ::
  (nat_lit 520, Obj.mk (Value.type "tuple") Option.none (Data.seq #[Value.str (Str.ofString "self") 962] 0) #[]) ::
  (nat_lit 521, Obj.mk (Value.type "tuple") Option.none (Data.seq #[] 0) #[]) ::
  (nat_lit 523, Obj.mk (Value.type "code") Option.none (Data.fields #[Value.str (Str.ofString "getvalue") 959, Value.str (Str.ofString "StringIO.getvalue") 960, Value.str (Str.ofString "/claim/cut.py") 961, Value.int 334 0, Value.int 1 0, Value.int 0 0, Value.int 0 0, Value.int 3 0, Value.ref 518, Value.bool Bool.true, Value.int 318 0, Value.ref 519, Value.none, Value.ref 520, Value.ref 521, Value.ref 522, Value.int 963 0, Value.int 334 0, Value.str (Str.ofString "/claim/cut.py") 964]) #[]) ::
  (nat_lit 524, Obj.mk (Value.type "function") Option.none (Data.func (FuncData.mk (Str.ofString "getvalue") (Str.ofString "StringIO.getvalue") (fArgs [15, 21]) (FuncBody.stmts (fBody [15, 21])) (fScope [14, 14]) 3 [] Value.none Value.none Value.none (Value.str (Str.ofString "io") 415) Option.none (Value.ref 523) Value.none 0)) #[]) ::
  (nat_lit 525, Obj.mk (Value.type "tuple") Option.none (Data.seq #[] 0) #[]) ::
  (nat_lit 527, Obj.mk (Value.type "tuple") Option.none (Data.seq #[Value.str (Str.ofString "self") 969] 0) #[]) ::
  (nat_lit 528, Obj.mk (Value.type "tuple") Option.none (Data.seq #[] 0) #[]) ::
  (nat_lit 530, Obj.mk (Value.type "code") Option.none (Data.fields #[Value.str (Str.ofString "tell") 966, Value.str (Str.ofString "StringIO.tell") 967, Value.str (Str.ofString "/claim/cut.py") 968, Value.int 337 0, Value.int 1 0, Value.int 0 0, Value.int 0 0, Value.int 3 0, Value.ref 525, Value.bool Bool.true, Value.int 318 0, Value.ref 526, Value.none, Value.ref 527, Value.ref 528, Value.ref 529, Value.int 970 0, Value.int 337 0, Value.str (Str.ofString "/claim/cut.py") 971]) #[]) ::
  (nat_lit 531, Obj.mk (Value.type "function") Option.none (Data.func (FuncData.mk (Str.ofString "tell") (Str.ofString "StringIO.tell") (fArgs [15, 22]) (FuncBody.stmts (fBody [15, 22])) (fScope [14, 4]) 3 [] Value.none Value.none Value.none (Value.str (Str.ofString "io") 415) Option.none (Value.ref 530) Value.none 0)) #[]) ::
  (nat_lit 532, Obj.mk (Value.type "tuple") Option.none (Data.seq #[Value.int 0 973] 0) #[]) ::
  (nat_lit 533, Obj.mk (Value.type "tuple") Option.none (Data.seq #[] 0) #[]) ::
  (nat_lit 535, Obj.mk (Value.type "tuple") Option.none (Data.seq #[Value.str (Str.ofString "self") 977, Value.str (Str.ofString "pos") 978, Value.str (Str.ofString "whence") 979] 0) #[]) ::
  (nat_lit 536, Obj.mk (Value.type "tuple") Option.none (Data.seq #[] 0) #[]) ::
  (nat_lit 538, Obj.mk (Value.type "code") Option.none (Data.fields #[Value.str (Str.ofString "seek") 974, Value.str (Str.ofString "StringIO.seek") 975, Value.str (Str.ofString "/claim/cut.py") 976, Value.int 341 0, Value.int 3 0, Value.int 3 0, Value.int 0 0, Value.int 3 0, Value.ref 533, Value.bool Bool.true, Value.int 318 0, Value.ref 534, Value.none, Value.ref 535, Value.ref 536, Value.ref 537, Value.int 980 0, Value.int 341 0, Value.str (Str.ofString "/claim/cut.py") 981]) #[]) ::
  (nat_lit 539, Obj.mk (Value.type "function") Option.none (Data.func (FuncData.mk (Str.ofString "seek") (Str.ofString "StringIO.seek") (fArgs [15, 23]) (FuncBody.stmts (fBody [15, 23])) (fScope [15, 23]) 3 [] (Value.ref 532) Value.none Value.none (Value.str (Str.ofString "io") 415) Option.none (Value.ref 538) Value.none 0)) #[]) ::
  (nat_lit 540, Obj.mk (Value.type "tuple") Option.none (Data.seq #[Value.none] 0) #[]) ::
  (nat_lit 541, Obj.mk (Value.type "tuple") Option.none (Data.seq #[] 0) #[]) ::
  (nat_lit 543, Obj.mk (Value.type "tuple") Option.none (Data.seq #[Value.str (Str.ofString "self") 986, Value.str (Str.ofString "pos") 987] 0) #[]) ::
  (nat_lit 544, Obj.mk (Value.type "tuple") Option.none (Data.seq #[] 0) #[]) ::
  (nat_lit 546, Obj.mk (Value.type "code") Option.none (Data.fields #[Value.str (Str.ofString "truncate") 983, Value.str (Str.ofString "StringIO.truncate") 984, Value.str (Str.ofString "/claim/cut.py") 985, Value.int 358 0, Value.int 2 0, Value.int 2 0, Value.int 0 0, Value.int 3 0, Value.ref 541, Value.bool Bool.true, Value.int 318 0, Value.ref 542, Value.none, Value.ref 543, Value.ref 544, Value.ref 545, Value.int 988 0, Value.int 358 0, Value.str (Str.ofString "/claim/cut.py") 989]) #[]) ::
  (nat_lit 547, Obj.mk (Value.type "function") Option.none (Data.func (FuncData.mk (Str.ofString "truncate") (Str.ofString "StringIO.truncate") (fArgs [15, 24]) (FuncBody.stmts (fBody [15, 24])) (fScope [15, 24]) 3 [] (Value.ref 540) Value.none Value.none (Value.str (Str.ofString "io") 415) Option.none (Value.ref 546) Value.none 0)) #[]) ::
  (nat_lit 548, Obj.mk (Value.type "tuple") Option.none (Data.seq #[Value.int (-1) 992] 0) #[]) ::
  (nat_lit 549, Obj.mk (Value.type "tuple") Option.none (Data.seq #[] 0) #[]) ::
  (nat_lit 551, Obj.mk (Value.type "tuple") Option.none (Data.seq #[Value.str (Str.ofString "self") 996, Value.str (Str.ofString "size") 997, Value.str (Str.ofString "start") 998, Value.str (Str.ofString "stop") 999] 0) #[]) ::
  (nat_lit 552, Obj.mk (Value.type "tuple") Option.none (Data.seq #[] 0) #[]) ::
  (nat_lit 554, Obj.mk (Value.type "code") Option.none (Data.fields #[Value.str (Str.ofString "read") 993, Value.str (Str.ofString "StringIO.read") 994, Value.str (Str.ofString "/claim/cut.py") 995, Value.int 361 0, Value.int 2 0, Value.int 2 0, Value.int 0 0, Value.int 3 0, Value.ref 549, Value.bool Bool.true, Value.int 318 0, Value.ref 550, Value.none, Value.ref 551, Value.ref 552, Value.ref 553, Value.int 1000 0, Value.int 361 0, Value.str (Str.ofString "/claim/cut.py") 1001]) #[]) ::
  (nat_lit 555, Obj.mk (Value.type "function") Option.none (Data.func (FuncData.mk (Str.ofString "read") (Str.ofString "StringIO.read") (fArgs [15, 25]) (FuncBody.stmts (fBody [15, 25])) (fScope [15, 25]) 3 [] (Value.ref 548) Value.none Value.none (Value.str (Str.ofString "io") 415) Option.none (Value.ref 554) Value.none 0)) #[]) ::
  (nat_lit 556, Obj.mk (Value.type "tuple") Option.none (Data.seq #[Value.int (-1) 1004] 0) #[]) ::
  (nat_lit 557, Obj.mk (Value.type "tuple") Option.none (Data.seq #[] 0) #[]) ::
  (nat_lit 559, Obj.mk (Value.type "tuple") Option.none (Data.seq #[Value.str (Str.ofString "self") 1008, Value.str (Str.ofString "size") 1009] 0) #[]) ::
  (nat_lit 560, Obj.mk (Value.type "tuple") Option.none (Data.seq #[] 0) #[]) ::
  (nat_lit 562, Obj.mk (Value.type "code") Option.none (Data.fields #[Value.str (Str.ofString "readline") 1005, Value.str (Str.ofString "StringIO.readline") 1006, Value.str (Str.ofString "/claim/cut.py") 1007, Value.int 375 0, Value.int 2 0, Value.int 2 0, Value.int 0 0, Value.int 3 0, Value.ref 557, Value.bool Bool.true, Value.int 318 0, Value.ref 558, Value.none, Value.ref 559, Value.ref 560, Value.ref 561, Value.int 1010 0, Value.int 375 0, Value.str (Str.ofString "/claim/cut.py") 1011]) #[]) ::
  (nat_lit 563, Obj.mk (Value.type "function") Option.none (Data.func (FuncData.mk (Str.ofString "readline") (Str.ofString "StringIO.readline") (fArgs [15, 26]) (FuncBody.stmts (fBody [15, 26])) (fScope [14, 24]) 3 [] (Value.ref 556) Value.none Value.none (Value.str (Str.ofString "io") 415) Option.none (Value.ref 562) Value.none 0)) #[]) ::
  (nat_lit 564, Obj.mk (Value.type "tuple") Option.none (Data.seq #[Value.int (-1) 1014] 0) #[]) ::
  (nat_lit 565, Obj.mk (Value.type "tuple") Option.none (Data.seq #[] 0) #[]) ::
  (nat_lit 567, Obj.mk (Value.type "tuple") Option.none (Data.seq #[Value.str (Str.ofString "self") 1018, Value.str (Str.ofString "hint") 1019] 0) #[]) ::
  (nat_lit 568, Obj.mk (Value.type "tuple") Option.none (Data.seq #[] 0) #[]) ::
  (nat_lit 570, Obj.mk (Value.type "code") Option.none (Data.fields #[Value.str (Str.ofString "readlines") 1015, Value.str (Str.ofString "StringIO.readlines") 1016, Value.str (Str.ofString "/claim/cut.py") 1017, Value.int 382 0, Value.int 2 0, Value.int 2 0, Value.int 0 0, Value.int 3 0, Value.ref 565, Value.bool Bool.true, Value.int 318 0, Value.ref 566, Value.none, Value.ref 567, Value.ref 568, Value.ref 569, Value.int 1020 0, Value.int 382 0, Value.str (Str.ofString "/claim/cut.py") 1021]) #[]) ::
  (nat_lit 571, Obj.mk (Value.type "function") Option.none (Data.func (FuncData.mk (Str.ofString "readlines") (Str.ofString "StringIO.readlines") (fArgs [15, 27]) (FuncBody.stmts (fBody [15, 27])) (fScope [15, 27]) 3 [] (Value.ref 564) Value.none Value.none (Value.str (Str.ofString "io") 415) Option.none (Value.ref 570) Value.none 0)) #[]) ::
  (nat_lit 572, Obj.mk (Value.type "tuple") Option.none (Data.seq #[] 0) #[]) ::
  (nat_lit 574, Obj.mk (Value.type "tuple") Option.none (Data.seq #[Value.str (Str.ofString "self") 1026] 0) #[]) ::
  (nat_lit 575, Obj.mk (Value.type "tuple") Option.none (Data.seq #[] 0) #[]) ::
  (nat_lit 577, Obj.mk (Value.type "code") Option.none (Data.fields #[Value.str (Str.ofString "__iter__") 1023, Value.str (Str.ofString "StringIO.__iter__") 1024, Value.str (Str.ofString "/claim/cut.py") 1025, Value.int 385 0, Value.int 1 0, Value.int 0 0, Value.int 0 0, Value.int 3 0, Value.ref 572, Value.bool Bool.true, Value.int 318 0, Value.ref 573, Value.none, Value.ref 574, Value.ref 575, Value.ref 576, Value.int 1027 0, Value.int 385 0, Value.str (Str.ofString "/claim/cut.py") 1028]) #[]) ::
  (nat_lit 578, Obj.mk (Value.type "function") Option.none (Data.func (FuncData.mk (Str.ofString "__iter__") (Str.ofString "StringIO.__iter__") (fArgs [15, 28]) (FuncBody.stmts (fBody [15, 28])) (fScope [14, 4]) 3 [] Value.none Value.none Value.none (Value.str (Str.ofString "io") 415) Option.none (Value.ref 577) Value.none 0)) #[]) ::
  (nat_lit 579, Obj.mk (Value.type "tuple") Option.none (Data.seq #[] 0) #[]) ::
  (nat_lit 581, Obj.mk (Value.type "tuple") Option.none (Data.seq #[Value.str (Str.ofString "self") 1033, Value.str (Str.ofString "line") 1034] 0) #[]) ::
  (nat_lit 582, Obj.mk (Value.type "tuple") Option.none (Data.seq #[] 0) #[]) ::
  (nat_lit 584, Obj.mk (Value.type "code") Option.none (Data.fields #[Value.str (Str.ofString "__next__") 1030, Value.str (Str.ofString "StringIO.__next__") 1031, Value.str (Str.ofString "/claim/cut.py") 1032, Value.int 389 0, Value.int 1 0, Value.int 0 0, Value.int 0 0, Value.int 3 0, Value.ref 579, Value.bool Bool.true, Value.int 318 0, Value.ref 580, Value.none, Value.ref 581, Value.ref 582, Value.ref 583, Value.int 1035 0, Value.int 389 0, Value.str (Str.ofString "/claim/cut.py") 1036]) #[]) ::
  (nat_lit 585, Obj.mk (Value.type "function") Option.none (Data.func (FuncData.mk (Str.ofString "__next__") (Str.ofString "StringIO.__next__") (fArgs [15, 29]) (FuncBody.stmts (fBody [15, 29])) (fScope [14, 27]) 3 [] Value.none Value.none Value.none (Value.str (Str.ofString "io") 415) Option.none (Value.ref 584) Value.none 0)) #[]) ::
  (nat_lit 586, Obj.mk (Value.type "tuple") Option.none (Data.seq #[] 0) #[]) ::
  (nat_lit 588, Obj.mk (Value.type "tuple") Option.none (Data.seq #[Value.str (Str.ofString "self") 1041, Value.str (Str.ofString "s") 1042, Value.str (Str.ofString "n") 1043, Value.str (Str.ofString "m") 1044, Value.str (Str.ofString "start") 1045, Value.str (Str.ofString "buf") 1046] 0) #[]) ::
  (nat_lit 589, Obj.mk (Value.type "tuple") Option.none (Data.seq #[] 0) #[]) ::
  (nat_lit 591, Obj.mk (Value.type "code") Option.none (Data.fields #[Value.str (Str.ofString "write") 1038, Value.str (Str.ofString "StringIO.write") 1039, Value.str (Str.ofString "/claim/cut.py") 1040, Value.int 396 0, Value.int 2 0, Value.int 2 0, Value.int 0 0, Value.int 3 0, Value.ref 586, Value.bool Bool.true, Value.int 318 0, Value.ref 587, Value.none, Value.ref 588, Value.ref 589, Value.ref 590, Value.int 1047 0, Value.int 396 0, Value.str (Str.ofString "/claim/cut.py") 1048]) #[]) ::
  (nat_lit 592, Obj.mk (Value.type "function") Option.none (Data.func (FuncData.mk (Str.ofString "write") (Str.ofString "StringIO.write") (fArgs [15, 30]) (FuncBody.stmts (fBody [15, 30])) (fScope [15, 30]) 3 [] Value.none Value.none Value.none (Value.str (Str.ofString "io") 415) Option.none (Value.ref 591) Value.none 0)) #[]) ::
  (nat_lit 593, Obj.mk (Value.type "tuple") Option.none (Data.seq #[] 0) #[]) ::
  (nat_lit 595, Obj.mk (Value.type "tuple") Option.none (Data.seq #[Value.str (Str.ofString "self") 1053, Value.str (Str.ofString "lines") 1054] 0) #[]) ::
  (nat_lit 596, Obj.mk (Value.type "tuple") Option.none (Data.seq #[] 0) #[]) ::
  (nat_lit 598, Obj.mk (Value.type "code") Option.none (Data.fields #[Value.str (Str.ofString "writelines") 1050, Value.str (Str.ofString "StringIO.writelines") 1051, Value.str (Str.ofString "/claim/cut.py") 1052, Value.int 415 0, Value.int 2 0, Value.int 2 0, Value.int 0 0, Value.int 3 0, Value.ref 593, Value.bool Bool.true, Value.int 318 0, Value.ref 594, Value.none, Value.ref 595, Value.ref 596, Value.ref 597, Value.int 1055 0, Value.int 415 0, Value.str (Str.ofString "/claim/cut.py") 1056]) #[]) ::
  (nat_lit 599, Obj.mk (Value.type "function") Option.none (Data.func (FuncData.mk (Str.ofString "writelines") (Str.ofString "StringIO.writelines") (fArgs [15, 31]) (FuncBody.stmts (fBody [15, 31])) (fScope [14, 29]) 3 [] Value.none Value.none Value.none (Value.str (Str.ofString "io") 415) Option.none (Value.ref 598) Value.none 0)) #[]) ::
  (nat_lit 600, Obj.mk (Value.type "tuple") Option.none (Data.seq #[] 0) #[]) ::
  (nat_lit 602, Obj.mk (Value.type "tuple") Option.none (Data.seq #[Value.str (Str.ofString "self") 1061] 0) #[]) ::
  (nat_lit 603, Obj.mk (Value.type "tuple") Option.none (Data.seq #[] 0) #[]) ::
  (nat_lit 605, Obj.mk (Value.type "code") Option.none (Data.fields #[Value.str (Str.ofString "__repr__") 1058, Value.str (Str.ofString "StringIO.__repr__") 1059, Value.str (Str.ofString "/claim/cut.py") 1060, Value.int 418 0, Value.int 1 0, Value.int 0 0, Value.int 0 0, Value.int 3 0, Value.ref 600, Value.bool Bool.true, Value.int 318 0, Value.ref 601, Value.none, Value.ref 602, Value.ref 603, Value.ref 604, Value.int 1062 0, Value.int 418 0, Value.str (Str.ofString "/claim/cut.py") 1063]) #[]) ::
  (nat_lit 606, Obj.mk (Value.type "function") Option.none (Data.func (FuncData.mk (Str.ofString "__repr__") (Str.ofString "StringIO.__repr__") (fArgs [15, 32]) (FuncBody.stmts (fBody [15, 32])) (fScope [14, 14]) 3 [] Value.none Value.none Value.none (Value.str (Str.ofString "io") 415) Option.none (Value.ref 605) Value.none 0)) #[]) ::
  (nat_lit 607, Obj.mk (Value.type "tuple") Option.none (Data.seq #[Value.str (Str.ofString "__buf") 1065, Value.str (Str.ofString "__newline") 1066, Value.str (Str.ofString "__pos") 1067] 0) #[]) ::
  (nat_lit 608, Obj.mk (Value.type "dict") Option.none (Data.dict #[DictEntry.mk (PyData.keyHash P (Str.ofString "__module__")) (Value.str (Str.ofString "__module__") 792) (Value.str (Str.ofString "_io") 797), DictEntry.mk (PyData.keyHash P (Str.ofString "__firstlineno__")) (Value.str (Str.ofString "__firstlineno__") 796) (Value.int 215 795), DictEntry.mk (PyData.keyHash P (Str.ofString "__init__")) (Value.str (Str.ofString "__init__") 809) (Value.ref 379), DictEntry.mk (PyData.keyHash P (Str.ofString "_StringIO__translated")) (Value.str (Str.ofString "_StringIO__translated") 818) (Value.ref 386), DictEntry.mk (PyData.keyHash P (Str.ofString "_StringIO__check")) (Value.str (Str.ofString "_StringIO__check") 825) (Value.ref 393), DictEntry.mk (PyData.keyHash P (Str.ofString "_StringIO__check_dot")) (Value.str (Str.ofString "_StringIO__check_dot") 832) (Value.ref 400), DictEntry.mk (PyData.keyHash P (Str.ofString "_StringIO__line")) (Value.str (Str.ofString "_StringIO__line") 847) (Value.ref 407), DictEntry.mk (PyData.keyHash P (Str.ofString "closed")) (Value.str (Str.ofString "closed") 855) (Value.ref 415), DictEntry.mk (PyData.keyHash P (Str.ofString "line_buffering")) (Value.str (Str.ofString "line_buffering") 863) (Value.ref 423), DictEntry.mk (PyData.keyHash P (Str.ofString "newlines")) (Value.str (Str.ofString "newlines") 871) (Value.ref 431), DictEntry.mk (PyData.keyHash P (Str.ofString "encoding")) (Value.str (Str.ofString "encoding") 879) (Value.ref 439), DictEntry.mk (PyData.keyHash P (Str.ofString "errors")) (Value.str (Str.ofString "errors") 887) (Value.ref 447), DictEntry.mk (PyData.keyHash P (Str.ofString "close")) (Value.str (Str.ofString "close") 894) (Value.ref 454), DictEntry.mk (PyData.keyHash P (Str.ofString "__enter__")) (Value.str (Str.ofString "__enter__") 901) (Value.ref 461), DictEntry.mk (PyData.keyHash P (Str.ofString "__exit__")) (Value.str (Str.ofString "__exit__") 909) (Value.ref 468), DictEntry.mk (PyData.keyHash P (Str.ofString "readable")) (Value.str (Str.ofString "readable") 916) (Value.ref 475), DictEntry.mk (PyData.keyHash P (Str.ofString "writable")) (Value.str (Str.ofString "writable") 923) (Value.ref 482), DictEntry.mk (PyData.keyHash P (Str.ofString "seekable")) (Value.str (Str.ofString "seekable") 930) (Value.ref 489), DictEntry.mk (PyData.keyHash P (Str.ofString "isatty")) (Value.str (Str.ofString "isatty") 937) (Value.ref 496), DictEntry.mk (PyData.keyHash P (Str.ofString "flush")) (Value.str (Str.ofString "flush") 944) (Value.ref 503), DictEntry.mk (PyData.keyHash P (Str.ofString "fileno")) (Value.str (Str.ofString "fileno") 951) (Value.ref 510), DictEntry.mk (PyData.keyHash P (Str.ofString "detach")) (Value.str (Str.ofString "detach") 958) (Value.ref 517), DictEntry.mk (PyData.keyHash P (Str.ofString "getvalue")) (Value.str (Str.ofString "getvalue") 965) (Value.ref 524), DictEntry.mk (PyData.keyHash P (Str.ofString "tell")) (Value.str (Str.ofString "tell") 972) (Value.ref 531), DictEntry.mk (PyData.keyHash P (Str.ofString "seek")) (Value.str (Str.ofString "seek") 982) (Value.ref 539), DictEntry.mk (PyData.keyHash P (Str.ofString "truncate")) (Value.str (Str.ofString "truncate") 990) (Value.ref 547), DictEntry.mk (PyData.keyHash P (Str.ofString "read")) (Value.str (Str.ofString "read") 1002) (Value.ref 555), DictEntry.mk (PyData.keyHash P (Str.ofString "readline")) (Value.str (Str.ofString "readline") 1012) (Value.ref 563), DictEntry.mk (PyData.keyHash P (Str.ofString "readlines")) (Value.str (Str.ofString "readlines") 1022) (Value.ref 571), DictEntry.mk (PyData.keyHash P (Str.ofString "__iter__")) (Value.str (Str.ofString "__iter__") 1029) (Value.ref 578), DictEntry.mk (PyData.keyHash P (Str.ofString "__next__")) (Value.str (Str.ofString "__next__") 1037) (Value.ref 585), DictEntry.mk (PyData.keyHash P (Str.ofString "write")) (Value.str (Str.ofString "write") 1049) (Value.ref 592), DictEntry.mk (PyData.keyHash P (Str.ofString "writelines")) (Value.str (Str.ofString "writelines") 1057) (Value.ref 599), DictEntry.mk (PyData.keyHash P (Str.ofString "__repr__")) (Value.str (Str.ofString "__repr__") 1064) (Value.ref 606), DictEntry.mk (PyData.keyHash P (Str.ofString "__static_attributes__")) (Value.str (Str.ofString "__static_attributes__") 1068) (Value.ref 607), DictEntry.mk (PyData.keyHash P (Str.ofString "__doc__")) (Value.str (Str.ofString "__doc__") 1069) Value.none] 2) #[]) ::
  (nat_lit 609, Obj.mk (Value.type "type") Option.none (Data.cls (ClassData.mk (Str.ofString "StringIO") [Value.ref 132] [Value.ref 609, Value.ref 132, Value.ref 105, Value.type "object"] 608 (Str.ofString "StringIO") Bool.true [] [] Bool.false Option.none Bool.false)) #[Option.some (Value.ref 365), Option.none, Option.some (Value.str (Str.ofString "StringIO") 785), Option.some (Value.str (Str.ofString "StringIO") 793), Option.some Value.none, Option.some (Value.bool Bool.true)]) ::
  (nat_lit 612, Obj.mk (Value.type "tuple") Option.none (Data.seq #[] 0) #[]) ::
  (nat_lit 614, Obj.mk (Value.type "tuple") Option.none (Data.seq #[Value.str (Str.ofString "name") 1077, Value.str (Str.ofString "x") 1078, Value.str (Str.ofString "t") 1079] 0) #[]) ::
  (nat_lit 615, Obj.mk (Value.type "tuple") Option.none (Data.seq #[] 0) #[]) ::
  (nat_lit 617, Obj.mk (Value.type "code") Option.none (Data.fields #[Value.str (Str.ofString "_kind") 1074, Value.str (Str.ofString "_kind") 1075, Value.str (Str.ofString "/claim/cut.py") 1076, Value.int 421 0, Value.int 2 0, Value.int 0 0, Value.int 0 0, Value.int 3 0, Value.ref 612, Value.bool Bool.true, Value.int 318 0, Value.ref 613, Value.none, Value.ref 614, Value.ref 615, Value.ref 616, Value.int 1080 0, Value.int 421 0, Value.str (Str.ofString "/claim/cut.py") 1081]) #[]) ::
  (nat_lit 618, Obj.mk (Value.type "function") Option.none (Data.func (FuncData.mk (Str.ofString "_kind") (Str.ofString "_kind") (fArgs [17]) (FuncBody.stmts (fBody [17])) (fScope [17]) 3 [] Value.none Value.none Value.none (Value.str (Str.ofString "os.path") 1072) Option.none (Value.ref 617) Value.none 0)) #[]) ::
  (nat_lit 619, Obj.mk (Value.type "tuple") Option.none (Data.seq #[] 0) #[]) ::
  (nat_lit 621, Obj.mk (Value.type "tuple") Option.none (Data.seq #[Value.str (Str.ofString "name") 1086, Value.str (Str.ofString "x") 1087, Value.str (Str.ofString "k") 1088] 0) #[]) ::
  (nat_lit 622, Obj.mk (Value.type "tuple") Option.none (Data.seq #[] 0) #[]) ::
  (nat_lit 624, Obj.mk (Value.type "code") Option.none (Data.fields #[Value.str (Str.ofString "_fspath") 1083, Value.str (Str.ofString "_fspath") 1084, Value.str (Str.ofString "/claim/cut.py") 1085, Value.int 442 0, Value.int 2 0, Value.int 0 0, Value.int 0 0, Value.int 3 0, Value.ref 619, Value.bool Bool.true, Value.int 318 0, Value.ref 620, Value.none, Value.ref 621, Value.ref 622, Value.ref 623, Value.int 1089 0, Value.int 442 0, Value.str (Str.ofString "/claim/cut.py") 1090]) #[]) ::
  (nat_lit 625, Obj.mk (Value.type "function") Option.none (Data.func (FuncData.mk (Str.ofString "_fspath") (Str.ofString "_fspath") (fArgs [18]) (FuncBody.stmts (fBody [18])) (fScope [18]) 3 [] Value.none Value.none Value.none (Value.str (Str.ofString "os.path") 1072) Option.none (Value.ref 624) Value.none 0)) #[]) ::
  (nat_lit 626, Obj.mk (Value.type "tuple") Option.none (Data.seq #[] 0) #[]) ::
  (nat_lit 628, Obj.mk (Value.type "tuple") Option.none (Data.seq #[Value.str (Str.ofString "funcname") 1095, Value.str (Str.ofString "args") 1096, Value.str (Str.ofString "s") 1097, Value.str (Str.ofString "k") 1098] 0) #[]) ::
  (nat_lit 629, Obj.mk (Value.type "tuple") Option.none (Data.seq #[] 0) #[]) ::
  (nat_lit 631, Obj.mk (Value.type "code") Option.none (Data.fields #[Value.str (Str.ofString "_check_arg_types") 1092, Value.str (Str.ofString "_check_arg_types") 1093, Value.str (Str.ofString "/claim/cut.py") 1094, Value.int 447 0, Value.int 1 0, Value.int 0 0, Value.int 0 0, Value.int 7 0, Value.ref 626, Value.bool Bool.true, Value.int 318 0, Value.ref 627, Value.none, Value.ref 628, Value.ref 629, Value.ref 630, Value.int 1099 0, Value.int 447 0, Value.str (Str.ofString "/claim/cut.py") 1100]) #[]) ::
  (nat_lit 632, Obj.mk (Value.type "function") Option.none (Data.func (FuncData.mk (Str.ofString "_check_arg_types") (Str.ofString "_check_arg_types") (fArgs [19]) (FuncBody.stmts (fBody [19])) (fScope [19]) 3 [] Value.none Value.none Value.none (Value.str (Str.ofString "os.path") 1072) Option.none (Value.ref 631) Value.none 0)) #[]) ::
  (nat_lit 633, Obj.mk (Value.type "tuple") Option.none (Data.seq #[] 0) #[]) ::
  (nat_lit 635, Obj.mk (Value.type "tuple") Option.none (Data.seq #[Value.str (Str.ofString "s") 1105] 0) #[]) ::
  (nat_lit 636, Obj.mk (Value.type "tuple") Option.none (Data.seq #[] 0) #[]) ::
  (nat_lit 638, Obj.mk (Value.type "code") Option.none (Data.fields #[Value.str (Str.ofString "isabs") 1102, Value.str (Str.ofString "isabs") 1103, Value.str (Str.ofString "/claim/cut.py") 1104, Value.int 452 0, Value.int 1 0, Value.int 0 0, Value.int 0 0, Value.int 3 0, Value.ref 633, Value.bool Bool.true, Value.int 318 0, Value.ref 634, Value.none, Value.ref 635, Value.ref 636, Value.ref 637, Value.int 1106 0, Value.int 452 0, Value.str (Str.ofString "/claim/cut.py") 1107]) #[]) ::
  (nat_lit 639, Obj.mk (Value.type "function") Option.none (Data.func (FuncData.mk (Str.ofString "isabs") (Str.ofString "isabs") (fArgs [20]) (FuncBody.stmts (fBody [20])) (fScope [20]) 3 [] Value.none Value.none Value.none (Value.str (Str.ofString "os.path") 1072) Option.none (Value.ref 638) Value.none 0)) #[]) ::
  (nat_lit 640, Obj.mk (Value.type "tuple") Option.none (Data.seq #[] 0) #[]) ::
  (nat_lit 642, Obj.mk (Value.type "tuple") Option.none (Data.seq #[Value.str (Str.ofString "a") 1112, Value.str (Str.ofString "p") 1113, Value.str (Str.ofString "b") 1114, Value.str (Str.ofString "sep") 1115, Value.str (Str.ofString "path") 1116] 0) #[]) ::
  (nat_lit 643, Obj.mk (Value.type "tuple") Option.none (Data.seq #[] 0) #[]) ::
  (nat_lit 645, Obj.mk (Value.type "code") Option.none (Data.fields #[Value.str (Str.ofString "join") 1109, Value.str (Str.ofString "join") 1110, Value.str (Str.ofString "/claim/cut.py") 1111, Value.int 455 0, Value.int 1 0, Value.int 0 0, Value.int 0 0, Value.int 7 0, Value.ref 640, Value.bool Bool.true, Value.int 318 0, Value.ref 641, Value.none, Value.ref 642, Value.ref 643, Value.ref 644, Value.int 1117 0, Value.int 455 0, Value.str (Str.ofString "/claim/cut.py") 1118]) #[]) ::
  (nat_lit 646, Obj.mk (Value.type "function") Option.none (Data.func (FuncData.mk (Str.ofString "join") (Str.ofString "join") (fArgs [21]) (FuncBody.stmts (fBody [21])) (fScope [21]) 3 [] Value.none Value.none Value.none (Value.str (Str.ofString "os.path") 1072) Option.none (Value.ref 645) Value.none 0)) #[]) ::
  (nat_lit 647, Obj.mk (Value.type "tuple") Option.none (Data.seq #[] 0) #[]) ::
  (nat_lit 649, Obj.mk (Value.type "tuple") Option.none (Data.seq #[Value.str (Str.ofString "p") 1124, Value.str (Str.ofString "sep") 1125, Value.str (Str.ofString "i") 1126, Value.str (Str.ofString "head") 1127] 0) #[]) ::
  (nat_lit 650, Obj.mk (Value.type "tuple") Option.none (Data.seq #[] 0) #[]) ::
  (nat_lit 652, Obj.mk (Value.type "code") Option.none (Data.fields #[Value.str (Str.ofString "dirname") 1121, Value.str (Str.ofString "dirname") 1122, Value.str (Str.ofString "/claim/cut.py") 1123, Value.int 476 0, Value.int 1 0, Value.int 0 0, Value.int 0 0, Value.int 3 0, Value.ref 647, Value.bool Bool.true, Value.int 318 0, Value.ref 648, Value.none, Value.ref 649, Value.ref 650, Value.ref 651, Value.int 1128 0, Value.int 476 0, Value.str (Str.ofString "/claim/cut.py") 1129]) #[]) ::
  (nat_lit 653, Obj.mk (Value.type "function") Option.none (Data.func (FuncData.mk (Str.ofString "dirname") (Str.ofString "dirname") (fArgs [23]) (FuncBody.stmts (fBody [23])) (fScope [23]) 3 [] Value.none Value.none Value.none (Value.str (Str.ofString "os.path") 1072) Option.none (Value.ref 652) Value.none 0)) #[]) ::
  (nat_lit 661, Obj.mk (Value.type "tuple") Option.none (Data.seq #[Value.none, Value.none, Value.bool Bool.false, Value.bool Bool.false] 0) #[]) ::
  (nat_lit 662, Obj.mk (Value.type "tuple") Option.none (Data.seq #[] 0) #[]) ::
  (nat_lit 664, Obj.mk (Value.type "tuple") Option.none (Data.seq #[Value.str (Str.ofString "self") 1148, Value.str (Str.ofString "instream") 1149, Value.str (Str.ofString "infile") 1150, Value.str (Str.ofString "posix") 1151, Value.str (Str.ofString "punctuation_chars") 1152, Value.str (Str.ofString "t") 1153] 0) #[]) ::
  (nat_lit 665, Obj.mk (Value.type "tuple") Option.none (Data.seq #[] 0) #[]) ::
  (nat_lit 667, Obj.mk (Value.type "code") Option.none (Data.fields #[Value.str (Str.ofString "__init__") 1145, Value.str (Str.ofString "shlex.__init__") 1146, Value.str (Str.ofString "/claim/cut.py") 1147, Value.int 487 0, Value.int 5 0, Value.int 0 0, Value.int 0 0, Value.int 3 0, Value.ref 662, Value.bool Bool.true, Value.int 318 0, Value.ref 663, Value.none, Value.ref 664, Value.ref 665, Value.ref 666, Value.int 1154 0, Value.int 487 0, Value.str (Str.ofString "/claim/cut.py") 1155]) #[]) ::
  (nat_lit 668, Obj.mk (Value.type "function") Option.none (Data.func (FuncData.mk (Str.ofString "__init__") (Str.ofString "shlex.__init__") (fArgs [25, 0]) (FuncBody.stmts (fBody [25, 0])) (fScope [25, 0]) 3 [] (Value.ref 661) Value.none Value.none (Value.str (Str.ofString "cpy313.shlex") 1131) Option.none (Value.ref 667) Value.none 0)) #[]) ::
  (nat_lit 669, Obj.mk (Value.type "tuple") Option.none (Data.seq #[] 0) #[]) ::
  (nat_lit 671, Obj.mk (Value.type "tuple") Option.none (Data.seq #[Value.str (Str.ofString "self") 1160] 0) #[]) ::
  (nat_lit 672, Obj.mk (Value.type "tuple") Option.none (Data.seq #[] 0) #[]) ::
  (nat_lit 674, Obj.mk (Value.type "code") Option.none (Data.fields #[Value.str (Str.ofString "punctuation_chars") 1157, Value.str (Str.ofString "shlex.punctuation_chars") 1158, Value.str (Str.ofString "/claim/cut.py") 1159, Value.int 528 0, Value.int 1 0, Value.int 0 0, Value.int 0 0, Value.int 3 0, Value.ref 669, Value.bool Bool.true, Value.int 318 0, Value.ref 670, Value.none, Value.ref 671, Value.ref 672, Value.ref 673, Value.int 1161 0, Value.int 528 0, Value.str (Str.ofString "/claim/cut.py") 1162]) #[]) ::
  (nat_lit 675, Obj.mk (Value.type "function") Option.none (Data.func (FuncData.mk (Str.ofString "punctuation_chars") (Str.ofString "shlex.punctuation_chars") (fArgs [25, 1]) (FuncBody.stmts (fBody [25, 1])) (fScope [14, 4]) 3 [] Value.none Value.none Value.none (Value.str (Str.ofString "cpy313.shlex") 1131) Option.none (Value.ref 674) Value.none 0)) #[]) ::
  (nat_lit 676, Obj.mk (Value.type "property") Option.none (Data.fields #[Value.ref 675, Value.none, Value.none, Value.none, Value.str (Str.ofString "punctuation_chars") 1164, Value.bool Bool.false]) #[]) ::
  (nat_lit 677, Obj.mk (Value.type "tuple") Option.none (Data.seq #[] 0) #[]) ::
  (nat_lit 679, Obj.mk (Value.type "tuple") Option.none (Data.seq #[Value.str (Str.ofString "self") 1168, Value.str (Str.ofString "tok") 1169] 0) #[]) ::
  (nat_lit 680, Obj.mk (Value.type "tuple") Option.none (Data.seq #[] 0) #[]) ::
  (nat_lit 682, Obj.mk (Value.type "code") Option.none (Data.fields #[Value.str (Str.ofString "push_token") 1165, Value.str (Str.ofString "shlex.push_token") 1166, Value.str (Str.ofString "/claim/cut.py") 1167, Value.int 532 0, Value.int 2 0, Value.int 0 0, Value.int 0 0, Value.int 3 0, Value.ref 677, Value.bool Bool.true, Value.int 318 0, Value.ref 678, Value.none, Value.ref 679, Value.ref 680, Value.ref 681, Value.int 1170 0, Value.int 532 0, Value.str (Str.ofString "/claim/cut.py") 1171]) #[]) ::
  (nat_lit 683, Obj.mk (Value.type "function") Option.none (Data.func (FuncData.mk (Str.ofString "push_token") (Str.ofString "shlex.push_token") (fArgs [25, 2]) (FuncBody.stmts (fBody [25, 2])) (fScope [25, 2]) 3 [] Value.none Value.none Value.none (Value.str (Str.ofString "cpy313.shlex") 1131) Option.none (Value.ref 682) Value.none 0)) #[]) ::
  (nat_lit 684, Obj.mk (Value.type "tuple") Option.none (Data.seq #[Value.none] 0) #[]) ::
  (nat_lit 685, Obj.mk (Value.type "tuple") Option.none (Data.seq #[] 0) #[]) ::
  (nat_lit 687, Obj.mk (Value.type "tuple") Option.none (Data.seq #[Value.str (Str.ofString "self") 1176, Value.str (Str.ofString "newstream") 1177, Value.str (Str.ofString "newfile") 1178] 0) #[]) ::
  (nat_lit 688, Obj.mk (Value.type "tuple") Option.none (Data.seq #[] 0) #[]) ::
  (nat_lit 690, Obj.mk (Value.type "code") Option.none (Data.fields #[Value.str (Str.ofString "push_source") 1173, Value.str (Str.ofString "shlex.push_source") 1174, Value.str (Str.ofString "/claim/cut.py") 1175, Value.int 535 0, Value.int 3 0, Value.int 0 0, Value.int 0 0, Value.int 3 0, Value.ref 685, Value.bool Bool.true, Value.int 318 0, Value.ref 686, Value.none, Value.ref 687, Value.ref 688, Value.ref 689, Value.int 1179 0, Value.int 535 0, Value.str (Str.ofString "/claim/cut.py") 1180]) #[]) ::
  (nat_lit 691, Obj.mk (Value.type "function") Option.none (Data.func (FuncData.mk (Str.ofString "push_source") (Str.ofString "shlex.push_source") (fArgs [25, 3]) (FuncBody.stmts (fBody [25, 3])) (fScope [25, 3]) 3 [] (Value.ref 684) Value.none Value.none (Value.str (Str.ofString "cpy313.shlex") 1131) Option.none (Value.ref 690) Value.none 0)) #[]) ::
  (nat_lit 692, Obj.mk (Value.type "tuple") Option.none (Data.seq #[] 0) #[]) ::
  (nat_lit 694, Obj.mk (Value.type "tuple") Option.none (Data.seq #[Value.str (Str.ofString "self") 1185] 0) #[]) ::
  (nat_lit 695, Obj.mk (Value.type "tuple") Option.none (Data.seq #[] 0) #[]) ::
  (nat_lit 697, Obj.mk (Value.type "code") Option.none (Data.fields #[Value.str (Str.ofString "pop_source") 1182, Value.str (Str.ofString "shlex.pop_source") 1183, Value.str (Str.ofString "/claim/cut.py") 1184, Value.int 548 0, Value.int 1 0, Value.int 0 0, Value.int 0 0, Value.int 3 0, Value.ref 692, Value.bool Bool.true, Value.int 318 0, Value.ref 693, Value.none, Value.ref 694, Value.ref 695, Value.ref 696, Value.int 1186 0, Value.int 548 0, Value.str (Str.ofString "/claim/cut.py") 1187]) #[]) ::
  (nat_lit 698, Obj.mk (Value.type "function") Option.none (Data.func (FuncData.mk (Str.ofString "pop_source") (Str.ofString "shlex.pop_source") (fArgs [25, 4]) (FuncBody.stmts (fBody [25, 4])) (fScope [25, 4]) 3 [] Value.none Value.none Value.none (Value.str (Str.ofString "cpy313.shlex") 1131) Option.none (Value.ref 697) Value.none 0)) #[]) ::
  (nat_lit 699, Obj.mk (Value.type "tuple") Option.none (Data.seq #[] 0) #[]) ::
  (nat_lit 701, Obj.mk (Value.type "tuple") Option.none (Data.seq #[Value.str (Str.ofString "self") 1192, Value.str (Str.ofString "tok") 1193, Value.str (Str.ofString "raw") 1194, Value.str (Str.ofString "spec") 1195, Value.str (Str.ofString "newfile") 1196, Value.str (Str.ofString "newstream") 1197] 0) #[]) ::
  (nat_lit 702, Obj.mk (Value.type "tuple") Option.none (Data.seq #[] 0) #[]) ::
  (nat_lit 704, Obj.mk (Value.type "code") Option.none (Data.fields #[Value.str (Str.ofString "get_token") 1189, Value.str (Str.ofString "shlex.get_token") 1190, Value.str (Str.ofString "/claim/cut.py") 1191, Value.int 555 0, Value.int 1 0, Value.int 0 0, Value.int 0 0, Value.int 3 0, Value.ref 699, Value.bool Bool.true, Value.int 318 0, Value.ref 700, Value.none, Value.ref 701, Value.ref 702, Value.ref 703, Value.int 1198 0, Value.int 555 0, Value.str (Str.ofString "/claim/cut.py") 1199]) #[]) ::
  (nat_lit 705, Obj.mk (Value.type "function") Option.none (Data.func (FuncData.mk (Str.ofString "get_token") (Str.ofString "shlex.get_token") (fArgs [25, 5]) (FuncBody.stmts (fBody [25, 5])) (fScope [25, 5]) 3 [] Value.none Value.none Value.none (Value.str (Str.ofString "cpy313.shlex") 1131) Option.none (Value.ref 704) Value.none 0)) #[]) ::
  (nat_lit 706, Obj.mk (Value.type "tuple") Option.none (Data.seq #[] 0) #[]) ::
  (nat_lit 708, Obj.mk (Value.type "tuple") Option.none (Data.seq #[Value.str (Str.ofString "self") 1204, Value.str (Str.ofString "quoted") 1205, Value.str (Str.ofString "escapedstate") 1206, Value.str (Str.ofString "nextchar") 1207, Value.str (Str.ofString "result") 1208] 0) #[]) ::
  (nat_lit 709, Obj.mk (Value.type "tuple") Option.none (Data.seq #[] 0) #[]) ::
  (nat_lit 711, Obj.mk (Value.type "code") Option.none (Data.fields #[Value.str (Str.ofString "read_token") 1201, Value.str (Str.ofString "shlex.read_token") 1202, Value.str (Str.ofString "/claim/cut.py") 1203, Value.int 582 0, Value.int 1 0, Value.int 0 0, Value.int 0 0, Value.int 3 0, Value.ref 706, Value.bool Bool.true, Value.int 318 0, Value.ref 707, Value.none, Value.ref 708, Value.ref 709, Value.ref 710, Value.int 1209 0, Value.int 582 0, Value.str (Str.ofString "/claim/cut.py") 1210]) #[]) ::
  (nat_lit 712, Obj.mk (Value.type "function") Option.none (Data.func (FuncData.mk (Str.ofString "read_token") (Str.ofString "shlex.read_token") (fArgs [25, 6]) (FuncBody.stmts (fBody [25, 6])) (fScope [25, 6]) 3 [] Value.none Value.none Value.none (Value.str (Str.ofString "cpy313.shlex") 1131) Option.none (Value.ref 711) Value.none 0)) #[]) ::
  (nat_lit 713, Obj.mk (Value.type "tuple") Option.none (Data.seq #[] 0) #[]) ::
  (nat_lit 715, Obj.mk (Value.type "tuple") Option.none (Data.seq #[Value.str (Str.ofString "self") 1215, Value.str (Str.ofString "newfile") 1216] 0) #[]) ::
  (nat_lit 716, Obj.mk (Value.type "tuple") Option.none (Data.seq #[] 0) #[]) ::
  (nat_lit 718, Obj.mk (Value.type "code") Option.none (Data.fields #[Value.str (Str.ofString "sourcehook") 1212, Value.str (Str.ofString "shlex.sourcehook") 1213, Value.str (Str.ofString "/claim/cut.py") 1214, Value.int 719 0, Value.int 2 0, Value.int 0 0, Value.int 0 0, Value.int 3 0, Value.ref 713, Value.bool Bool.true, Value.int 318 0, Value.ref 714, Value.none, Value.ref 715, Value.ref 716, Value.ref 717, Value.int 1217 0, Value.int 719 0, Value.str (Str.ofString "/claim/cut.py") 1218]) #[]) ::
  (nat_lit 719, Obj.mk (Value.type "function") Option.none (Data.func (FuncData.mk (Str.ofString "sourcehook") (Str.ofString "shlex.sourcehook") (fArgs [25, 7]) (FuncBody.stmts (fBody [25, 7])) (fScope [25, 7]) 3 [] Value.none Value.none Value.none (Value.str (Str.ofString "cpy313.shlex") 1131) Option.none (Value.ref 718) Value.none 0)) #[]) ::
  (nat_lit 720, Obj.mk (Value.type "tuple") Option.none (Data.seq #[Value.none, Value.none] 0) #[]) ::
  (nat_lit 721, Obj.mk (Value.type "tuple") Option.none (Data.seq #[] 0) #[]) ::
  (nat_lit 723, Obj.mk (Value.type "tuple") Option.none (Data.seq #[Value.str (Str.ofString "self") 1223, Value.str (Str.ofString "infile") 1224, Value.str (Str.ofString "lineno") 1225] 0) #[]) ::
  (nat_lit 724, Obj.mk (Value.type "tuple") Option.none (Data.seq #[] 0) #[]) ::
  (nat_lit 726, Obj.mk (Value.type "code") Option.none (Data.fields #[Value.str (Str.ofString "error_leader") 1220, Value.str (Str.ofString "shlex.error_leader") 1221, Value.str (Str.ofString "/claim/cut.py") 1222, Value.int 726 0, Value.int 3 0, Value.int 0 0, Value.int 0 0, Value.int 3 0, Value.ref 721, Value.bool Bool.true, Value.int 318 0, Value.ref 722, Value.none, Value.ref 723, Value.ref 724, Value.ref 725, Value.int 1226 0, Value.int 726 0, Value.str (Str.ofString "/claim/cut.py") 1227]) #[]) ::
  (nat_lit 727, Obj.mk (Value.type "function") Option.none (Data.func (FuncData.mk (Str.ofString "error_leader") (Str.ofString "shlex.error_leader") (fArgs [25, 8]) (FuncBody.stmts (fBody [25, 8])) (fScope [25, 8]) 3 [] (Value.ref 720) Value.none Value.none (Value.str (Str.ofString "cpy313.shlex") 1131) Option.none (Value.ref 726) Value.none 0)) #[]) ::
  (nat_lit 728, Obj.mk (Value.type "tuple") Option.none (Data.seq #[] 0) #[]) ::
  (nat_lit 730, Obj.mk (Value.type "tuple") Option.none (Data.seq #[Value.str (Str.ofString "self") 1232] 0) #[]) ::
  (nat_lit 731, Obj.mk (Value.type "tuple") Option.none (Data.seq #[] 0) #[]) ::
  (nat_lit 733, Obj.mk (Value.type "code") Option.none (Data.fields #[Value.str (Str.ofString "__iter__") 1229, Value.str (Str.ofString "shlex.__iter__") 1230, Value.str (Str.ofString "/claim/cut.py") 1231, Value.int 729 0, Value.int 1 0, Value.int 0 0, Value.int 0 0, Value.int 3 0, Value.ref 728, Value.bool Bool.true, Value.int 318 0, Value.ref 729, Value.none, Value.ref 730, Value.ref 731, Value.ref 732, Value.int 1233 0, Value.int 729 0, Value.str (Str.ofString "/claim/cut.py") 1234]) #[]) ::
  (nat_lit 734, Obj.mk (Value.type "function") Option.none (Data.func (FuncData.mk (Str.ofString "__iter__") (Str.ofString "shlex.__iter__") (fArgs [25, 9]) (FuncBody.stmts (fBody [25, 9])) (fScope [14, 4]) 3 [] Value.none Value.none Value.none (Value.str (Str.ofString "cpy313.shlex") 1131) Option.none (Value.ref 733) Value.none 0)) #[]) ::
  (nat_lit 735, Obj.mk (Value.type "tuple") Option.none (Data.seq #[] 0) #[]) ::
  (nat_lit 737, Obj.mk (Value.type "tuple") Option.none (Data.seq #[Value.str (Str.ofString "self") 1239, Value.str (Str.ofString "token") 1240] 0) #[]) ::
  (nat_lit 738, Obj.mk (Value.type "tuple") Option.none (Data.seq #[] 0) #[]) ::
  (nat_lit 740, Obj.mk (Value.type "code") Option.none (Data.fields #[Value.str (Str.ofString "__next__") 1236, Value.str (Str.ofString "shlex.__next__") 1237, Value.str (Str.ofString "/claim/cut.py") 1238, Value.int 732 0, Value.int 1 0, Value.int 0 0, Value.int 0 0, Value.int 3 0, Value.ref 735, Value.bool Bool.true, Value.int 318 0, Value.ref 736, Value.none, Value.ref 737, Value.ref 738, Value.ref 739, Value.int 1241 0, Value.int 732 0, Value.str (Str.ofString "/claim/cut.py") 1242]) #[]) ::
  (nat_lit 741, Obj.mk (Value.type "function") Option.none (Data.func (FuncData.mk (Str.ofString "__next__") (Str.ofString "shlex.__next__") (fArgs [25, 10]) (FuncBody.stmts (fBody [25, 10])) (fScope [25, 10]) 3 [] Value.none Value.none Value.none (Value.str (Str.ofString "cpy313.shlex") 1131) Option.none (Value.ref 740) Value.none 0)) #[]) ::
  (nat_lit 742, Obj.mk (Value.type "tuple") Option.none (Data.seq #[Value.str (Str.ofString "_punctuation_chars") 1244, Value.str (Str.ofString "_pushback_chars") 1245, Value.str (Str.ofString "commenters") 1246, Value.str (Str.ofString "debug") 1247, Value.str (Str.ofString "eof") 1248, Value.str (Str.ofString "escape") 1249, Value.str (Str.ofString "escapedquotes") 1250, Value.str (Str.ofString "filestack") 1251, Value.str (Str.ofString "infile") 1252, Value.str (Str.ofString "instream") 1253, Value.str (Str.ofString "lineno") 1254, Value.str (Str.ofString "posix") 1255, Value.str (Str.ofString "pushback") 1256, Value.str (Str.ofString "quotes") 1257, Value.str (Str.ofString "source") 1258, Value.str (Str.ofString "state") 1259, Value.str (Str.ofString "token") 1260, Value.str (Str.ofString "whitespace") 1261, Value.str (Str.ofString "whitespace_split") 1262, Value.str (Str.ofString "wordchars") 1263] 0) #[]) ::
  (nat_lit 743, Obj.mk (Value.type "dict") Option.none (Data.dict #[DictEntry.mk (PyData.keyHash P (Str.ofString "__module__")) (Value.str (Str.ofString "__module__") 1140) (Value.str (Str.ofString "cpy313.shlex") 1131), DictEntry.mk (PyData.keyHash P (Str.ofString "__firstlineno__")) (Value.str (Str.ofString "__firstlineno__") 1144) (Value.int 485 1143), DictEntry.mk (PyData.keyHash P (Str.ofString "__init__")) (Value.str (Str.ofString "__init__") 1156) (Value.ref 668), DictEntry.mk (PyData.keyHash P (Str.ofString "punctuation_chars")) (Value.str (Str.ofString "punctuation_chars") 1164) (Value.ref 676), DictEntry.mk (PyData.keyHash P (Str.ofString "push_token")) (Value.str (Str.ofString "push_token") 1172) (Value.ref 683), DictEntry.mk (PyData.keyHash P (Str.ofString "push_source")) (Value.str (Str.ofString "push_source") 1181) (Value.ref 691), DictEntry.mk (PyData.keyHash P (Str.ofString "pop_source")) (Value.str (Str.ofString "pop_source") 1188) (Value.ref 698), DictEntry.mk (PyData.keyHash P (Str.ofString "get_token")) (Value.str (Str.ofString "get_token") 1200) (Value.ref 705), DictEntry.mk (PyData.keyHash P (Str.ofString "read_token")) (Value.str (Str.ofString "read_token") 1211) (Value.ref 712), DictEntry.mk (PyData.keyHash P (Str.ofString "sourcehook")) (Value.str (Str.ofString "sourcehook") 1219) (Value.ref 719), DictEntry.mk (PyData.keyHash P (Str.ofString "error_leader")) (Value.str (Str.ofString "error_leader") 1228) (Value.ref 727), DictEntry.mk (PyData.keyHash P (Str.ofString "__iter__")) (Value.str (Str.ofString "__iter__") 1235) (Value.ref 734), DictEntry.mk (PyData.keyHash P (Str.ofString "__next__")) (Value.str (Str.ofString "__next__") 1243) (Value.ref 741), DictEntry.mk (PyData.keyHash P (Str.ofString "__static_attributes__")) (Value.str (Str.ofString "__static_attributes__") 1264) (Value.ref 742), DictEntry.mk (PyData.keyHash P (Str.ofString "__dict__")) (Value.str (Str.ofString "__dict__") 1266) (Value.ref 745), DictEntry.mk (PyData.keyHash P (Str.ofString "__weakref__")) (Value.str (Str.ofString "__weakref__") 1268) (Value.ref 746), DictEntry.mk (PyData.keyHash P (Str.ofString "__doc__")) (Value.str (Str.ofString "__doc__") 1269) Value.none] 4) #[]) ::
  (nat_lit 744, Obj.mk (Value.type "type") Option.none (Data.cls (ClassData.mk (Str.ofString "shlex") [Value.type "object"] [Value.ref 744, Value.type "object"] 743 (Str.ofString "shlex") Bool.true [] [] Bool.false Option.none Bool.false)) #[Option.none, Option.none, Option.some (Value.str (Str.ofString "shlex") 1133), Option.some (Value.str (Str.ofString "shlex") 1141), Option.some (Value.builtin "object.__new__"), Option.some (Value.bool Bool.true)]) ::
  (nat_lit 745, Obj.mk (Value.type "getset_descriptor") Option.none (Data.fields #[Value.str (Str.ofString "__dict__") 1265, Value.ref 744, Value.builtin "function.__dict__", Value.builtin "function.__dict__#set"]) #[]) ::
  (nat_lit 746, Obj.mk (Value.type "getset_descriptor") Option.none (Data.fields #[Value.str (Str.ofString "__weakref__") 1267, Value.ref 744, Value.builtin "ExceptionGroup.__weakref__", Value.none]) #[]) ::
  (nat_lit 749, Obj.mk (Value.type "tuple") Option.none (Data.seq #[Value.bool Bool.false, Value.bool Bool.true] 0) #[]) ::
  (nat_lit 750, Obj.mk (Value.type "tuple") Option.none (Data.seq #[] 0) #[]) ::
  (nat_lit 752, Obj.mk (Value.type "tuple") Option.none (Data.seq #[Value.str (Str.ofString "s") 1275, Value.str (Str.ofString "comments") 1276, Value.str (Str.ofString "posix") 1277, Value.str (Str.ofString "lex") 1278] 0) #[]) ::
  (nat_lit 753, Obj.mk (Value.type "tuple") Option.none (Data.seq #[] 0) #[]) ::
  (nat_lit 755, Obj.mk (Value.type "code") Option.none (Data.fields #[Value.str (Str.ofString "split") 1272, Value.str (Str.ofString "split") 1273, Value.str (Str.ofString "/claim/cut.py") 1274, Value.int 737 0, Value.int 3 0, Value.int 0 0, Value.int 0 0, Value.int 3 0, Value.ref 750, Value.bool Bool.true, Value.int 318 0, Value.ref 751, Value.none, Value.ref 752, Value.ref 753, Value.ref 754, Value.int 1279 0, Value.int 737 0, Value.str (Str.ofString "/claim/cut.py") 1280]) #[]) ::
  (nat_lit 756, Obj.mk (Value.type "function") Option.none (Data.func (FuncData.mk (Str.ofString "split") (Str.ofString "split") (fArgs [26]) (FuncBody.stmts (fBody [26])) (fScope [26]) 3 [] (Value.ref 749) Value.none Value.none (Value.str (Str.ofString "cpy313.shlex") 1131) Option.none (Value.ref 755) Value.none 0)) #[]) ::
  (nat_lit 757, Obj.mk (Value.type "tuple") Option.none (Data.seq #[] 0) #[]) ::
  (nat_lit 759, Obj.mk (Value.type "tuple") Option.none (Data.seq #[Value.str (Str.ofString "split_command") 1285] 0) #[]) ::
  (nat_lit 760, Obj.mk (Value.type "tuple") Option.none (Data.seq #[] 0) #[]) ::
  (nat_lit 762, Obj.mk (Value.type "code") Option.none (Data.fields #[Value.str (Str.ofString "join") 1282, Value.str (Str.ofString "join") 1283, Value.str (Str.ofString "/claim/cut.py") 1284, Value.int 745 0, Value.int 1 0, Value.int 0 0, Value.int 0 0, Value.int 3 0, Value.ref 757, Value.bool Bool.true, Value.int 318 0, Value.ref 758, Value.none, Value.ref 759, Value.ref 760, Value.ref 761, Value.int 1286 0, Value.int 745 0, Value.str (Str.ofString "/claim/cut.py") 1287]) #[]) ::
  (nat_lit 763, Obj.mk (Value.type "function") Option.none (Data.func (FuncData.mk (Str.ofString "join") (Str.ofString "join") (fArgs [27]) (FuncBody.stmts (fBody [27])) (fScope [27]) 3 [] Value.none Value.none Value.none (Value.str (Str.ofString "cpy313.shlex") 1131) Option.none (Value.ref 762) Value.none 0)) #[]) ::
  (nat_lit 764, Obj.mk (Value.type "builtin_function_or_method") Option.none (Data.fields #[Value.builtin "re.Pattern.search", Value.ref 61]) #[]) ::
  (nat_lit 765, Obj.mk (Value.type "tuple") Option.none (Data.seq #[] 0) #[]) ::
  (nat_lit 767, Obj.mk (Value.type "tuple") Option.none (Data.seq #[Value.str (Str.ofString "s") 1295] 0) #[]) ::
  (nat_lit 768, Obj.mk (Value.type "tuple") Option.none (Data.seq #[] 0) #[]) ::
  (nat_lit 770, Obj.mk (Value.type "code") Option.none (Data.fields #[Value.str (Str.ofString "quote") 1292, Value.str (Str.ofString "quote") 1293, Value.str (Str.ofString "/claim/cut.py") 1294, Value.int 749 0, Value.int 1 0, Value.int 0 0, Value.int 0 0, Value.int 3 0, Value.ref 765, Value.bool Bool.true, Value.int 318 0, Value.ref 766, Value.none, Value.ref 767, Value.ref 768, Value.ref 769, Value.int 1296 0, Value.int 749 0, Value.str (Str.ofString "/claim/cut.py") 1297]) #[]) ::
  (nat_lit 771, Obj.mk (Value.type "function") Option.none (Data.func (FuncData.mk (Str.ofString "quote") (Str.ofString "quote") (fArgs [30]) (FuncBody.stmts (fBody [30])) (fScope [30]) 3 [] Value.none Value.none Value.none (Value.str (Str.ofString "cpy313.shlex") 1131) Option.none (Value.ref 770) Value.none 0)) #[]) ::
  (nat_lit 772, Obj.mk (Value.type "tuple") Option.none (Data.seq #[] 0) #[]) ::
  (nat_lit 774, Obj.mk (Value.type "tuple") Option.none (Data.seq #[Value.str (Str.ofString "numbers") 1304, Value.str (Str.ofString "words") 1305, Value.str (Str.ofString "x") 1306] 0) #[]) ::
  (nat_lit 775, Obj.mk (Value.type "tuple") Option.none (Data.seq #[] 0) #[]) ::
  (nat_lit 777, Obj.mk (Value.type "code") Option.none (Data.fields #[Value.str (Str.ofString "_law_words") 1301, Value.str (Str.ofString "_law_words") 1302, Value.str (Str.ofString "/claim/cut.py") 1303, Value.int 756 0, Value.int 1 0, Value.int 0 0, Value.int 0 0, Value.int 3 0, Value.ref 772, Value.bool Bool.true, Value.int 318 0, Value.ref 773, Value.none, Value.ref 774, Value.ref 775, Value.ref 776, Value.int 1307 0, Value.int 756 0, Value.str (Str.ofString "/claim/cut.py") 1308]) #[]) ::
  (nat_lit 778, Obj.mk (Value.type "function") Option.none (Data.func (FuncData.mk (Str.ofString "_law_words") (Str.ofString "_law_words") (fArgs [32]) (FuncBody.stmts (fBody [32])) (fScope [32]) 3 [] Value.none Value.none Value.none (Value.str (Str.ofString "law_mj0268_01") 1299) Option.none (Value.ref 777) Value.none 0)) #[]) ::
  (nat_lit 779, Obj.mk (Value.type "tuple") Option.none (Data.seq #[] 0) #[]) ::
  (nat_lit 782, Obj.mk (Value.type "code") Option.none (Data.fields #[Value.str (Str.ofString "_law_feeds") 1310, Value.str (Str.ofString "_law_feeds") 1311, Value.str (Str.ofString "/claim/cut.py") 1312, Value.int 764 0, Value.int 1 0, Value.int 0 0, Value.int 0 0, Value.int 3 0, Value.ref 779, Value.bool Bool.true, Value.int 318 0, Value.ref 780, Value.none, Value.none, Value.none, Value.ref 781, Value.int 1313 0, Value.int 764 0, Value.str (Str.ofString "/claim/cut.py") 1314]) #[]) ::
  (nat_lit 783, Obj.mk (Value.type "function") Option.none (Data.func (FuncData.mk (Str.ofString "_law_feeds") (Str.ofString "_law_feeds") (fArgs [33]) (FuncBody.stmts (fBody [33])) (fScope [33]) 3 [] Value.none Value.none Value.none (Value.str (Str.ofString "law_mj0268_01") 1299) Option.none (Value.ref 782) Value.none 0)) #[]) ::
  (nat_lit 784, Obj.mk (Value.type "tuple") Option.none (Data.seq #[] 0) #[]) ::
  (nat_lit 786, Obj.mk (Value.type "tuple") Option.none (Data.seq #[Value.str (Str.ofString "text") 1319, Value.str (Str.ofString "told") 1320, Value.str (Str.ofString "sign") 1321] 0) #[]) ::
  (nat_lit 787, Obj.mk (Value.type "tuple") Option.none (Data.seq #[] 0) #[]) ::
  (nat_lit 789, Obj.mk (Value.type "code") Option.none (Data.fields #[Value.str (Str.ofString "_law_escaped") 1316, Value.str (Str.ofString "_law_escaped") 1317, Value.str (Str.ofString "/claim/cut.py") 1318, Value.int 766 0, Value.int 1 0, Value.int 0 0, Value.int 0 0, Value.int 3 0, Value.ref 784, Value.bool Bool.true, Value.int 318 0, Value.ref 785, Value.none, Value.ref 786, Value.ref 787, Value.ref 788, Value.int 1322 0, Value.int 766 0, Value.str (Str.ofString "/claim/cut.py") 1323]) #[]) ::
  (nat_lit 790, Obj.mk (Value.type "function") Option.none (Data.func (FuncData.mk (Str.ofString "_law_escaped") (Str.ofString "_law_escaped") (fArgs [34]) (FuncBody.stmts (fBody [34])) (fScope [34]) 3 [] Value.none Value.none Value.none (Value.str (Str.ofString "law_mj0268_01") 1299) Option.none (Value.ref 789) Value.none 0)) #[]) ::
  (nat_lit 791, Obj.mk (Value.type "tuple") Option.none (Data.seq #[] 0) #[]) ::
  (nat_lit 793, Obj.mk (Value.type "tuple") Option.none (Data.seq #[Value.str (Str.ofString "text") 1328, Value.str (Str.ofString "parts") 1329, Value.str (Str.ofString "told") 1330, Value.str (Str.ofString "part") 1331, Value.str (Str.ofString "name") 1332, Value.str (Str.ofString "rest") 1333] 0) #[]) ::
  (nat_lit 794, Obj.mk (Value.type "tuple") Option.none (Data.seq #[] 0) #[]) ::
  (nat_lit 796, Obj.mk (Value.type "code") Option.none (Data.fields #[Value.str (Str.ofString "_law_read") 1325, Value.str (Str.ofString "_law_read") 1326, Value.str (Str.ofString "/claim/cut.py") 1327, Value.int 771 0, Value.int 1 0, Value.int 0 0, Value.int 0 0, Value.int 3 0, Value.ref 791, Value.bool Bool.true, Value.int 318 0, Value.ref 792, Value.none, Value.ref 793, Value.ref 794, Value.ref 795, Value.int 1334 0, Value.int 771 0, Value.str (Str.ofString "/claim/cut.py") 1335]) #[]) ::
  (nat_lit 797, Obj.mk (Value.type "function") Option.none (Data.func (FuncData.mk (Str.ofString "_law_read") (Str.ofString "_law_read") (fArgs [35]) (FuncBody.stmts (fBody [35])) (fScope [35]) 3 [] Value.none Value.none Value.none (Value.str (Str.ofString "law_mj0268_01") 1299) Option.none (Value.ref 796) Value.none 0)) #[]) ::
  (nat_lit 798, Obj.mk (Value.type "tuple") Option.none (Data.seq #[] 0) #[]) ::
  (nat_lit 800, Obj.mk (Value.type "tuple") Option.none (Data.seq #[Value.str (Str.ofString "text") 1340] 0) #[]) ::
  (nat_lit 801, Obj.mk (Value.type "tuple") Option.none (Data.seq #[] 0) #[]) ::
  (nat_lit 803, Obj.mk (Value.type "code") Option.none (Data.fields #[Value.str (Str.ofString "_law_refused") 1337, Value.str (Str.ofString "_law_refused") 1338, Value.str (Str.ofString "/claim/cut.py") 1339, Value.int 778 0, Value.int 1 0, Value.int 0 0, Value.int 0 0, Value.int 3 0, Value.ref 798, Value.bool Bool.true, Value.int 318 0, Value.ref 799, Value.none, Value.ref 800, Value.ref 801, Value.ref 802, Value.int 1341 0, Value.int 778 0, Value.str (Str.ofString "/claim/cut.py") 1342]) #[]) ::
  (nat_lit 804, Obj.mk (Value.type "function") Option.none (Data.func (FuncData.mk (Str.ofString "_law_refused") (Str.ofString "_law_refused") (fArgs [36]) (FuncBody.stmts (fBody [36])) (fScope [36]) 3 [] Value.none Value.none Value.none (Value.str (Str.ofString "law_mj0268_01") 1299) Option.none (Value.ref 803) Value.none 0)) #[]) ::
  (nat_lit 805, Obj.mk (Value.type "tuple") Option.none (Data.seq #[] 0) #[]) ::
  (nat_lit 808, Obj.mk (Value.type "code") Option.none (Data.fields #[Value.str (Str.ofString "law") 1344, Value.str (Str.ofString "law") 1345, Value.str (Str.ofString "/claim/cut.py") 1346, Value.int 784 0, Value.int 1 0, Value.int 0 0, Value.int 0 0, Value.int 3 0, Value.ref 805, Value.bool Bool.true, Value.int 318 0, Value.ref 806, Value.none, Value.none, Value.none, Value.ref 807, Value.int 1347 0, Value.int 784 0, Value.str (Str.ofString "/claim/cut.py") 1348]) #[]) ::
  (nat_lit 809, Obj.mk (Value.type "function") Option.none (Data.func (FuncData.mk (Str.ofString "law") (Str.ofString "law") (fArgs [37]) (FuncBody.stmts (fBody [37])) (fScope [37]) 3 [] Value.none Value.none Value.none (Value.str (Str.ofString "law_mj0268_01") 1299) Option.none (Value.ref 808) Value.none 0)) #[]) :: []
end
/-! ### Rx -/
section
/-! the two patterns: what a search over a text finds -/
def code1 : Array Nat := #[14, 14, 4, 1, 1, 9, 4294957567, 0, 0, 0, 0, 0, 0, 0, 0, 13, 11, 9, 4294957567, 0, 0, 0, 0, 0, 0, 0, 0, 1]
def code2 : Array Nat := #[14, 17, 4, 1, 1, 21, 9, 0, 604043296, 1, 0, 0, 0, 0, 0, 8, 4, 0, 13, 14, 21, 9, 0, 604043296, 1, 0, 0, 0, 0, 0, 8, 4, 0, 1]
def hit1 (c : Nat) : Bool := c < 256 && (#[4294957567, 0, 0, 0, 0, 0, 0, 0].getD (c / 32) 0).testBit (c % 32)
def hit2 (c : Nat) : Bool := !((c < 256 && (#[0, 604043296, 1, 0, 0, 0, 0, 0].getD (c / 32) 0).testBit (c % 32)) || Sre.isWord c)

/-- a pattern of this make: one set, twice written -/
structure OneSet (code : Array Nat) (hit : Nat → Bool) : Prop where
  first : ∀ c seen, ∃ seen', Sre.inSet code c code.size 5 true seen = .ok (hit c, seen')
  acc : ∀ c seen, ∃ seen', Sre.accepts code (Sre.header code).2 c seen = .ok (hit c, seen')

theorem lt8 {c : Nat} (h : c < 256) : c / 32 = 0 ∨ c / 32 = 1 ∨ c / 32 = 2 ∨ c / 32 = 3 ∨ c / 32 = 4 ∨ c / 32 = 5 ∨ c / 32 = 6 ∨ c / 32 = 7 := by omega

theorem one1_at (i : Nat) (hi : i = 5 ∨ i = 17) (c : Nat) (seen : Sre.Seen) : ∃ seen', Sre.inSet code1 c code1.size i true seen = .ok (hit1 c, seen') := by
  have key : (decide (c < 256) && (code1.getD (i + (1 + c / 32)) 0).testBit (c % 32)) = hit1 c := by
    unfold hit1
    by_cases q : c < 256
    · rcases hi with rfl | rfl <;> rcases lt8 q with e | e | e | e | e | e | e | e <;> rw [e] <;> rfl
    · simp [q]
  by_cases h : (decide (c < 256) && (code1.getD (i + (1 + c / 32)) 0).testBit (c % 32)) = true
  · rw [← key, h]
    refine ⟨seen.add 9, ?_⟩
    rcases hi with rfl | rfl
    · show (if _ = true then _ else _) = _
      rw [if_pos h]; rfl
    · show (if _ = true then _ else _) = _
      rw [if_pos h]; rfl
  · rw [← key, Bool.eq_false_iff.mpr h]
    refine ⟨(seen.add 9).add 0, ?_⟩
    rcases hi with rfl | rfl
    · show (if _ = true then _ else _) = _
      rw [if_neg h]; rfl
    · show (if _ = true then _ else _) = _
      rw [if_neg h]; rfl
theorem one1 : OneSet code1 hit1 where
  first := fun c seen => one1_at 5 (.inl rfl) c seen
  acc := fun c seen => one1_at 17 (.inr rfl) c seen

theorem one2_at (i : Nat) (hi : i = 5 ∨ i = 20) (c : Nat) (seen : Sre.Seen) : ∃ seen', Sre.inSet code2 c code2.size i true seen = .ok (hit2 c, seen') := by
  have key : ∀ b : Bool, b = (decide (c < 256) && (code2.getD (i + 1 + (1 + c / 32)) 0).testBit (c % 32)) → b = (decide (c < 256) && (#[0, 604043296, 1, 0, 0, 0, 0, 0].getD (c / 32) 0).testBit (c % 32)) := by
    intro b hb
    subst hb
    by_cases q : c < 256
    · rcases hi with rfl | rfl <;> rcases lt8 q with e | e | e | e | e | e | e | e <;> rw [e] <;> rfl
    · simp [q]
  by_cases h : (decide (c < 256) && (code2.getD (i + 1 + (1 + c / 32)) 0).testBit (c % 32)) = true
  · have h2 : hit2 c = false := by
      unfold hit2; rw [← key _ rfl, h]; rfl
    rw [h2]
    refine ⟨(seen.add 21).add 9, ?_⟩
    rcases hi with rfl | rfl
    · show (if _ = true then _ else _) = _
      rw [if_pos h]; rfl
    · show (if _ = true then _ else _) = _
      rw [if_pos h]; rfl
  · have h' := Bool.eq_false_iff.mpr h
    have h2 : hit2 c = !Sre.isWord c := by
      unfold hit2; rw [← key _ rfl, h']; rfl
    rw [h2]
    cases hw : Sre.isWord c with
    | true =>
      refine ⟨(((seen.add 21).add 9).add 8).add (55 + 4), ?_⟩
      rcases hi with rfl | rfl
      · show (if _ = true then _ else _) = _
        rw [if_neg h]
        show (do if ← (Except.map (· != false) (Except.ok (Sre.isWord c)) : Except String Bool) then _ else _) = _
        rw [hw]; rfl
      · show (if _ = true then _ else _) = _
        rw [if_neg h]
        show (do if ← (Except.map (· != false) (Except.ok (Sre.isWord c)) : Except String Bool) then _ else _) = _
        rw [hw]; rfl
    | false =>
      refine ⟨((((seen.add 21).add 9).add 8).add (55 + 4)).add 0, ?_⟩
      rcases hi with rfl | rfl
      · show (if _ = true then _ else _) = _
        rw [if_neg h]
        show (do if ← (Except.map (· != false) (Except.ok (Sre.isWord c)) : Except String Bool) then _ else _) = _
        rw [hw]; rfl
      · show (if _ = true then _ else _) = _
        rw [if_neg h]
        show (do if ← (Except.map (· != false) (Except.ok (Sre.isWord c)) : Except String Bool) then _ else _) = _
        rw [hw]; rfl
theorem one2 : OneSet code2 hit2 where
  first := fun c seen => one2_at 5 (.inl rfl) c seen
  acc := fun c seen => one2_at 20 (.inr rfl) c seen

section
variable {code : Array Nat} {hit : Nat → Bool} (O : OneSet code hit)
include O
theorem admitted_none (m : Sre.M) (hc : m.code = code) : ∀ (fuel s : Nat) (seen : Sre.Seen), (∀ i, s ≤ i → i < m.lim → hit (m.text.getD i 0) = false) → ∃ seen', m.admitted fuel s seen = .ok (none, seen')
  | 0, s, seen, _ => ⟨seen, rfl⟩
  | fuel + 1, s, seen, h => by
    by_cases hs : s ≥ m.lim
    · exact ⟨seen, by rw [Sre.M.admitted, if_pos hs]⟩
    · obtain ⟨s1, e1⟩ := O.first (m.text.getD s 0) seen
      rw [h s (Nat.le_refl _) (by omega)] at e1
      obtain ⟨s2, e2⟩ := admitted_none m hc fuel (s + 1) s1 (fun i hi hl => h i (by omega) hl)
      exact ⟨s2, by rw [Sre.M.admitted, if_neg hs, hc, e1]; exact e2⟩
theorem admitted_some (m : Sre.M) (hc : m.code = code) : ∀ (fuel s : Nat) (seen : Sre.Seen), m.lim < fuel + s → (∃ i, s ≤ i ∧ i < m.lim ∧ hit (m.text.getD i 0) = true) →
    ∃ i seen', i < m.lim ∧ hit (m.text.getD i 0) = true ∧ m.admitted fuel s seen = .ok (some i, seen')
  | 0, s, seen, hf, ⟨i, h1, h2, _⟩ => by omega
  | fuel + 1, s, seen, hf, ⟨i, h1, h2, h3⟩ => by
    have hs : ¬ s ≥ m.lim := by omega
    obtain ⟨s1, e1⟩ := O.first (m.text.getD s 0) seen
    cases hh : hit (m.text.getD s 0) with
    | true =>
      rw [hh] at e1
      exact ⟨s, s1, by omega, hh, by rw [Sre.M.admitted, if_neg hs, hc, e1]⟩
    | false =>
      rw [hh] at e1
      have hne : s ≠ i := by rintro rfl; rw [h3] at hh; cases hh
      obtain ⟨j, s2, hj, hjh, e2⟩ := admitted_some m hc fuel (s + 1) s1 (by omega) ⟨i, by omega, h2, h3⟩
      exact ⟨j, s2, hj, hjh, by rw [Sre.M.admitted, if_neg hs, hc, e1]; exact e2⟩
end
/-- what the machine is when it has come to its end -/
def Ended (m : Sre.M) (found : Bool) : Prop := ∃ m', m.runFor 4 = m' ∧ m'.outcome = some (if found then .matched else .failed)
theorem said_false (m : Sre.M) (hf : m.frames = []) (ho : m.outcome = none) : Ended (m.say false) false := by
  refine ⟨_, rfl, ?_⟩
  obtain ⟨_, _, _, _, _, _, _, _, _, _, _, _, _, _, _, _, frames, _, _, _, outcome⟩ := m
  dsimp only at hf ho
  subst hf ho
  rfl
theorem has_first1 (m : Sre.M) (hc : m.code = code1) : m.hasFirstSet = true := by unfold Sre.M.hasFirstSet; rw [hc]; rfl
theorem has_first2 (m : Sre.M) (hc : m.code = code2) : m.hasFirstSet = true := by unfold Sre.M.hasFirstSet; rw [hc]; rfl

theorem found1 (text : Array Nat) (lim start lastStart : Nat) (marks : Array (Option Nat)) (seen : Sre.Seen) (i : Nat) (hi : i < lim) (hh : hit1 (text.getD i 0) = true) :
    Ended (Sre.M.attemptAt { code := code1, text, lim, start, lastStart, pc := 15, pos := start, handed := start, marks, seen } i true) true := by
  obtain ⟨s1, e1⟩ := one1.acc (text.getD i 0) (seen.add 13)
  rw [hh] at e1
  refine ⟨_, rfl, ?_⟩
  unfold Sre.M.attemptAt Sre.M.attempt
  rw [if_neg (by simp)]
  have step1 : ∀ m : Sre.M, m.code = code1 → m.text = text → m.lim = lim → m.pc = 15 → m.pos = i → m.seen = seen → m.answer = none → m.outcome = none →
      m.step = { m with seen := s1, pc := 27, pos := i + 1 } := by
    intro m h1 h2 h3 h4 h5 h6 h7 h8
    obtain ⟨code, txt, lm, _, _, _, _, pc, pos, _, _, _, _, _, _, _, _, _, ans, sn, out⟩ := m
    dsimp only at h1 h2 h3 h4 h5 h6 h7 h8
    subst h1 h2 h3 h4 h5 h6 h7 h8
    show (if pos ≥ lm then _ else (match Sre.accepts code1 15 (txt.getD pos 0) (sn.add 13) with | .error why => _ | .ok (false, seen) => _ | .ok (true, seen) => _)) = _
    rw [if_neg (by omega)]
    have e1' : Sre.accepts code1 15 (txt.getD pos 0) (sn.add 13) = .ok (true, s1) := e1
    rw [e1']; rfl
  unfold Sre.M.runFor
  rw [if_neg (by intro h; cases h), step1 _ rfl rfl rfl rfl rfl rfl rfl rfl]
  rfl
theorem found2 (text : Array Nat) (lim start lastStart : Nat) (marks : Array (Option Nat)) (seen : Sre.Seen) (i : Nat) (hi : i < lim) (hh : hit2 (text.getD i 0) = true) :
    Ended (Sre.M.attemptAt { code := code2, text, lim, start, lastStart, pc := 18, pos := start, handed := start, marks, seen } i true) true := by
  obtain ⟨s1, e1⟩ := one2.acc (text.getD i 0) (seen.add 13)
  rw [hh] at e1
  refine ⟨_, rfl, ?_⟩
  unfold Sre.M.attemptAt Sre.M.attempt
  rw [if_neg (by simp)]
  have step1 : ∀ m : Sre.M, m.code = code2 → m.text = text → m.lim = lim → m.pc = 18 → m.pos = i → m.seen = seen → m.answer = none → m.outcome = none →
      m.step = { m with seen := s1, pc := 33, pos := i + 1 } := by
    intro m h1 h2 h3 h4 h5 h6 h7 h8
    obtain ⟨code, txt, lm, _, _, _, _, pc, pos, _, _, _, _, _, _, _, _, _, ans, sn, out⟩ := m
    dsimp only at h1 h2 h3 h4 h5 h6 h7 h8
    subst h1 h2 h3 h4 h5 h6 h7 h8
    show (if pos ≥ lm then _ else (match Sre.accepts code2 18 (txt.getD pos 0) (sn.add 13) with | .error why => _ | .ok (false, seen) => _ | .ok (true, seen) => _)) = _
    rw [if_neg (by omega)]
    have e1' : Sre.accepts code2 18 (txt.getD pos 0) (sn.add 13) = .ok (true, s1) := e1
    rw [e1']; rfl
  unfold Sre.M.runFor
  rw [if_neg (by intro h; cases h), step1 _ rfl rfl rfl rfl rfl rfl rfl rfl]
  rfl
theorem any_getD (text : Array Nat) (p : Nat → Bool) : text.any p = true ↔ ∃ i, 0 ≤ i ∧ i < text.size ∧ p (text.getD i 0) = true := by
  constructor
  · intro h
    obtain ⟨i, hi, e⟩ := Array.any_eq_true.mp h
    exact ⟨i, Nat.zero_le _, hi, by simpa [Array.getD, hi] using e⟩
  · rintro ⟨i, _, hi, e⟩
    exact Array.any_eq_true.mpr ⟨i, hi, by simpa [Array.getD, hi] using e⟩
theorem search1 (text : Array Nat) : Ended (Sre.forSearch code1 text 0 0 text.size false) (text.any hit1) := by
  by_cases h0 : text.size = 0
  · have : text = #[] := Array.eq_empty_of_size_eq_zero h0
    subst this
    rw [show (#[] : Array Nat).any hit1 = false from by simp]
    exact said_false _ rfl rfl
  · show Ended (if (decide (0 > text.size) || decide (text.size - 0 < 1)) = true then _ else _) _
    rw [if_neg (by rw [Bool.or_eq_true, decide_eq_true_eq, decide_eq_true_eq]; omega)]
    unfold Sre.M.attemptFrom
    rw [has_first1 _ rfl]
    simp only [Bool.not_true, Bool.false_eq_true, if_false]
    cases hh : text.any hit1 with
    | true =>
      obtain ⟨i, seen', hi, hit, e⟩ := admitted_some one1 { code := code1, text, lim := text.size, start := 0, lastStart := text.size, pc := 15, pos := 0, handed := 0, marks := Array.replicate (2 * 0) none, seen := ({} : Sre.Seen).add 14 } rfl
        (text.size + 1 - 0) 0 (({} : Sre.Seen).add 14) (by show text.size < _; omega) ((any_getD text hit1).mp hh)
      have e' : Sre.M.admitted _ _ _ _ = _ := e
      first
        | (erw [e']; exact found1 text text.size 0 text.size _ seen' i hi hit)
    | false =>
      have hn : ∀ i, 0 ≤ i → i < text.size → hit1 (text.getD i 0) = false := fun i _ hi => by
        cases q : hit1 (text.getD i 0) with
        | false => rfl
        | true => rw [(any_getD text hit1).mpr ⟨i, Nat.zero_le _, hi, q⟩] at hh; cases hh
      obtain ⟨seen', e⟩ := admitted_none one1 { code := code1, text, lim := text.size, start := 0, lastStart := text.size, pc := 15, pos := 0, handed := 0, marks := Array.replicate (2 * 0) none, seen := ({} : Sre.Seen).add 14 } rfl
        (text.size + 1 - 0) 0 (({} : Sre.Seen).add 14) hn
      erw [e]
      exact said_false _ rfl rfl
theorem search2 (text : Array Nat) : Ended (Sre.forSearch code2 text 0 0 text.size false) (text.any hit2) := by
  by_cases h0 : text.size = 0
  · have : text = #[] := Array.eq_empty_of_size_eq_zero h0
    subst this
    rw [show (#[] : Array Nat).any hit2 = false from by simp]
    exact said_false _ rfl rfl
  · show Ended (if (decide (0 > text.size) || decide (text.size - 0 < 1)) = true then _ else _) _
    rw [if_neg (by rw [Bool.or_eq_true, decide_eq_true_eq, decide_eq_true_eq]; omega)]
    unfold Sre.M.attemptFrom
    rw [has_first2 _ rfl]
    simp only [Bool.not_true, Bool.false_eq_true, if_false]
    cases hh : text.any hit2 with
    | true =>
      obtain ⟨i, seen', hi, hit, e⟩ := admitted_some one2 { code := code2, text, lim := text.size, start := 0, lastStart := text.size, pc := 18, pos := 0, handed := 0, marks := Array.replicate (2 * 0) none, seen := ({} : Sre.Seen).add 14 } rfl
        (text.size + 1 - 0) 0 (({} : Sre.Seen).add 14) (by show text.size < _; omega) ((any_getD text hit2).mp hh)
      erw [e]
      exact found2 text text.size 0 text.size _ seen' i hi hit
    | false =>
      have hn : ∀ i, 0 ≤ i → i < text.size → hit2 (text.getD i 0) = false := fun i _ hi => by
        cases q : hit2 (text.getD i 0) with
        | false => rfl
        | true => rw [(any_getD text hit2).mpr ⟨i, Nat.zero_le _, hi, q⟩] at hh; cases hh
      obtain ⟨seen', e⟩ := admitted_none one2 { code := code2, text, lim := text.size, start := 0, lastStart := text.size, pc := 18, pos := 0, handed := 0, marks := Array.replicate (2 * 0) none, seen := ({} : Sre.Seen).add 14 } rfl
        (text.size + 1 - 0) 0 (({} : Sre.Seen).add 14) hn
      erw [e]
      exact said_false _ rfl rfl
end
/-! ### Rw -/
section
theorem slot_search : Slot "re.Pattern" "search" "re.Pattern.search" :=
  .of (owner := "re.Pattern") (n := "search") (by rw [typeLookup_type, builtinLookup_eq_fast]; kernel_rfl) (by decide +kernel) (by decide +kernel) (by decide +kernel)
    (by first | exact .inl (by decide +kernel) | exact .inr (by decide +kernel)) (by rw [isSubtype_type]; kernel_rfl)
theorem type_search : typeOf (.builtin "re.Pattern.search") = pure (.type "method_descriptor") := by show builtinType _ = _; rw [builtinType_eq_fast]; kernel_rfl
theorem entry_search : entryFor table "re.Pattern.search" = some Builtin.«re.Pattern.search» := entryFor_of_tree (by kernel_rfl)
theorem plainAttrs_pattern : PlainAttrs "re.Pattern" :=
  ⟨⟨"object.__getattribute__", by rw [typeLookup_type, builtinLookup_eq_fast]; kernel_rfl, by decide +kernel⟩, by rw [typeLookup_type, builtinLookup_eq_fast]; kernel_rfl⟩
theorem args_search (a b : Value) : argsOk "re.Pattern.search" ⟨[a, b], []⟩ := by
  unfold argsOk; kernel_rfl

section
variable {prog : Program} {w : World} {A : Around} {E : Value → Shared → Prop} {s : Shared}
theorem rules_for (P : Nat → Bool) : ∀ (l : List Nat) (Q : PUnit → Shared → Prop), Q ⟨⟩ s →
    wpAny (model prog w) A (forIn l PUnit.unit fun i _ => if P i = true then do rule (Sre.names.getD i ""); pure (ForInStep.yield PUnit.unit) else pure (ForInStep.yield PUnit.unit)) Q E s
  | [], Q, h => by simp only [List.forIn_nil]; exact wpAny_pure h
  | i :: l, Q, h => by
    simp only [List.forIn_cons]
    refine wpAny_bind ?_
    cases P i with
    | true => exact wpAny_bind (wpAny_rule (wpAny_pure (rules_for P l Q h)))
    | false => exact wpAny_pure (rules_for P l Q h)
theorem drive_ended {m : Sre.M} {found : Bool} (h : Ended m found) {Q : Sre.M → Shared → Prop} (hq : ∀ m', m'.outcome = some (if found then .matched else .failed) → Q m' s) :
    wpAny (model prog w) A (Builtin.Re.reDrive (2 ^ 64) m) Q E s := by
  obtain ⟨m', e, ho⟩ := h
  show wpAny (model prog w) A (Builtin.Re.reDrive (18446744073709551615 + 1) m) Q E s
  unfold Builtin.Re.reDrive
  show wpAny (model prog w) A (if (Sre.M.runFor 4 m).outcome.isSome = true then pure (Sre.M.runFor 4 m) else _) Q E s
  rw [e, ho, if_pos (show (some _).isSome = true from rfl)]
  exact wpAny_pure (hq m' ho)
theorem run_none {m : Sre.M} (h : Ended m false) {Q : Option Sre.M → Shared → Prop} (hq : Q none s) : wpAny (model prog w) A (Builtin.Re.reRunToEnd m) Q E s := by
  unfold Builtin.Re.reRunToEnd
  refine wpAny_bind (drive_ended h fun m' ho => ?_)
  refine wpAny_bind (rules_for (fun i => m'.seen.has i) _ _ ?_)
  rw [ho]
  exact wpAny_pure hq
theorem run_some {m : Sre.M} (h : Ended m true) {Q : Option Sre.M → Shared → Prop} (hq : ∀ m', Q (some m') s) : wpAny (model prog w) A (Builtin.Re.reRunToEnd m) Q E s := by
  unfold Builtin.Re.reRunToEnd
  refine wpAny_bind (drive_ended h fun m' ho => ?_)
  refine wpAny_bind (rules_for (fun i => m'.seen.has i) _ _ ?_)
  rw [ho]
  exact wpAny_pure (hq m')

/-- a pattern object: one tuple of code, no groups, for texts -/
structure PatAt (h : Heap) (pat : Addr) (code : Array Nat) : Prop where
  ex : ∃ v0 v1 v3 v4 t2 t6 tup items n sl sl', h.get? pat = some ⟨.type "re.Pattern", none, .fields #[v0, v1, .int 0 t2, v3, v4, .ref tup, .int 0 t6], sl⟩ ∧
    h.get? tup = some ⟨.type "tuple", none, .seq items n, sl'⟩ ∧ (items.map Builtin.Re.reRawOf).map (·.toNat) = code
theorem PatAt.keeps {h h' : Heap} {pat : Addr} {code : Array Nat} (P : PatAt h pat code) (k : ∀ b o, h.get? b = some o → h'.get? b = some o) : PatAt h' pat code :=
  let ⟨v0, v1, v3, v4, t2, t6, tup, items, n, sl, sl', a, b, c⟩ := P.ex
  ⟨v0, v1, v3, v4, t2, t6, tup, items, n, sl, sl', k _ _ a, k _ _ b, c⟩

theorem search_target {pat : Addr} {code : Array Nat} {x : Str} {tk : Tok} (P : PatAt s.heap pat code) (hx : x.cps.size < 2 ^ 62) {Q : Builtin.Re.ReTarget → Shared → Prop}
    (hq : Q { pattern := .ref pat, string := .str x tk, code := code, text := x.cps, kind := 0, groups := 0, pos := 0, lim := x.cps.size } s) :
    wpAny (model prog w) A (Builtin.Re.reTarget "re.Pattern.search" "search" ⟨[.ref pat, .str x tk], []⟩) Q E s := by
  obtain ⟨v0, v1, v3, v4, t2, t6, tup, items, n, sl, sl', hp, ht, hc⟩ := P.ex
  unfold Builtin.Re.reTarget
  refine wpAny_bind (m := Builtin.Re.reNamed "re.Pattern.search" "search" ["string", "pos", "endpos"] 1 [.str x tk] []) (wpAny_pure (a := [some (Value.str x tk), none, none]) ?_)
  refine wpAny_bind (wpAny_pure (wpAny_bind (wpAny_pure (wpAny_bind (wpAny_fieldsOf hp rfl ?_)))))
  refine wpAny_bind (m := Builtin.Re.reTextOf (.str x tk)) (wpAny_pure (a := (x.cps, 0)) ?_)
  refine wpAny_bind (m := Builtin.Re.reNoCollectionInside (.str x tk) 0) (wpAny_pure (a := ()) ?_)
  refine wpAny_bind (m := Builtin.Re.reRawItems (.ref tup)) ?_
  refine wpAny_bind (m := seqItems? (.ref tup)) (wpAny_bind (wpAny_load ht (wpAny_pure (wpAny_pure ?_))))
  refine wpAny_pure ?_
  show Q { pattern := .ref pat, string := .str x tk, code := (items.map Builtin.Re.reRawOf).map (·.toNat), text := x.cps, kind := 0, groups := 0, pos := min (0 : Int).toNat x.cps.size, lim := min ((2 : Int) ^ 63 - 1).toNat x.cps.size } s
  have e1 : min ((2 : Int) ^ 63 - 1).toNat x.cps.size = x.cps.size := Nat.min_eq_right (by omega)
  have e2 : min (0 : Int).toNat x.cps.size = 0 := by simp
  rw [hc, e1, e2]
  exact hq
theorem search_none {pat : Addr} {code : Array Nat} {x : Str} {tk : Tok} {Q : Value → Shared → Prop} (P : PatAt s.heap pat code) (hx : x.cps.size < 2 ^ 62)
    (he : Ended (Sre.forSearch code x.cps 0 0 x.cps.size false) false) (hq : Q .none s) : wpAny (model prog w) A (call (.builtin "re.Pattern.search") [.ref pat, .str x tk]) Q E s := by
  obtain ⟨v0, v1, v3, v4, t2, t6, tup, items, n, sl, sl', hp, ht, hc⟩ := P.ex
  refine wpAny_call_entry slot_search ⟨_, hp, rfl⟩ entry_search ?_ (args_search _ _)
  unfold Builtin.«re.Pattern.search»
  refine wpAny_bind (search_target P hx ?_)
  unfold Builtin.Re.reAnswer
  refine wpAny_bind (run_none he ?_)
  exact wpAny_pure ⟨_, rfl, hq⟩
theorem search_some {pat : Addr} {code : Array Nat} {x : Str} {tk : Tok} {Q : Value → Shared → Prop} (P : PatAt s.heap pat code) (hx : x.cps.size < 2 ^ 62)
    (he : Ended (Sre.forSearch code x.cps 0 0 x.cps.size false) true)
    (hq : ∀ a h', (∀ b o, s.heap.get? b = some o → h'.get? b = some o) → Q (.ref a) { s with heap := h' }) : wpAny (model prog w) A (call (.builtin "re.Pattern.search") [.ref pat, .str x tk]) Q E s := by
  obtain ⟨v0, v1, v3, v4, t2, t6, tup, items, n, sl, sl', hp, ht, hc⟩ := P.ex
  refine wpAny_call_entry slot_search ⟨_, hp, rfl⟩ entry_search ?_ (args_search _ _)
  unfold Builtin.«re.Pattern.search»
  refine wpAny_bind (search_target P hx ?_)
  unfold Builtin.Re.reAnswer
  refine wpAny_bind (run_some he fun m' => ?_)
  refine wpAny_bind ?_
  unfold Builtin.Re.reNewMatch
  show wpAny (model prog w) _ (do newFields "re.Match" [_, _, _, _, _, ← newTuple _]) _ _ s
  refine wpAny_bind (wpAny_newObj_type (hd := (by show (2 : Nat) ≤ sizeLine; decide)) ?_)
  refine wpAny_newObj_type (hd := (by show (6 : Nat) ≤ sizeLine + 2; decide)) ?_
  exact wpAny_pure ⟨_, rfl, hq _ _ fun b o e => Heap.get?_push_of_some _ (Heap.get?_push_of_some _ e)⟩
end
end
/-! ### Base -/
section
/-- what a call of the text's own wants: room, the text's own objects, the top's facts -/
structure Site (w : World) (lo : Program × List Str) (mg mb : Str → Option Value) (d u : Nat) (A : Around) (s : Shared) : Prop where
  handled : A.handled = none
  dep : A.depth + d < 1000
  uni : A.units + u < 9900
  inK : (K0 w.params).In s.heap
  top : TopRead lo.1 lo.2 mg mb s.heap
  tab : ∃ ps, s.heap.IsCode 762 758 ps ∧ s.heap.TableAt 762 758 ps
  bmod : ∃ bm ob, BMod s.heap mainGlobals mg bm ob
theorem Fr.grow {h₀ h h' : Heap} {L : Addr} {m : Str → Option Value} (F : Fr h₀ L h m) (k : ∀ b o, h.get? b = some o → h'.get? b = some o) : Fr h₀ L h' m :=
  ⟨F.ns.keeps k, fun b o e => k b o (F.keep b o e), F.above⟩
theorem News.grow {h₀ h h' : Heap} {L : Addr} {news : List (Addr × Obj)} (N : News h₀ L h news) (k : ∀ b o, h.get? b = some o → h'.get? b = some o) : News h₀ L h' news :=
  fun p hp => ⟨k _ _ (N p hp).1, (N p hp).2⟩
section
variable {w : World} {lo : Program × List Str} {mg mb : Str → Option Value} {d u : Nat} {A : Around} {s s' : Shared}
theorem Site.keeps (S : Site w lo mg mb d u A s) (k : ∀ b o, s.heap.get? b = some o → s'.heap.get? b = some o) : Site w lo mg mb d u A s' :=
  ⟨S.handled, S.dep, S.uni, S.inK.keeps k, S.top.keeps k, let ⟨ps, a, b⟩ := S.tab; ⟨ps, a.keeps k, b.keeps k⟩, let ⟨bm, ob, q⟩ := S.bmod; ⟨bm, ob, q.keeps k⟩⟩
theorem Site.less {d' u' : Nat} (S : Site w lo mg mb d u A s) (hd' : d' ≤ d) (hu' : u' ≤ u) : Site w lo mg mb d' u' A s :=
  ⟨S.handled, by have := S.dep; omega, by have := S.uni; omega, S.inK, S.top, S.tab, S.bmod⟩
/-- the site of a call within a frame that has been entered: its ground is the heap at the entry -/
theorem Site.within {h₀ : Heap} {L : Addr} {m : Str → Option Value} {e : Env} (hh : A.handled = none) (hd' : A.depth + (d + 1) < 1000) (hu' : A.units + (u + 3) < 9900) (X : (K0 w.params).In h₀) (T : TopRead lo.1 lo.2 mg mb h₀) (C : ∃ ps, s.heap.IsCode 762 758 ps ∧ s.heap.TableAt 762 758 ps) (BM : ∃ bm ob, BMod h₀ mainGlobals mg bm ob) (F : Fr h₀ L s.heap m) : Site w lo mg mb d u (A.deeper e) s :=
  ⟨hh, by show A.depth + 1 + d < 1000; omega, by show A.units + 3 + u < 9900; omega, X.keeps F.keep, T.keeps F.keep, C, let ⟨bm, ob, q⟩ := BM; ⟨bm, ob, q.keeps F.keep⟩⟩
theorem enterP {prog : Program} {R : Result → Shared → Prop} {name qual : Str} {params : Arguments} {body : List Stmt} {scope : Scope} {dV kV doc pm cdv ct oc : Value} {an od : Option Addr} {osl : Array (Option Value)} {f : Addr} {args : Args} {binds : List (Str × Value)}
    (S : Site w lo mg mb 1 0 A s)
    (ho : (K0 w.params).lookup f = some ⟨oc, od, .func (fnOf name qual params body scope dV kV doc pm an cdv ct), osl⟩) (hcd : codeIn (K0 w.params) cdv qual = true)
    (hbind : BindsTo s (fnOf name qual params body scope dV kV doc pm an cdv ct) args binds) (hloc : ∀ y ∈ binds, scope.names.lookup y.1 = some .local)
    (hco : scope.isCoroutine = false) (hgen : scope.isGenerator = false) (hk : scope.kind = .function) (hcell : ∀ x ∈ scope.names, x.2 ≠ .cell)
    (h : ∀ L' h₁, Fr s.heap L' h₁ (fun y => binds.reverse.lookup y) → News s.heap L' h₁ [] →
      wpAny (model prog w) (A.deeper (envOf qual scope L' f cdv)) (execs body (envOf qual scope L' f cdv))
        (fun fl s' => R (.ok (.ret (match fl with | .ret v => v | _ => .none))) s')
        (fun e s' => wpAny (model prog w) (A.deeper (envOf qual scope L' f cdv)) (leaving (envOf qual scope L' f cdv) e) (fun _ s'' => R (.error e) s'') (fun e' s'' => R (.error e') s'') s')
        { s with heap := h₁, toks := s.toks + binds.length }) :
    codeAny (model prog w) A (.call (.ref f) args) R s := by
  have hd' := S.dep
  refine codeAny_call_def (fd := fnOf name qual params body scope dV kV doc pm an cdv ct) (body := body) (binds := binds) (by unfold recursionLimit; omega) (S.inK _ _ ho) rfl S.top.nolimit (codeRec_of S.inK hcd) rfl hbind hcell hloc (fun h₁ hns hk₁ => ?_) hco hgen hk
  exact h s.heap.objs.size h₁ ⟨hns, hk₁, Nat.le_refl _⟩ News.nil

/-- f(x) in any block of a function's kind: f a def of the text's, x a name of the block's own -/
theorem eval_call1 {prog : Program} {env : Env} {f x : Str} {p1 p2 p3 : Pos} {fa : Addr} {v : Value} {m : Str → Option Value} {E Q : Value → Shared → Prop} (X : (K0 w.params).In s.heap) (T : TopRead lo.1 lo.2 mg mb s.heap)
    (hf : env.kindOf f = some .globalImplicit) (hx : env.kindOf x = some .local) (hn : s.heap.Ns env.locals m) (hv : m x = some v) (he : nsIn (K0 w.params) mainGlobals f = some (some (.ref fa))) (hkp : keepIn (K0 w.params) (.ref fa) = true)
    (h : wpAny (model prog w) A (call (.ref fa) [v]) Q E s) (hk : env.scope.kind = .function) (hg : env.globals = mainGlobals)
    (hdf : (f == ("__debug__" : Str)) = false) (hdx : (x == ("__debug__" : Str)) = false) :
    wpAny (model prog w) A (eval (.Call (.Name f p1) [.Name x p2] [] p3) env) Q E s := by
  refine Call_ (Calls.Name_function_global hk hf (Calls.loadGlobal_global (env := env) (by rw [hg]; exact T.g) (mg_of X T.g he) ?_) hdf)
  refine callWith_K X hkp (args_cons (wpAny_Name (wpAny_loadName_local hk hx hn hv ?_) hdx))
  exact args_nil ⟨X, h⟩
end
theorem pat1 {P : Params} {h : Heap} (X : (K0 P).In h) : PatAt h 49 code1 :=
  ⟨_, _, _, _, _, _, _, _, _, _, _, X 49 _ rfl, X 48 _ rfl, by decide +kernel⟩
theorem pat2 {P : Params} {h : Heap} (X : (K0 P).In h) : PatAt h 61 code2 :=
  ⟨_, _, _, _, _, _, _, _, _, _, _, X 61 _ rfl, X 60 _ rfl, by decide +kernel⟩
end
/-! ### Lines -/
section
theorem gentoks {α : Type} {M : Model} {A : Around} {t : Sem α} {Q : α → Shared → Prop} {E : Value → Shared → Prop} {h : Heap} {g : Array GenState} {d : Drawn} {n : Nat} {o : OsState}
    (k : ∀ tk, n ≤ tk → wpAny M A t Q E ⟨h, g, d, tk, o⟩) : wpAny M A t Q E ⟨h, g, d, n, o⟩ := k n (Nat.le_refl _)
theorem rep_len (y z : List Nat) : ∀ (l : List Nat) (k : Nat), (rep y z k l).length ≤ l.length * (z.length + 1)
  | [], k => by simp [rep]
  | a :: r, k + 1 => by
    have := rep_len y z r k
    rw [rep, List.length_cons, Nat.add_mul]; omega
  | a :: r, 0 => by
    rw [rep]
    split
    · have := rep_len y z r (y.length - 1)
      rw [List.length_append, List.length_cons, Nat.add_mul]; omega
    · have := rep_len y z r 0
      rw [List.length_cons, List.length_cons, Nat.add_mul]; omega
section
variable {prog : Program} {w : World} {A : Around} {E : Value → Shared → Prop} {s : Shared}
theorem replS (n b N : Nat) {l : List Nat} {y z : Str} {t u v : Tok} {Q : Value → Shared → Prop} {hp : Heap} {gs : Array GenState} {dr : Drawn} {tn : Nat} {os : OsState} (hl : l.length ≤ n) (hu : @Ne Nat u 0) (hv : @Ne Nat v 0) (huv : @Ne Nat u v) (hyz : (y == z) = false := by decide) (hy : y.cps.toList ≠ [] := by decide) (hz : z.length ≤ b := by decide)
    (hN : n * (b + 1) ≤ N := by decide) (hb : n + (n + 1) * b ≤ 16777216 := by decide)
    (hq : ∀ t' k, (rep y.cps.toList z.cps.toList 0 l).length ≤ N → tn ≤ k → Q (.str (S (rep y.cps.toList z.cps.toList 0 l)) t') ⟨hp, gs, dr, k, os⟩) :
    wpAny (model prog w) A (call (.builtin "str.replace") [.str (S l) t, .str y u, .str z v]) Q E ⟨hp, gs, dr, tn, os⟩ := by
  refine wpAny_with_toks (n := tn) (Nat.le_refl _) (SC.replace hu hv huv hyz ?_ fun t' k h => ?_)
  · rw [S_len]
    have h1 : (l.length + 1) * z.length ≤ (n + 1) * b := Nat.mul_le_mul (by omega) hz
    omega
  · have e : Txt.replace (S l) y z = S (rep y.cps.toList z.cps.toList 0 l) := by
      have := replace_S l y.cps.toList z.cps.toList hy
      rw [← this, ← S_ext (x := y) rfl, ← S_ext (x := z) rfl]
    rw [e]
    refine hq t' k ?_ h
    have h1 := rep_len y.cps.toList z.cps.toList l 0
    have hz' : z.cps.toList.length ≤ b := by simpa [Str.length] using hz
    have h2 : l.length * (z.cps.toList.length + 1) ≤ n * (b + 1) := Nat.mul_le_mul hl (by omega)
    omega
end
theorem pat_method {M : Model} {A : Around} {E : Value → Shared → Prop} {s : Shared} {a : Addr} {code : Array Nat} {pl : Sem Bool} {Q : Value × List Value → Shared → Prop} (P : PatAt s.heap a code) (h : Q (.builtin "re.Pattern.search", [.ref a]) s) :
    wpAny M A (getMethod (.ref a) (Str.ofString "search") pl) Q E s := by
  obtain ⟨v0, v1, v3, v4, t2, t6, tup, items, n, sl, sl', hp, _, _⟩ := P.ex
  exact getMethod_builtin ⟨_, hp, rfl⟩ plainAttrs_pattern slot_search type_search (fun b e => by cases e; exact ⟨_, hp, rfl⟩) h
end
/-! ### WorA -/
section
def menu (n : Int) : List Nat := [13, 10, 38, 60, 39, 97, 62, 32, 59, 9] ++ [[0, 8, 11, 31].getD ((n.fdiv 12).fmod 4).toNat 0]
def sign (x : Int) : Nat := (menu x).getD ((x.fmod 12) - 1).toNat 0
def stepW (ws : List (List Nat)) (x : Int) : List (List Nat) := if x.fmod 12 = 0 then ws ++ [[]] else ws.dropLast ++ [(ws.getLast?.getD []) ++ [sign x]]
def wordsL (ns : List Int) : List (List Nat) := ns.foldl stepW [[]]
def mW (wd a : Addr) (xv : Option Value) : Str → Option Value := fun y => if y = Str.ofString "words" then some (.ref wd) else if y = Str.ofString "x" then xv else List.lookup y [(Str.ofString "numbers", Value.ref a)].reverse
section
variable {prog : Program} {w : World} {A : Around} {E : Value → Shared → Prop} {s : Shared} {h₀ : Heap} {L D : Addr} {m : Str → Option Value} {own : List (Addr × Obj)} {us : List Value} {v v' : Value} {n : Nat} {t : Tok}
theorem lastGet {value slice : PySem.Expr} {Q : Value → Shared → Prop} (N : News h₀ L s.heap ((D, W.listOf (us ++ [v]).toArray n) :: own)) (h : Q v s)
    (hs : subscripted slice false (.ref D) (.int (-1) t) = operate [.ref D, .int (-1) t] (getItem (.ref D) (.int (-1) t)) := by with_unfolding_all rfl) :
    wpAny (model prog w) A (subscriptTail value slice (.ref D) (.int (-1) t)) Q E s := by
  have hl : s.heap.IsList D (us ++ [v]).toArray := PySem.IsL.isList (n := n) (N _ (.head _)).1
  refine tail_any hl.typeIs slot_list_getitem.lookup (wpAny_getItem_list_neg hl (by decide) (by simp; omega) (by decide) ?_ h) hs
  have e : ((-1 : Int) + ((us ++ [v]).toArray.size : Int)).toNat = us.length := by simp; omega
  rw [e]
  simp
theorem lastSet {Q : Unit → Shared → Prop} (F : Fr h₀ L s.heap m) (N : News h₀ L s.heap ((D, W.listOf (us ++ [v]).toArray n) :: own)) (ho : ∀ p ∈ own, p.1 ≠ D)
    (h : ∀ h', Fr h₀ L h' m → News h₀ L h' ((D, W.listOf (us ++ [v']).toArray n) :: own) → Q () { s with heap := h' }) : wpAny (model prog w) A (setItem (.ref D) (.int (-1) t) v') Q E s := by
  have z := N (D, W.listOf (us ++ [v]).toArray n) (.head _)
  have e : ((-1 : Int) + ((us ++ [v]).toArray.size : Int)).toNat = us.length := by simp; omega
  refine ki_setBack z.1 (by decide) (by simp; omega) (by decide) (h _ (F.change (Heap.SameBut.update ..) z.2.1 z.2.2) (ki_turn (pre := []) _ N (fun _ q => nomatch q) ho ?_ ?_))
  · rw [e]
    apply Array.toList_inj.mp
    simp
  · simp
theorem strItem {value slice : PySem.Expr} {y : Str} {k : Int} {u : Tok} {Q : Value → Shared → Prop} (h0 : 0 ≤ k) (h1 : k < y.length) (hy : y.length ≤ 1000) (h : Q (.str (S [y.cps.toList.getD k.toNat 0]) s.toks) { s with toks := s.toks + 1 })
    (hs : subscripted slice false (.str y t) (.int k u) = operate [.str y t, .int k u] (getItem (.str y t) (.int k u)) := by with_unfolding_all rfl) :
    wpAny (model prog w) A (subscriptTail value slice (.str y t) (.int k u)) Q E s := by
  have hk : k.toNat < y.length := by omega
  refine tail_any (typeIs_str _ _ _) F.slot_str_getitem.lookup (getItem_str (c := y.cps.toList.getD k.toNat 0) ?_ ?_ ?_) hs
  · simp; omega
  · rw [show seqIndex? k y.length = some k.toNat from by unfold seqIndex?; simp [h0, h1]; omega]
    have e : k.toNat < y.cps.size := hk
    show y.cps[k.toNat]? = _
    rw [Array.getElem?_eq_getElem e, List.getD_eq_getElem?_getD, Array.getElem?_toList, Array.getElem?_eq_getElem e]
    rfl
  · exact h
theorem strsAre_snoc {x : Str} {t : Tok} : ∀ {vs : List Value} {xs : List Str}, StrsAre vs xs → StrsAre (vs ++ [.str x t]) (xs ++ [x])
  | _, _, .nil => .cons _ _ .nil
  | _, _, .cons z u r => .cons z u (strsAre_snoc r)
end
theorem menu_eq (n : Int) : Str.ofString "\x0d\n&<'a> ;\t" ++ Txt.item (Str.ofString "\x00\x08\x0b\x1f") ((n.fdiv 12).fmod 4) = S (menu n) := by
  have h0 : 0 ≤ (n.fdiv 12).fmod 4 := (Int.fmod_nonneg_of_pos _ (by decide))
  have h1 : (n.fdiv 12).fmod 4 < 4 := Int.fmod_lt_of_pos _ (by decide)
  unfold menu
  generalize (n.fdiv 12).fmod 4 = i at h0 h1
  have : i = 0 ∨ i = 1 ∨ i = 2 ∨ i = 3 := by omega
  rcases this with rfl | rfl | rfl | rfl <;> decide +kernel
theorem mW_x (wd a : Addr) (xv : Option Value) (v : Value) : (fun y => if y = Str.ofString "x" then some v else mW wd a xv y) = mW wd a (some v) := by
  funext y
  unfold mW
  by_cases e1 : y = Str.ofString "words"
  · subst e1; rfl
  · rw [if_neg e1, if_neg e1]
    by_cases e2 : y = Str.ofString "x"
    · subst e2; rfl
    · rw [if_neg e2, if_neg e2, if_neg e2]
theorem strItemE {prog : Program} {w : World} {A : Around} {E : Value → Shared → Prop} {s : Shared} {t : Tok} {value slice : PySem.Expr} {y : Str} {l : List Nat} {c : Nat} {k : Int} {u : Tok} {Q : Value → Shared → Prop} (e : y = S l) (h0 : 0 ≤ k) (h1 : k < l.length) (hy : l.length ≤ 1000) (hc : l.getD k.toNat 0 = c)
    (h : Q (.str (S [c]) s.toks) { s with toks := s.toks + 1 })
    (hs : subscripted slice false (.str y t) (.int k u) = operate [.str y t, .int k u] (getItem (.str y t) (.int k u)) := by with_unfolding_all rfl) :
    wpAny (model prog w) A (subscriptTail value slice (.str y t) (.int k u)) Q E s := by
  subst e
  refine strItem h0 (by rw [S_len]; exact h1) (by rw [S_len]; exact hy) ?_ hs
  rw [S_list, hc]
  exact h
theorem sub_hs {e1 e2 : PySem.Expr} {op : Operator} {p : Pos} {y : Str} {k : Int} {t u : Tok} : subscripted (.BinOp e1 op e2 p) false (.str y t) (.int k u) = operate [.str y t, .int k u] (getItem (.str y t) (.int k u)) := by with_unfolding_all rfl
theorem menu_lo (n : Int) (h : n.fmod 12 ≠ 0) : 0 ≤ n.fmod 12 - 1 := by
  have : 0 ≤ n.fmod 12 := Int.fmod_nonneg_of_pos _ (by decide)
  omega
theorem menu_hi (n : Int) : n.fmod 12 - 1 < (menu n).length := by
  have : n.fmod 12 < 12 := Int.fmod_lt_of_pos _ (by decide)
  rw [show (menu n).length = 11 from rfl]
  omega
theorem menu_len (n : Int) : (menu n).length ≤ 1000 := by rw [show (menu n).length = 11 from rfl]; decide
end
/-! ### Law -/
section
def endsP (l : List Nat) : List Nat := rep [13] [10] 0 (rep [13, 10] [10] 0 l)
def escP (l : List Nat) : List Nat := rep [62] [38, 103, 116, 59] 0 (rep [60] [38, 108, 116, 59] 0 (rep [38] [38, 97, 109, 112, 59] 0 (endsP l)))
def quoP (l : List Nat) : List Nat := if l = [] then [39, 39] else if l.any hit2 then [39] ++ rep [39] [39, 34, 39, 34, 39] 0 l ++ [39] else l
/-- the line ends of a text, sign by sign; a: the sign ahead -/
def feedsF : Nat → List Nat → List Nat
  | _, [] => []
  | a, c :: r => (if c = 10 ∧ a = 13 then [] else if c = 13 then [10] else [c]) ++ feedsF c r
def feedsL (l : List Nat) : List Nat := feedsF 32 l
def e1 (c : Nat) : List Nat := if c = 38 then [38, 97, 109, 112, 59] else if c = 60 then [38, 108, 116, 59] else if c = 62 then [38, 103, 116, 59] else [c]
def escdL (l : List Nat) : List Nat := (feedsL l).flatMap e1
def joinL : List (List Nat) → List Nat
  | [] => []
  | [l] => quoP l
  | l :: r => quoP l ++ 32 :: joinL r
theorem feedsF_a {a b : Nat} {l : List Nat} (h : l.head? ≠ some 10 ∨ (a ≠ 13 ∧ b ≠ 13)) : feedsF a l = feedsF b l := by
  cases l with
  | nil => rfl
  | cons c r =>
    show (if c = 10 ∧ a = 13 then [] else if c = 13 then [10] else [c]) ++ feedsF c r = (if c = 10 ∧ b = 13 then [] else if c = 13 then [10] else [c]) ++ feedsF c r
    have e1 : ¬ (c = 10 ∧ a = 13) := by rintro ⟨rfl, rfl⟩; simp at h
    have e2 : ¬ (c = 10 ∧ b = 13) := by rintro ⟨rfl, rfl⟩; simp at h
    rw [if_neg e1, if_neg e2]
theorem feedsF_app : ∀ (x : List Nat) (a : Nat) (y : List Nat), feedsF a (x ++ y) = feedsF a x ++ feedsF (x.getLast?.getD a) y
  | [], a, y => rfl
  | c :: r, a, y => by
    show _ ++ feedsF c (r ++ y) = (_ ++ feedsF c r) ++ _
    rw [feedsF_app r c y, List.append_assoc]
    congr 3
    cases r with
    | nil => rfl
    | cons d r' => simp [List.getLast?_cons]
theorem ends_eqF : ∀ (n : Nat) (l : List Nat) (a : Nat), l.length ≤ n → (a ≠ 13) → endsP l = feedsF a l := by
  intro n
  induction n with
  | zero => intro l a h _; rw [List.eq_nil_of_length_eq_zero (Nat.le_zero.mp h)]; rfl
  | succ n ih =>
    intro l a h ha
    cases l with
    | nil => rfl
    | cons c r =>
      by_cases hc : c = 13
      · subst hc
        cases r with
        | nil => rfl
        | cons d r' =>
          by_cases hd : d = 10
          · subst hd
            show rep [13] [10] 0 ([10] ++ rep [13, 10] [10] 0 r') = 10 :: ([] ++ feedsF 10 r')
            have h1 : r'.length ≤ n := by simp at h; omega
            rw [← ih r' 10 h1 (by decide)]
            rfl
          · have e : rep [13, 10] [10] 0 (13 :: d :: r') = 13 :: rep [13, 10] [10] 0 (d :: r') := by
              rw [rep, if_neg (by simp [hd])]
            show rep [13] [10] 0 (rep [13, 10] [10] 0 (13 :: d :: r')) = 10 :: feedsF 13 (d :: r')
            rw [e]
            have h1 : (d :: r').length ≤ n := by simp at h ⊢; omega
            rw [feedsF_a (b := 32) (l := d :: r') (by left; simp [hd]), ← ih _ 32 h1 (by decide)]
            rfl
      · have e : rep [13, 10] [10] 0 (c :: r) = c :: rep [13, 10] [10] 0 r := by
          rw [rep, if_neg]
          intro q
          cases r with
          | nil => simp at q
          | cons d r' => simp at q; exact hc q.1
        show rep [13] [10] 0 (rep [13, 10] [10] 0 (c :: r)) = (if c = 10 ∧ a = 13 then [] else if c = 13 then [10] else [c]) ++ feedsF c r
        rw [e, if_neg (fun q => ha q.2), if_neg hc]
        have h1 : r.length ≤ n := by simp at h; omega
        rw [← ih r c h1 hc]
        rw [rep, if_neg (by simp [hc])]
        rfl
theorem ends_eq (l : List Nat) : endsP l = feedsL l := ends_eqF l.length l 32 (Nat.le_refl _) (by decide)
theorem flat_flat {f g : Nat → List Nat} (l : List Nat) : (l.flatMap f).flatMap g = l.flatMap fun k => (f k).flatMap g := by
  rw [List.flatMap_assoc]
theorem esc_eq (l : List Nat) : escP l = escdL l := by
  unfold escP escdL
  rw [rep_one, rep_one, rep_one, ends_eq, flat_flat, flat_flat]
  congr 1
  funext k
  unfold e1
  by_cases h1 : k = 38
  · subst h1; rfl
  · by_cases h2 : k = 60
    · subst h2; rfl
    · by_cases h3 : k = 62
      · subst h3; rfl
      · simp [h1, h2, h3]
def q1 (c : Nat) : List Nat := if c = 39 then [39, 34, 39, 34, 39] else [c]
theorem rep39 (l : List Nat) : rep [39] [39, 34, 39, 34, 39] 0 l = l.flatMap q1 := rep_one _ _ _
/-- the line ends of a text with its apostrophes spelt out -/
theorem feeds_q1 : ∀ (l : List Nat) (a : Nat), feedsF a (l.flatMap q1) = (feedsF a l).flatMap q1
  | [], a => rfl
  | c :: r, a => by
    have ih := feeds_q1 r
    by_cases h : c = 39
    · subst h
      show feedsF a ([39, 34, 39, 34, 39] ++ r.flatMap q1) = ([39] ++ feedsF 39 r).flatMap q1
      rw [feedsF_app, List.flatMap_append, ← ih 39]
      have : feedsF a [39, 34, 39, 34, 39] = [39, 34, 39, 34, 39] := by simp [feedsF]
      rw [this]; rfl
    · show feedsF a (q1 c ++ r.flatMap q1) = ((if c = 10 ∧ a = 13 then [] else if c = 13 then [10] else [c]) ++ feedsF c r).flatMap q1
      rw [show q1 c = [c] from if_neg h, List.flatMap_append, ← ih c]
      show (if c = 10 ∧ a = 13 then [] else if c = 13 then [10] else [c]) ++ feedsF c (r.flatMap q1) = _
      congr 1
      by_cases h1 : c = 10 ∧ a = 13
      · rw [if_pos h1]; rfl
      · rw [if_neg h1]
        by_cases h2 : c = 13
        · rw [if_pos h2]; rfl
        · rw [if_neg h2]; simp [q1, h]
theorem hit2_13 : hit2 13 = true := by decide +kernel
theorem hit2_10 : hit2 10 = true := by decide +kernel
theorem hit2_38 : hit2 38 = true := by decide +kernel
theorem hit2_60 : hit2 60 = true := by decide +kernel
theorem hit2_62 : hit2 62 = true := by decide +kernel
theorem feeds_hit : ∀ (l : List Nat) (a : Nat), (hit2 a || (feedsF a l).any hit2) = (hit2 a || l.any hit2)
  | [], a => rfl
  | c :: r, a => by
    have ih := feeds_hit r c
    show (hit2 a || (_ ++ feedsF c r).any hit2) = (hit2 a || (hit2 c || r.any hit2))
    rw [← ih]
    by_cases h1 : c = 10 ∧ a = 13
    · rw [if_pos h1, h1.2, hit2_13]; rfl
    · rw [if_neg h1]
      by_cases h2 : c = 13
      · rw [if_pos h2, h2, hit2_13]; simp [hit2_10]
      · rw [if_neg h2]; simp
theorem feeds_hit0 (l : List Nat) : (feedsL l).any hit2 = l.any hit2 := by
  cases l with
  | nil => rfl
  | cons c r =>
    have h := feeds_hit r c
    show ((if c = 10 ∧ (32 : Nat) = 13 then [] else if c = 13 then [10] else [c]) ++ feedsF c r).any hit2 = _
    rw [if_neg (by simp)]
    by_cases h2 : c = 13
    · subst h2; simp [hit2_10, hit2_13]
    · rw [if_neg h2]
      simpa using h
theorem e1_hit (c : Nat) : (e1 c).any hit2 = hit2 c := by
  unfold e1
  by_cases h1 : c = 38
  · subst h1; rw [if_pos rfl, hit2_38]; simp [hit2_38]
  · rw [if_neg h1]
    by_cases h2 : c = 60
    · subst h2; rw [if_pos rfl, hit2_60]; simp [hit2_38]
    · rw [if_neg h2]
      by_cases h3 : c = 62
      · subst h3; rw [if_pos rfl, hit2_62]; simp [hit2_38]
      · rw [if_neg h3]; simp
theorem flat_hit (l : List Nat) : (l.flatMap e1).any hit2 = l.any hit2 := by
  induction l with
  | nil => rfl
  | cons c r ih => rw [List.flatMap_cons, List.any_append, e1_hit, ih]; rfl
theorem feeds_nil {l : List Nat} : feedsL l = [] ↔ l = [] := by
  cases l with
  | nil => exact ⟨fun _ => rfl, fun _ => rfl⟩
  | cons c r =>
    refine ⟨fun h => ?_, fun h => nomatch h⟩
    have : (if c = 10 ∧ (32 : Nat) = 13 then [] else if c = 13 then [10] else [c]) ++ feedsF c r = [] := h
    rw [if_neg (by simp)] at this
    by_cases h2 : c = 13
    · rw [if_pos h2] at this; cases this
    · rw [if_neg h2] at this; cases this
theorem e1_ne (c : Nat) : e1 c ≠ [] := by
  unfold e1
  by_cases h1 : c = 38
  · rw [if_pos h1]; simp
  · rw [if_neg h1]
    by_cases h2 : c = 60
    · rw [if_pos h2]; simp
    · rw [if_neg h2]
      by_cases h3 : c = 62
      · rw [if_pos h3]; simp
      · rw [if_neg h3]; simp
theorem flat_nil {l : List Nat} : l.flatMap e1 = [] ↔ l = [] := by
  cases l with
  | nil => exact ⟨fun _ => rfl, fun _ => rfl⟩
  | cons c r => exact ⟨fun h => absurd (List.append_eq_nil_iff.mp (by rwa [List.flatMap_cons] at h)).1 (e1_ne c), fun h => nomatch h⟩
theorem feeds_plain : ∀ (l : List Nat) (a : Nat), l.any hit2 = false → feedsF a l = l
  | [], _, _ => rfl
  | c :: r, a, h => by
    rw [List.any_cons, Bool.or_eq_false_iff] at h
    have h1 : c ≠ 10 := by rintro rfl; rw [hit2_10] at h; cases h.1
    have h2 : c ≠ 13 := by rintro rfl; rw [hit2_13] at h; cases h.1
    show (if c = 10 ∧ a = 13 then [] else if c = 13 then [10] else [c]) ++ feedsF c r = c :: r
    rw [if_neg (fun q => h1 q.1), if_neg h2, feeds_plain r c h.2]; rfl
theorem flat_plain : ∀ (l : List Nat), l.any hit2 = false → l.flatMap e1 = l
  | [], _ => rfl
  | c :: r, h => by
    rw [List.any_cons, Bool.or_eq_false_iff] at h
    have h1 : c ≠ 38 := by rintro rfl; rw [hit2_38] at h; cases h.1
    have h2 : c ≠ 60 := by rintro rfl; rw [hit2_60] at h; cases h.1
    have h3 : c ≠ 62 := by rintro rfl; rw [hit2_62] at h; cases h.1
    rw [List.flatMap_cons, flat_plain r h.2]; simp [e1, h1, h2, h3]
theorem e1_q1 (l : List Nat) : (l.flatMap q1).flatMap e1 = (l.flatMap e1).flatMap q1 := by
  rw [flat_flat, flat_flat]
  congr 1
  funext k
  by_cases h : k = 39
  · subst h; rfl
  · rw [show q1 k = [k] from if_neg h]
    by_cases h1 : k = 38
    · subst h1; rfl
    · by_cases h2 : k = 60
      · subst h2; rfl
      · by_cases h3 : k = 62
        · subst h3; rfl
        · simp [e1, h1, h2, h3, q1, h]
theorem feeds_quo (l : List Nat) : feedsL (quoP l) = quoP (feedsL l) := by
  unfold quoP
  by_cases h0 : l = []
  · subst h0; rfl
  · rw [if_neg h0, if_neg (fun q => h0 (feeds_nil.mp q)), feeds_hit0]
    by_cases h1 : l.any hit2 = true
    · rw [if_pos h1, if_pos h1, rep39, rep39]
      unfold feedsL
      rw [feedsF_app, feedsF_app]
      have e2 : feedsF (Option.getD [39].getLast? 32) (l.flatMap q1) = (feedsF 39 l).flatMap q1 := feeds_q1 l 39
      rw [e2, feedsF_a (a := 39) (b := 32) (l := l) (by right; decide)]
      simp [feedsF]
    · rw [if_neg h1, if_neg h1]
theorem flat_quo (l : List Nat) : (quoP l).flatMap e1 = quoP (l.flatMap e1) := by
  unfold quoP
  by_cases h0 : l = []
  · subst h0; rfl
  · rw [if_neg h0, if_neg (fun q => h0 (flat_nil.mp q)), flat_hit]
    by_cases h1 : l.any hit2 = true
    · rw [if_pos h1, if_pos h1, rep39, rep39, List.flatMap_append, List.flatMap_append, e1_q1]
      rfl
    · rw [if_neg h1, if_neg h1]
theorem quo_head (l : List Nat) : (quoP l).head? ≠ some 10 := by
  unfold quoP
  by_cases h0 : l = []
  · rw [if_pos h0]; simp
  · rw [if_neg h0]
    by_cases h1 : l.any hit2 = true
    · rw [if_pos h1]; simp
    · rw [if_neg h1]
      cases l with
      | nil => simp
      | cons c r =>
        rw [List.head?_cons]
        rintro q
        cases q
        simp [hit2_10] at h1
theorem quo_ne (l : List Nat) : quoP l ≠ [] := by
  unfold quoP
  by_cases h0 : l = []
  · rw [if_pos h0]; simp
  · rw [if_neg h0]
    by_cases h1 : l.any hit2 = true
    · rw [if_pos h1]; simp
    · rw [if_neg h1]; exact h0
theorem join_head : ∀ (ls : List (List Nat)), (joinL ls).head? ≠ some 10
  | [] => by simp [joinL]
  | [l] => quo_head l
  | l :: m :: r => by
    show (quoP l ++ _).head? ≠ _
    have h1 := quo_head l
    have h2 := quo_ne l
    cases h : quoP l with
    | nil => exact absurd h h2
    | cons c x => rw [h] at h1; simpa using h1
theorem feeds_join : ∀ ls : List (List Nat), feedsL (joinL ls) = joinL (ls.map feedsL)
  | [] => rfl
  | [l] => feeds_quo l
  | l :: m :: r => by
    show feedsL (quoP l ++ 32 :: joinL (m :: r)) = quoP (feedsL l) ++ 32 :: joinL ((m :: r).map feedsL)
    rw [← feeds_join (m :: r), ← feeds_quo]
    unfold feedsL
    rw [feedsF_app, feedsF_a (a := (quoP l).getLast?.getD 32) (b := 32) (by left; simp)]
    rfl
theorem flat_join : ∀ ls : List (List Nat), (joinL ls).flatMap e1 = joinL (ls.map fun l => l.flatMap e1)
  | [] => rfl
  | [l] => flat_quo l
  | l :: m :: r => by
    show (quoP l ++ 32 :: joinL (m :: r)).flatMap e1 = quoP (l.flatMap e1) ++ 32 :: joinL ((m :: r).map fun l => l.flatMap e1)
    rw [← flat_join (m :: r), ← flat_quo, List.flatMap_append]
    rfl
theorem esc_join (ls : List (List Nat)) : escP (joinL ls) = joinL (ls.map escdL) := by
  rw [esc_eq]
  unfold escdL
  rw [feeds_join, flat_join, List.map_map]
  rfl
end
/-! ### Zip -/
section
open PySem.F
section
variable {prog : Program} {w : World} {A : Around} {E : Value → Shared → Prop} {s : Shared}
/-- a zip over two texts: n, n + 1 their iterators, n + 2 the pair of them, n + 3 its own pair, n + 4 the zip -/
structure ZipS (h : Heap) (n : Nat) (x y : Str) (t u : Tok) (i : Nat) (f0 : Value) : Prop where
  z : IsZip h (n + 4) (n + 2) (n + 3) f0
  ti : IsPair h (n + 2) (.ref n) (.ref (n + 1))
  to : ∃ a b, IsPair h (n + 3) a b
  a : h.IsStrIter n "str_ascii_iterator" x t i
  b : h.IsStrIter (n + 1) "str_ascii_iterator" y u i
def zipWr (n : Nat) (c : Nat) : Prop := n ≤ c ∧ c ≤ n + 4
theorem ne_ {a b : Nat} (h : a ≠ b) : @Ne Addr a b := h
theorem zne {n b c : Nat} (hb : ¬ zipWr n b) (hc : zipWr n c) : @Ne Addr b c := fun r => hb (r ▸ hc)
theorem strIter_at {h h' : Heap} {a : Addr} {ty : String} {x : Str} {t : Tok} {i : Nat} (y : h.IsStrIter a ty x t i) (k : ∀ o, h.get? a = some o → h'.get? a = some o) : h'.IsStrIter a ty x t i :=
  let ⟨o, e, r⟩ := y; ⟨o, k o e, r⟩
theorem ZipS.at {h h' : Heap} {n : Nat} {x y : Str} {t u : Tok} {i : Nat} {f0 : Value} (Z : ZipS h n x y t u i f0) (k : ∀ b o, zipWr n b → h.get? b = some o → h'.get? b = some o) : ZipS h' n x y t u i f0 :=
  ⟨k _ _ ⟨by omega, by omega⟩ Z.z, k _ _ ⟨by omega, by omega⟩ Z.ti, let ⟨a, b, q⟩ := Z.to; ⟨a, b, k _ _ ⟨by omega, by omega⟩ q⟩, strIter_at Z.a fun o => k _ o ⟨by omega, by omega⟩, strIter_at Z.b fun o => k _ o ⟨by omega, by omega⟩⟩
theorem zipS_next {n : Nat} {x y : Str} {t u : Tok} {i c d : Nat} {Q : Option Value → Shared → Prop} (Z : ZipS s.heap n x y t u i .none) (hx : x.cps[i]? = some c) (hy : y.cps[i]? = some d)
    (hQ : ∀ h' (T : Nat) t1 t2 tk, ZipS h' n x y t u (i + 1) (rawInt T) → IsPair h' T (.str ⟨#[c]⟩ t1) (.str ⟨#[d]⟩ t2) → s.heap.objs.size ≤ T → s.toks ≤ tk →
      (∀ b o, ¬ zipWr n b → s.heap.get? b = some o → h'.get? b = some o) → Q (some (.ref T)) { s with heap := h', toks := tk }) :
    wpAny (model prog w) A (pyNext (.ref (n + 4))) Q E s := by
  obtain ⟨hz, hTI, ⟨a, b, hTO⟩, h1, h2⟩ := Z
  have hT : s.TypeIs (.ref (n + 4)) "zip" := ⟨_, hz, rfl⟩
  unfold pyNext
  refine wpAny_bind (wpAny_attempt (wpAny_callSpecial?_slot (name := Str.ofString "__next__") hT F.slot_zip_next
    (wpAny_call_entry F.slot_zip_next hT F.entry_zip_next ?_ (F.args_zip_next_1 _))))
  show wpAny _ _ (field (.ref (n + 4)) 2 >>= _) _ _ _
  refine wpAny_bind (wpAny_field hz rfl (x := .bool false) rfl ?_)
  show wpAny _ _ (field (.ref (n + 4)) 3 >>= _) _ _ _
  refine wpAny_bind (wpAny_field hz rfl (x := .ref (n + 2)) rfl ?_)
  refine wpAny_bind (wpAny_seqItems hTI rfl ?_)
  show wpAny _ _ (Builtin.SmallTypes.ownedTupleIsFree (.ref (n + 4)) >>= _) _ _ _
  refine wpAny_bind ?_
  unfold Builtin.SmallTypes.ownedTupleIsFree
  refine wpAny_bind (wpAny_field hz rfl (x := .none) rfl (wpAny_pure ?_))
  simp only [if_true]
  refine wpAny_bind (wpAny_rule ?_)
  refine wpAny_bind (wpAny_field hz rfl (x := .ref (n + 3)) rfl ?_)
  refine wpAny_bind (wpAny_setField_rec hz (by simp) fun e₁ hz₁ hs₁ => ?_)
  replace hz₁ : IsZip e₁ (n + 4) (n + 2) (n + 3) .ellipsis := hz₁
  refine wpAny_bind ?_
  simp only [List.zipIdx_cons, List.zipIdx_nil, List.forIn_cons, List.forIn_nil]
  refine wpAny_bind (wpAny_bind (wpAny_onRaise ?_))
  show wpAny _ _ (Builtin.SmallTypes.nextOf (.ref n) >>= _) _ _ _
  refine wpAny_bind (wpAny_nextOf_ascii_item (strIter_at h1 fun o => hs₁.extBut _ o (ne_ (by omega))) hx fun e₂ h1₂ hs₂ => wpAny_pure ?_)
  have hTO₂ : IsPair e₂ (n + 3) a b := hs₂.extBut _ _ (ne_ (by omega)) (hs₁.extBut _ _ (ne_ (by omega)) hTO)
  refine wpAny_bind (wpAny_seqItems hTO₂ rfl ?_)
  refine wpAny_bind (wpAny_updateSeq_pair hTO₂ fun e₃ hTO₃ hs₃ => ?_)
  replace hTO₃ : IsPair e₃ (n + 3) (.str ⟨#[c]⟩ s.toks) b := hTO₃
  refine wpAny_bind (wpAny_letGo (wpAny_pure ?_))
  refine wpAny_bind (wpAny_bind (wpAny_onRaise ?_))
  show wpAny _ _ (Builtin.SmallTypes.nextOf (.ref (n + 1)) >>= _) _ _ _
  refine wpAny_bind (wpAny_nextOf_ascii_item (strIter_at h2 fun o e => hs₃.extBut _ o (ne_ (by omega)) (hs₂.extBut _ o (ne_ (by omega)) (hs₁.extBut _ o (ne_ (by omega)) e))) hy fun e₄ h2₄ hs₄ => wpAny_pure ?_)
  have hTO₄ : IsPair e₄ (n + 3) (.str ⟨#[c]⟩ s.toks) b := hs₄.extBut _ _ (ne_ (by omega)) hTO₃
  refine wpAny_bind (wpAny_seqItems hTO₄ rfl ?_)
  refine wpAny_bind (wpAny_updateSeq_pair hTO₄ fun e₅ hTO₅ hs₅ => ?_)
  replace hTO₅ : IsPair e₅ (n + 3) (.str ⟨#[c]⟩ s.toks) (.str ⟨#[d]⟩ (s.toks + 1)) := hTO₅
  refine wpAny_bind (wpAny_letGo (wpAny_pure (wpAny_pure ?_)))
  refine wpAny_bind (wpAny_seqItems hTO₅ rfl ?_)
  refine wpAny_bind (wpAny_newTuple ?_)
  have hsz : e₅.objs.size = s.heap.objs.size := by rw [hs₅.1, hs₄.1, hs₃.1, hs₂.1, hs₁.1]
  have up : ∀ b o, b ≠ n + 4 → b ≠ n + 3 → b ≠ n → b ≠ n + 1 → s.heap.get? b = some o → e₅.get? b = some o := fun b o b1 b2 b3 b4 e =>
    hs₅.extBut _ _ b2 (hs₄.extBut _ _ b4 (hs₃.extBut _ _ b2 (hs₂.extBut _ _ b3 (hs₁.extBut _ _ b1 e))))
  have hz₅ : IsZip e₅ (n + 4) (n + 2) (n + 3) .ellipsis := hs₅.extBut _ _ (ne_ (by omega)) (hs₄.extBut _ _ (ne_ (by omega)) (hs₃.extBut _ _ (ne_ (by omega)) (hs₂.extBut _ _ (ne_ (by omega)) hz₁)))
  have h1₅ : e₅.IsStrIter n "str_ascii_iterator" x t (i + 1) := strIter_at h1₂ fun o e => hs₅.extBut _ o (ne_ (by omega)) (hs₄.extBut _ o (ne_ (by omega)) (hs₃.extBut _ o (ne_ (by omega)) e))
  have h2₅ : e₅.IsStrIter (n + 1) "str_ascii_iterator" y u (i + 1) := strIter_at h2₄ fun o e => hs₅.extBut _ o (ne_ (by omega)) e
  have hlt : n + 4 < e₅.objs.size := Heap.lt_size hz₅
  show wpAny _ _ (Builtin.SmallTypes.ownedTupleHandOut (.ref (n + 4)) (.ref e₅.objs.size) >>= _) _ _ _
  refine wpAny_bind ?_
  unfold Builtin.SmallTypes.ownedTupleHandOut
  have hz₆ : IsZip (e₅.push { cls := .type "tuple", data := .seq #[.str ⟨#[c]⟩ s.toks, .str ⟨#[d]⟩ (s.toks + 1)] }) (n + 4) (n + 2) (n + 3) .ellipsis := Heap.get?_push_of_some _ hz₅
  refine wpAny_bind (wpAny_setField_rec hz₆ (by simp) fun e₇ hz₇ hs₇ => ?_)
  replace hz₇ : IsZip e₇ (n + 4) (n + 2) (n + 3) (rawInt e₅.objs.size) := hz₇
  refine wpAny_setField_rec hz₇ (by simp) fun e₈ hz₈ hs₈ => ?_
  replace hz₈ : IsZip e₈ (n + 4) (n + 2) (n + 3) (rawInt e₅.objs.size) := hz₈
  have up8 : ∀ b o, b ≠ n + 4 → e₅.get? b = some o → e₈.get? b = some o := fun b o b1 e => hs₈.extBut _ _ b1 (hs₇.extBut _ _ b1 (Heap.get?_push_of_some _ e))
  refine wpAny_pure ⟨_, rfl, wpAny_pure ?_⟩
  refine hQ e₈ e₅.objs.size s.toks (s.toks + 1) _ ⟨hz₈, up8 _ _ (ne_ (by omega)) (up _ _ (ne_ (by omega)) (ne_ (by omega)) (ne_ (by omega)) (ne_ (by omega)) hTI), ⟨_, _, up8 _ _ (ne_ (by omega)) hTO₅⟩, strIter_at h1₅ fun o => up8 _ o (ne_ (by omega)), strIter_at h2₅ fun o => up8 _ o (ne_ (by omega))⟩
    (hs₈.extBut _ _ (ne_ (by omega)) (hs₇.extBut _ _ (ne_ (by omega)) (Heap.get?_push_size _ rfl))) (Nat.le_of_eq hsz.symm) (by show s.toks ≤ s.toks + 1 + 1; omega) fun b o hb e => ?_
  have b1 : @Ne Addr b (n + 4) := zne hb ⟨by omega, by omega⟩
  exact up8 b o b1 (up b o b1 (zne hb ⟨by omega, by omega⟩) (zne hb ⟨by omega, by omega⟩) (zne hb ⟨by omega, by omega⟩) e)
theorem zipS_end {n : Nat} {x y : Str} {t u : Tok} {i : Nat} {Q : Option Value → Shared → Prop} (hh : A.handled = none) (Z : ZipS s.heap n x y t u i .none) (hx : x.cps[i]? = none)
    (hQ : ∀ h', (∀ b o, ¬ zipWr n b → s.heap.get? b = some o → h'.get? b = some o) → Q none { s with heap := h' }) :
    wpAny (model prog w) A (pyNext (.ref (n + 4))) Q E s := by
  obtain ⟨hz, hTI, ⟨a, b, hTO⟩, h1, h2⟩ := Z
  have hT : s.TypeIs (.ref (n + 4)) "zip" := ⟨_, hz, rfl⟩
  unfold pyNext
  refine wpAny_bind (wpAny_attempt (wpAny_callSpecial?_slot (name := Str.ofString "__next__") hT F.slot_zip_next
    (wpAny_call_entry F.slot_zip_next hT F.entry_zip_next ?_ (F.args_zip_next_1 _))))
  show wpAny _ _ (field (.ref (n + 4)) 2 >>= _) _ _ _
  refine wpAny_bind (wpAny_field hz rfl (x := .bool false) rfl ?_)
  show wpAny _ _ (field (.ref (n + 4)) 3 >>= _) _ _ _
  refine wpAny_bind (wpAny_field hz rfl (x := .ref (n + 2)) rfl ?_)
  refine wpAny_bind (wpAny_seqItems hTI rfl ?_)
  show wpAny _ _ (Builtin.SmallTypes.ownedTupleIsFree (.ref (n + 4)) >>= _) _ _ _
  refine wpAny_bind ?_
  unfold Builtin.SmallTypes.ownedTupleIsFree
  refine wpAny_bind (wpAny_field hz rfl (x := .none) rfl (wpAny_pure ?_))
  simp only [if_true]
  refine wpAny_bind (wpAny_rule ?_)
  refine wpAny_bind (wpAny_field hz rfl (x := .ref (n + 3)) rfl ?_)
  refine wpAny_bind (wpAny_setField_rec hz (by simp) fun e₁ hz₁ hs₁ => ?_)
  replace hz₁ : IsZip e₁ (n + 4) (n + 2) (n + 3) .ellipsis := hz₁
  refine wpAny_bind ?_
  simp only [List.zipIdx_cons, List.zipIdx_nil, List.forIn_cons, List.forIn_nil]
  refine wpAny_bind (wpAny_bind (wpAny_onRaise ?_))
  show wpAny _ _ (Builtin.SmallTypes.nextOf (.ref n) >>= _) _ _ _
  refine wpAny_bind (wpAny_nextOf_ascii_end hh (strIter_at h1 fun o => hs₁.extBut _ o (ne_ (by omega))) hx fun e₂ e hs₂ he => ?_)
  obtain ⟨oe, hoe, hce⟩ := he
  have hz₂ : IsZip e₂ (n + 4) (n + 2) (n + 3) .ellipsis := hs₂ _ _ (ne_ (by omega)) hz₁
  have hez : e ≠ n + 4 := fun x => by subst x; rw [hz₂] at hoe; cases hoe; simp at hce
  refine wpAny_setField_rec hz₂ (by simp) fun e₃ _ hs₃ => ?_
  refine wpAny_bind (wpAny_isInstance (T := "StopIteration") (b := true) ⟨oe, hs₃.extBut _ _ hez hoe, hce⟩ isSubtype_stop ?_)
  exact wpAny_pure (hQ _ fun b o hb q => hs₃.extBut _ _ (zne hb ⟨by omega, by omega⟩) (hs₂ _ _ (zne hb ⟨by omega, by omega⟩) (hs₁.extBut _ _ (zne hb ⟨by omega, by omega⟩) q)))
end
theorem meets_zipS_new (x y : Str) (t u : Tok) (hx : x.cps.all (· < 128) = true) (hy : y.cps.all (· < 128) = true) :
    Meets (Builtin.«zip.__new__» ⟨[.type "zip", .str x t, .str y u], []⟩) (fun _ R s =>
      R (.ok (.ret (.ref (s.heap.objs.size + 4)))) { s with heap := ((((s.heap.push { cls := .type "str_ascii_iterator", data := .fields #[.str x t, .int 0 0] }).push { cls := .type "str_ascii_iterator", data := .fields #[.str y u, .int 0 0] }).push { cls := .type "tuple", data := .seq #[.ref s.heap.objs.size, .ref (s.heap.objs.size + 1)] }).push { cls := .type "tuple", data := .seq #[.none, .none] }).push { cls := .type "zip", data := .fields #[.none, .bool false, .bool false, .ref (s.heap.objs.size + 2), .ref (s.heap.objs.size + 3)] } }) :=
  .of_wp fun prog w A R s h => by
    obtain ⟨hp, g, d, tk, os⟩ := s
    have hsub := sub_zip
    wp_walk using wpAny_pyIter_ascii hx, wpAny_pyIter_ascii hy
    simp only [Heap.size_push] at h ⊢
    exact ⟨_, rfl, h⟩
section
variable {prog : Program} {w : World} {A : Around} {E : Value → Shared → Prop} {s : Shared}
theorem zipS_call {x y : Str} {t u : Tok} {Q : Value → Shared → Prop} (hx : x.cps.all (· < 128) = true) (hy : y.cps.all (· < 128) = true)
    (h : ∀ h', ZipS h' s.heap.objs.size x y t u 0 .none → h'.objs.size = s.heap.objs.size + 5 → (∀ c o, s.heap.get? c = some o → h'.get? c = some o) → Q (.ref (s.heap.objs.size + 4)) { s with heap := h' }) :
    wpAny (model prog w) A (call (.type "zip") [.str x t, .str y u]) Q E s := by
  refine callType_new F.called_zip (by decide) (F.typeCall_zip_2 _ _) (F.newCall_zip_2 _ _) (fun obj => F.args_object_init_3 obj _ _) F.entry_zip_new
    (meets_zipS_new x y t u hx hy) ?_
  generalize hH1 : s.heap.push { cls := .type "str_ascii_iterator", data := .fields #[.str x t, .int 0 0] } = H1
  have z1 : H1.objs.size = s.heap.objs.size + 1 := by rw [← hH1, Heap.size_push]
  have g1 : H1.get? s.heap.objs.size = some { cls := .type "str_ascii_iterator", data := .fields #[.str x t, .int 0 0] } := by rw [← hH1]; exact Heap.get?_push_size _ rfl
  have k1 : ∀ c o, s.heap.get? c = some o → H1.get? c = some o := fun c o e => by rw [← hH1]; exact Heap.get?_push_of_some _ e
  generalize hH2 : H1.push { cls := .type "str_ascii_iterator", data := .fields #[.str y u, .int 0 0] } = H2
  have z2 : H2.objs.size = s.heap.objs.size + 2 := by rw [← hH2, Heap.size_push, z1]
  have g2 : H2.get? (s.heap.objs.size + 1) = some { cls := .type "str_ascii_iterator", data := .fields #[.str y u, .int 0 0] } := by rw [← hH2, ← z1]; exact Heap.get?_push_size _ rfl
  have k2 : ∀ c o, H1.get? c = some o → H2.get? c = some o := fun c o e => by rw [← hH2]; exact Heap.get?_push_of_some _ e
  generalize hH3 : H2.push { cls := .type "tuple", data := .seq #[.ref s.heap.objs.size, .ref (s.heap.objs.size + 1)] } = H3
  have z3 : H3.objs.size = s.heap.objs.size + 3 := by rw [← hH3, Heap.size_push, z2]
  have g3 : H3.get? (s.heap.objs.size + 2) = some { cls := .type "tuple", data := .seq #[.ref s.heap.objs.size, .ref (s.heap.objs.size + 1)] } := by rw [← hH3, ← z2]; exact Heap.get?_push_size _ rfl
  have k3 : ∀ c o, H2.get? c = some o → H3.get? c = some o := fun c o e => by rw [← hH3]; exact Heap.get?_push_of_some _ e
  generalize hH4 : H3.push { cls := .type "tuple", data := .seq #[.none, .none] } = H4
  have z4 : H4.objs.size = s.heap.objs.size + 4 := by rw [← hH4, Heap.size_push, z3]
  have g4 : H4.get? (s.heap.objs.size + 3) = some { cls := .type "tuple", data := .seq #[.none, .none] } := by rw [← hH4, ← z3]; exact Heap.get?_push_size _ rfl
  have k4 : ∀ c o, H3.get? c = some o → H4.get? c = some o := fun c o e => by rw [← hH4]; exact Heap.get?_push_of_some _ e
  generalize hH5 : H4.push { cls := .type "zip", data := .fields #[.none, .bool false, .bool false, .ref (s.heap.objs.size + 2), .ref (s.heap.objs.size + 3)] } = H5
  have z5 : H5.objs.size = s.heap.objs.size + 5 := by rw [← hH5, Heap.size_push, z4]
  have g5 : H5.get? (s.heap.objs.size + 4) = some { cls := .type "zip", data := .fields #[.none, .bool false, .bool false, .ref (s.heap.objs.size + 2), .ref (s.heap.objs.size + 3)] } := by rw [← hH5, ← z4]; exact Heap.get?_push_size _ rfl
  have k5 : ∀ c o, H4.get? c = some o → H5.get? c = some o := fun c o e => by rw [← hH5]; exact Heap.get?_push_of_some _ e
  show _ ∧ _
  exact ⟨⟨_, g5, rfl⟩, h _ ⟨g5, k5 _ _ (k4 _ _ g3), ⟨_, _, k5 _ _ g4⟩, ⟨_, k5 _ _ (k4 _ _ (k3 _ _ (k2 _ _ g1))), rfl, rfl⟩, ⟨_, k5 _ _ (k4 _ _ (k3 _ _ g2)), rfl, rfl⟩⟩ z5 fun c o e => k5 _ _ (k4 _ _ (k3 _ _ (k2 _ _ (k1 _ _ e))))⟩
end
end
/-! ### FeeA -/
section
def pc (c d : Nat) : List Nat := if c = 10 ∧ d = 13 then [] else if c = 13 then [10] else [c]
theorem feedsF_zip : ∀ (l : List Nat) (a : Nat), feedsF a l = (List.zipWith pc l (a :: l)).flatten
  | [], a => rfl
  | c :: r, a => by
    show pc c a ++ feedsF c r = (pc c a :: List.zipWith pc r (c :: r)).flatten
    rw [feedsF_zip r c]; rfl
theorem pc_len (c d : Nat) : (pc c d).length ≤ 1 := by
  unfold pc; split
  · simp
  · split <;> simp
theorem txt_join (x : Str) (l : List Str) : Txt.join x l = Str.join x l := PySem.StrLaws.glued_eq_join _ _
theorem join_nil : ∀ xs : List (List Nat), Str.join (Str.ofString "") (xs.map S) = S xs.flatten
  | [] => rfl
  | [x] => by
    show S x = S [x].flatten
    simp
  | x :: y :: r => by
    have ih := join_nil (y :: r)
    show S x ++ Str.ofString "" ++ Str.join (Str.ofString "") ((y :: r).map S) = _
    rw [ih, show Str.ofString "" = S [] from rfl, S_cat, S_cat, List.append_nil]
    rfl
theorem sumlen_le (n : Nat) : ∀ xs : List Str, (∀ x ∈ xs, x.length ≤ n) → (xs.map (·.length)).sum ≤ xs.length * n
  | [], _ => by simp
  | x :: r, h => by
    have := sumlen_le n r fun y hy => h y (.tail _ hy)
    have h1 := h x (.head _)
    rw [List.map_cons, List.sum_cons, List.length_cons, Nat.add_mul]; omega
theorem beqS (c : Nat) (x : Str) (d : Nat) (e : x.cps.toList = [d]) : ((⟨#[c]⟩ : Str).cps.toList == x.cps.toList) = decide (c = d) := by
  rw [e]
  show ([c] == [d]) = decide (c = d)
  by_cases h : c = d
  · subst h; simp
  · rw [decide_eq_false h, beq_eq_false_iff_ne]; simpa using h
section
variable {prog : Program} {w : World} {A : Around} {E : Value → Shared → Prop} {s : Shared} {env : Env} {m : Str → Option Value}
theorem ld_loc {x : Str} {p : Pos} {v : Value} {Q : Value → Shared → Prop} (hk : env.scope.kind = .function) (hx : env.kindOf x = some .local) (hn : s.heap.Ns env.locals m) (hv : m x = some v) (h : Q v s) (hd : (x == ("__debug__" : Str)) = false := by decide) :
    wpAny (model prog w) A (eval (.Name x p) env) Q E s := wpAny_Name (wpAny_loadName_local hk hx hn hv h) hd
/-- the element of _law_feeds' list -/
theorem pc_elt {p1 p2 p3 p4 p5 p6 p7 p8 p9 p10 p11 p12 p13 p14 : Pos} {k1 k2 k3 k4 k5 : Nat} {c d : Nat} {t1 t2 : Tok} {Q : Value → Shared → Prop} (hk : env.scope.kind = .function) (h1 : env.kindOf (Str.ofString "sign") = some .local) (h2 : env.kindOf (Str.ofString "ahead") = some .local)
    (hn : s.heap.Ns env.locals m) (v1 : m (Str.ofString "sign") = some (.str ⟨#[c]⟩ t1)) (v2 : m (Str.ofString "ahead") = some (.str ⟨#[d]⟩ t2))
    (h : ∀ t tk, s.toks ≤ tk → Q (.str (S (pc c d)) t) { s with toks := tk }) :
    wpAny (model prog w) A (eval (.IfExp (.BoolOp .And [.Compare (.Name (Str.ofString "sign") p1) [.Eq] [.Constant (.str (Str.ofString "\n")) k1 p2] p3, .Compare (.Name (Str.ofString "ahead") p4) [.Eq] [.Constant (.str (Str.ofString "\x0d")) k2 p5] p6] p7)
      (.Constant (.str (Str.ofString "")) k3 p8) (.IfExp (.Compare (.Name (Str.ofString "sign") p9) [.Eq] [.Constant (.str (Str.ofString "\x0d")) k4 p10] p11) (.Constant (.str (Str.ofString "\n")) k5 p12) (.Name (Str.ofString "sign") p13) p14) p7) env) Q E s := by
  have e10 : ((⟨#[c]⟩ : Str).cps.toList == (Str.ofString "\n").cps.toList) = decide (c = 10) := beqS c _ 10 rfl
  have e13 : ((⟨#[c]⟩ : Str).cps.toList == (Str.ofString "\x0d").cps.toList) = decide (c = 13) := beqS c _ 13 rfl
  have d13 : ((⟨#[d]⟩ : Str).cps.toList == (Str.ofString "\x0d").cps.toList) = decide (d = 13) := beqS d _ 13 rfl
  have rest : c ≠ 10 ∨ d ≠ 13 → ∀ s' : Shared, (∃ tk, s.toks ≤ tk ∧ s' = { s with toks := tk }) →
      wpAny (model prog w) A (eval (.IfExp (.Compare (.Name (Str.ofString "sign") p9) [.Eq] [.Constant (.str (Str.ofString "\x0d")) k4 p10] p11) (.Constant (.str (Str.ofString "\n")) k5 p12) (.Name (Str.ofString "sign") p13) p14) env) Q E s' := by
    rintro hne s' ⟨tk, htk, rfl⟩
    refine IfExp_ (wpAny_isTrue_Compare1 (ld_loc hk h1 hn v1 (wpAny_Constant_str (P.eq_str ?_))))
    rw [e13]
    refine wpAny_truthy_bool ?_
    by_cases q : c = 13
    · rw [decide_eq_true q, if_pos rfl]
      refine wpAny_Constant_str ?_
      have := h (tk + 1) (tk + 1 + 1) (by omega)
      rw [show pc c d = [10] from by unfold pc; rw [if_neg (by rintro ⟨a, _⟩; omega), if_pos q]] at this
      exact this
    · rw [decide_eq_false q, if_neg (by decide)]
      refine ld_loc hk h1 hn v1 ?_
      have := h t1 (tk + 1) (by omega)
      rw [show pc c d = [c] from by unfold pc; rw [if_neg (by rintro ⟨a, b⟩; rcases hne with x | x <;> omega), if_neg q]] at this
      exact this
  refine IfExp_ (isTrue_and (wpAny_isTrue_Compare1 (ld_loc hk h1 hn v1 (wpAny_Constant_str (P.eq_str ?_)))))
  rw [e10]
  refine wpAny_truthy_bool ?_
  by_cases q : c = 10
  · rw [decide_eq_true q, if_pos rfl]
    refine isTrue_and (wpAny_isTrue_Compare1 (ld_loc hk h2 hn v2 (wpAny_Constant_str (P.eq_str ?_))))
    rw [d13]
    refine wpAny_truthy_bool ?_
    by_cases q2 : d = 13
    · rw [decide_eq_true q2, if_pos rfl]
      refine isTrue_and_nil ?_
      rw [if_pos rfl]
      refine wpAny_Constant_str ?_
      have := h (s.toks + 1 + 1) (s.toks + 1 + 1 + 1) (by omega)
      rw [show pc c d = [] from by unfold pc; rw [if_pos ⟨q, q2⟩]] at this
      exact this
    · rw [decide_eq_false q2, if_neg (by decide), if_neg (by decide)]
      exact rest (.inr q2) _ ⟨s.toks + 1 + 1, by omega, rfl⟩
  · rw [decide_eq_false q, if_neg (by decide), if_neg (by decide)]
    exact rest (.inl q) _ ⟨s.toks + 1, by omega, rfl⟩
theorem strsAre_push {ys : Array Value} {xs : List Str} {x : Str} {t : Tok} (h : StrsAre ys.toList xs) : StrsAre (ys.push (.str x t)).toList (xs ++ [x]) := by
  rw [Array.toList_push]
  have key : ∀ {vs : List Value} {zs : List Str}, StrsAre vs zs → StrsAre (vs ++ [.str x t]) (zs ++ [x]) := by
    intro vs zs q
    induction q with
    | nil => exact .cons _ _ .nil
    | cons z u _ ih => exact .cons z u ih
  exact key h
theorem fee_loop {elt iter : Expr} {p1 p2 tp pos : Pos} {kk : Nat} {scope : Scope} {R : Result → Shared → Prop} {n D : Nat} {l : List Nat} {t u : Tok} (hA : A.handled = none) (hl : l.length ≤ 1000)
    (h1 : env.kindOf (Str.ofString "sign") = some .local) (h2 : env.kindOf (Str.ofString "ahead") = some .local) (hk : (env.scope.kind == .class || (env.scope.kind == .module && env.locals != env.globals)) = false)
    (helt : ∀ (s' : Shared) (m' : Str → Option Value) (c d : Nat) (t1 t2 : Tok) (Q E : Value → Shared → Prop), s'.heap.Ns env.locals m' → m' (Str.ofString "sign") = some (.str ⟨#[c]⟩ t1) → m' (Str.ofString "ahead") = some (.str ⟨#[d]⟩ t2) →
      (∀ t tk, s'.toks ≤ tk → Q (.str (S (pc c d)) t) { s' with toks := tk }) → wpAny (model prog w) A (eval elt env) Q E s')
    (hz : ZipS s.heap n (S l) (S (32 :: l)) t u 0 .none) (hacc : s.heap.PlainList D #[]) (hn : s.heap.Ns env.locals m) (hnD : n + 4 < D) (hDC : env.locals = D + 1)
    (hR : ∀ h' tk m' ys, h'.Ns env.locals m' → h'.IsList D ys → StrsAre ys.toList ((List.zipWith pc l (32 :: l)).map S) → (∀ b o, ¬ zipWr n b → b ≠ D → b ≠ env.locals → s.heap.get? b = some o → h'.get? b = some o) → s.toks ≤ tk →
      R (.ok .next) { s with heap := h', toks := tk }) :
    codeAny (model prog w) A (.compLoop (.ListComp elt [⟨.Tuple [.Name (Str.ofString "sign") p1, .Name (Str.ofString "ahead") p2] kk tp, iter, [], 0⟩] scope pos) 0 (.ref (n + 4)) (.ref D) env) R s := by
  have nD : ¬ zipWr n D := fun q => by have := q.2; omega
  have nC : ¬ zipWr n env.locals := by rw [hDC]; exact fun q => by have := q.2; omega
  have DC : @Ne Addr D env.locals := by rw [hDC]; exact ne_ (by omega)
  refine kcp_loop (fun k s' => ∃ h' tk m' ys i, s' = { s with heap := h', toks := tk } ∧ ZipS h' n (S l) (S (32 :: l)) t u i .none ∧ h'.PlainList D ys ∧ h'.Ns env.locals m' ∧ StrsAre ys.toList (((List.zipWith pc l (32 :: l)).take i).map S) ∧
    i ≤ l.length ∧ k = l.length + 1 - i ∧ (∀ b o, ¬ zipWr n b → b ≠ D → b ≠ env.locals → s.heap.get? b = some o → h'.get? b = some o) ∧ s.toks ≤ tk) ?_ (l.length + 1)
    ⟨s.heap, s.toks, m, #[], 0, rfl, hz, hacc, hn, by simpa using StrsAre.nil, Nat.zero_le _, rfl, fun _ _ _ _ _ e => e, Nat.le_refl _⟩
  rintro k s' ⟨H, tk, m', ys, i, rfl, hz', hacc', hn', hys, hi, rfl, hkp, htk⟩
  by_cases hlt : i < l.length
  · refine zipS_next (c := l[i]) (d := (32 :: l)[i]'(by simp; omega)) hz' (by simp [S, hlt]) (by simp [S]) fun h₁ T t1 t2 tk1 z1 pr hT htk1 up1 => ?_
    dsimp only
    refine wpAny_letOwnedTupleGo_zip z1.z fun h₂ hz2 hs2 => ?_
    have n4 : zipWr n (n + 4) := ⟨by omega, by omega⟩
    have hTn : @Ne Addr T (n + 4) := by
      have q : n + 4 < H.objs.size := Heap.lt_size hz'.z
      exact ne_ (by dsimp only at hT; omega)
    have up2 : ∀ b o, ¬ zipWr n b → H.get? b = some o → h₂.get? b = some o := fun b o hb e => hs2.extBut b o (zne hb n4) (up1 b o hb e)
    have z2 : ZipS h₂ n (S l) (S (32 :: l)) t u (i + 1) .none := ⟨hz2, hs2.extBut _ _ (ne_ (by omega)) z1.ti, let ⟨a, b, q⟩ := z1.to; ⟨a, b, hs2.extBut _ _ (ne_ (by omega)) q⟩, strIter_at z1.a fun o => hs2.extBut _ o (ne_ (by omega)), strIter_at z1.b fun o => hs2.extBut _ o (ne_ (by omega))⟩
    have pr2 : h₂.IsTuple T #[.str ⟨#[l[i]]⟩ t1, .str ⟨#[(32 :: l)[i]'(by simp; omega)]⟩ t2] := ⟨_, hs2.extBut _ _ hTn pr, rfl, _, rfl⟩
    refine wpAny_with_toks (n := tk1) (Nat.le_refl _) (kcp_assign hA pr2 h1 h2 hk (hn'.at' fun o e => up2 _ o nC e) fun h₃ tk3 hn3 up3 htk3 => ?_)
    refine helt _ _ _ _ t1 t2 _ _ hn3 rfl rfl fun t5 tk5 htk5 => ?_
    have acc3 : h₃.PlainList D ys := hacc'.at fun o e => up3 _ o DC (up2 _ o nD e)
    have hsz : ys.size ≤ sizeLine := by
      have e1 := hys.length
      rw [sizeLine_eq]
      simp at e1
      omega
    refine wpAny_list_append_plain (hsz := hsz) acc3 fun h₆ hl6 hs6 => ?_
    refine ⟨l.length + 1 - (i + 1), by omega, h₆, tk5, _, ys.push _, i + 1, rfl, z2.at fun b o hb e => hs6.extBut b o ?_ (up3 b o ?_ e), hl6, hn3.sameBut hs6 DC.symm, ?_, hlt, rfl, fun b o hb hD hC e => hs6.extBut b o hD (up3 b o hC (up2 b o hb (hkp b o hb hD hC e))), ?_⟩
    · exact fun q => nD (q ▸ hb)
    · exact fun q => nC (q ▸ hb)
    · have := strsAre_push (x := S (pc l[i] ((32 :: l)[i]'(by simp; omega)))) (t := t5) hys
      rw [List.take_add_one, List.map_append]
      have e : (List.zipWith pc l (32 :: l))[i]? = some (pc l[i] ((32 :: l)[i]'(by simp; omega))) := by
        rw [List.getElem?_zipWith, List.getElem?_eq_getElem hlt, List.getElem?_eq_getElem (by simp; omega)]
      rw [e]
      exact this
    · dsimp only at htk1 htk3 htk5
      omega
  · have hin : i = l.length := by omega
    subst hin
    refine zipS_end hA hz' (by simp [S]) fun h₁ up1 => ?_
    have e : (List.zipWith pc l (32 :: l)).take l.length = List.zipWith pc l (32 :: l) := List.take_of_length_le (by simp)
    rw [e] at hys
    exact hR h₁ tk m' ys (hn'.at' fun o q => up1 _ o nC q) (hacc'.at fun o q => up1 _ o nD q).isList hys (fun b o hb hD hC q => up1 b o hb (hkp b o hb hD hC q)) htk
end
end
/-! ### Loop -/
section
/-- the end of a turn of a for: the frame, the ledger kept, the word at the next turn -/
def TurnEnd (h₀ : Heap) (L : Addr) (s : Shared) (own : List (Addr × Obj)) (J : (Str → Option Value) → Prop) (f : Flow) (s₂ : Shared) : Prop :=
  (f = .next ∨ f = .cont) ∧ ∃ h' tk m', s₂ = { s with heap := h', toks := tk } ∧ Fr h₀ L h' m' ∧ News h₀ L h' own ∧ J m'
section
variable {prog : Program} {w : World} {A : Around} {s : Shared} {h₀ : Heap} {L a : Addr} {name : Str} {scope : Scope} {cd : Value}
def ownOfs (h₀ h : Heap) (fp : List Addr) : List (Addr × Obj) := fp.filterMap fun b => if h₀.get? b = none then (h.get? b).map fun o => (b, o) else none
theorem ownOfs_news {h : Heap} {fp : List Addr} (hL : L ∉ fp) : News h₀ L h (ownOfs h₀ h fp) := fun p hp => by
  obtain ⟨b, hb, e⟩ := List.mem_filterMap.mp hp
  by_cases q : h₀.get? b = none
  · rw [if_pos q] at e
    cases h1 : h.get? b with
    | none => rw [h1] at e; cases e
    | some o =>
      rw [h1] at e
      cases e
      exact ⟨h1, fun z => hL (z ▸ hb), q⟩
  · rw [if_neg q] at e; cases e
theorem ownOfs_keep {h h' : Heap} {fp : List Addr} {m m' : Str → Option Value} (F : Fr h₀ L h m) (F' : Fr h₀ L h' m') (N' : News h₀ L h' (ownOfs h₀ h fp)) : ∀ b ∈ fp, ∀ o, h.get? b = some o → h'.get? b = some o := fun b hb o e => by
  cases q : h₀.get? b with
  | none => exact (N' (b, o) (List.mem_filterMap.mpr ⟨b, hb, by rw [if_pos q, e]; rfl⟩)).1
  | some o' =>
    have h1 := F.keep b o' q
    rw [e] at h1
    cases h1
    exact F'.keep b o q
/-- a for over any iterator that walks; the turn is told of the frame and a ledger of its own alone -/
theorem for_walk {I : Addr} {fp wr : List Addr} {n : Nat} {P : Nat → Value → Prop} {St : Nat → Heap → Prop} {x : Str} {px : Pos} {body : List Stmt} {m : Str → Option Value} {R : Result → Shared → Prop}
    (W : Walks prog w A I fp wr n P St) (J : Nat → (Str → Option Value) → Prop) (hst : St 0 s.heap) (F : Fr h₀ L s.heap m) (h0 : J 0 m) (hfpL : L ∉ fp) (hwr : ∀ b ∈ wr, h₀.get? b = none)
    (hk : scope.kind = .function) (hx : (envOf name scope L a cd).kindOf x = some .local)
    (step : ∀ i v m₁ h tk own (E' : Value → Shared → Prop), i < n → P i v → J i m₁ → s.toks ≤ tk → Fr h₀ L h (fun y => if y = x then some v else m₁ y) → News h₀ L h own →
      wpAny (model prog w) A (execs body (envOf name scope L a cd)) (TurnEnd h₀ L s own (J (i + 1))) E' { s with heap := h, toks := tk })
    (hR : ∀ h' tk m', J n m' → Fr h₀ L h' m' → s.toks ≤ tk → R (.ok .next) { s with heap := h', toks := tk }) :
    codeAny (model prog w) A (.forLoop (.Name x px) (.ref I) body [] (envOf name scope L a cd)) R s := by
  refine codeAny_forLoop_any (fun k s' => ∃ h' tk m' i, s' = { s with heap := h', toks := tk } ∧ St i h' ∧ Fr h₀ L h' m' ∧ J i m' ∧ i ≤ n ∧ k = n + 1 - i ∧ s.toks ≤ tk) ?_ (n + 1) ⟨s.heap, s.toks, m, 0, rfl, hst, F, h0, Nat.zero_le _, rfl, Nat.le_refl _⟩
  rintro k s' ⟨H, tk, m', i, rfl, hst', F', hJ, hi, rfl, htk⟩
  have grow : ∀ h₁ : Heap, (∀ b o, b ∉ wr → H.get? b = some o → h₁.get? b = some o) → Fr h₀ L h₁ m' := fun h₁ k1 => ⟨F'.ns.at' fun o e => k1 _ o (fun q => hfpL (W.sub _ q)) e, fun b o e => k1 b o (fun q => by rw [hwr b q] at e; cases e) (F'.keep b o e), F'.above⟩
  by_cases hlt : i < n
  · refine wpAny_with_toks (n := s.toks) htk (W.item i _ _ _ hlt hst' fun v h₁ tk₁ hP hst₁ k₁ htk₁ => ?_)
    refine wpAny_of_eq (show letOwnedTupleGo (.Name x px) (.ref I) v = pure () from rfl) ?_
    refine wpAny_assign_Name (stN (grow h₁ k₁) (ownOfs_news (fp := fp) hfpL) (fun h₂ F₂ N₂ => ?_) hk hx)
    have hst₂ : St (i + 1) h₂ := W.frame _ _ _ hst₁ (ownOfs_keep (grow h₁ k₁) F₂ N₂)
    have N3 : News h₀ L h₂ (ownOfs h₀ h₂ fp) := ownOfs_news hfpL
    have htk₂ : s.toks ≤ tk₁ + 1 := Nat.le_succ_of_le htk₁
    refine wpAny_mono (wpAny_toks_of (n := s.toks) htk₂ (step i v m' h₂ (tk₁ + 1) _ _ hlt hP hJ htk₂ F₂ N3)) (fun f s₃ h₃ => ?_) fun _ _ e => e.2
    obtain ⟨htk₃, hf, h', tk', m'', rfl, F₃, N₃, hJ'⟩ := h₃
    have fin : ∃ j, j < n + 1 - i ∧ ∃ h'' tk m' i, ({ s with heap := h', toks := tk' } : Shared) = { s with heap := h'', toks := tk } ∧ St i h'' ∧ Fr h₀ L h'' m' ∧ J i m' ∧ i ≤ n ∧ j = n + 1 - i ∧ s.toks ≤ tk :=
      ⟨n + 1 - (i + 1), by omega, h', tk', m'', i + 1, rfl, W.frame _ _ _ hst₂ (ownOfs_keep F₂ F₃ N₃), F₃, hJ', hlt, rfl, htk₃⟩
    rcases hf with rfl | rfl <;> exact fin
  · have hin : i = n := by omega
    subst hin
    refine wpAny_with_toks (n := s.toks) htk (W.done _ _ _ hst' fun h₁ tk₁ k₁ htk₁ => ?_)
    exact wpAny_execs_nil (hR h₁ tk₁ m' hJ (grow h₁ k₁) htk₁)
/-- the library's own rule for a for, told of the frame and a ledger of its own alone -/
theorem loopV {I : Addr} {fp wr : List Addr} {n : Nat} {P : Nat → Value → Prop} {St : Nat → Heap → Prop} {x : Str} {body : List Stmt} {m : Str → Option Value} {Q : Flow → Shared → Prop} {E : Value → Shared → Prop}
    (W : Walks prog w A I fp wr n P St) (J : Nat → (Str → Option Value) → Prop) (hst : St 0 s.heap) (F : Fr h₀ L s.heap m) (h0 : J 0 m) (hfpL : L ∉ fp) (hwr : ∀ b ∈ wr, h₀.get? b = none)
    (step : ∀ i v m₁ h tk own, i < n → P i v → J i m₁ → Fr h₀ L h (fun y => if y = x then some v else m₁ y) → News h₀ L h own →
      wpAny (model prog w) A (execs body (envOf name scope L a cd)) (TurnEnd h₀ L s own (J (i + 1))) E { s with heap := h, toks := tk })
    (hR : ∀ h' tk m', J n m' → Fr h₀ L h' m' → Q .next { s with heap := h', toks := tk }) :
    LoopAtV prog w A h₀ (envOf name scope L a cd) x body Q E (.ref I) s := by
  refine ⟨I, fp, wr, n, P, St, m, [], fun i m news => news = [] ∧ J i m, rfl, W, hfpL, hwr, fun _ q => (nomatch q), hst, F, News.nil, ⟨rfl, h0⟩, ?_, fun h' tk m' news' F' N' _ hJ => hR h' tk m' hJ.2 F'⟩
  rintro i v m₁ news₁ s₁ own ⟨h, tk, rfl⟩ hi hP ⟨rfl, hJ⟩ _ _ _ _ _ F₁ N₁
  rw [List.append_nil] at N₁
  refine wpAny_mono (step i v m₁ h tk own hi hP hJ F₁ N₁) (fun f s₂ h₂ => ?_) fun _ _ e => e
  obtain ⟨hf, h', tk', m', rfl, F', N', hJ'⟩ := h₂
  have fin : LoopStepU h₀ L wr own (fun m news => news = [] ∧ J (i + 1) m) { s with heap := h, toks := tk } .next { s with heap := h', toks := tk' } := by
    exact ⟨rfl, h', tk', m', [], rfl, F', by rwa [List.append_nil], fun _ q => (nomatch q), rfl, hJ'⟩
  rcases hf with rfl | rfl <;> exact fin
end
end
/-! ### Enter -/
section
/-- a call of a def of the text's within a frame; of the top only what is read is asked -/
theorem code_defR {prog : Program} {w : World} {A₀ A : Around} {s : Shared} {base h₀ : Heap} {L : Addr} {m : Str → Option Value} {news : List (Addr × Obj)} {K : Frag} {p : Program} {loose : List Str} {mg mb : Str → Option Value}
    {env : Env} {outer : List Env} {R : Result → Shared → Prop} {name qual : Str} {params : Arguments} {body : List Stmt} {scope : Scope} {dV kV doc pm cdv ct oc : Value} {an od : Option Addr} {osl : Array (Option Value)} {f : Addr} {args : Args} {binds : List (Str × Value)}
    (B : Below A₀ base outer h₀) (F : Fr h₀ L s.heap m) (X₀ : K.In h₀) (N : News h₀ L s.heap news) (T : TopRead p loose mg mb h₀) (hA : A.frames = some (env :: outer)) (hf : env.frame = some L) (hke : env.scope.kind = .function)
    (ho : K.lookup f = some ⟨oc, od, .func (fnOf name qual params body scope dV kV doc pm an cdv ct), osl⟩) (hcd : codeIn K cdv qual = true) (hroom : A.depth < recursionLimit)
    (hbind : BindsTo s (fnOf name qual params body scope dV kV doc pm an cdv ct) args binds) (hloc : ∀ y ∈ binds, scope.names.lookup y.1 = some .local)
    (h : ∀ g L' h₁, Fr h₀ L g m → Fr g L' h₁ (fun y => binds.reverse.lookup y) → News g L' h₁ news → Below A base (env :: outer) g → K.In g → TopRead p loose mg mb g →
      wpAny (model prog w) (A.deeper (envOf qual scope L' f cdv)) (execs body (envOf qual scope L' f cdv))
        (fun fl s' => LeaveK h₀ L m g R (match fl with | .ret v => v | _ => .none) s')
        (fun e s' => wpAny (model prog w) (A.deeper (envOf qual scope L' f cdv)) (leaving (envOf qual scope L' f cdv) e) (fun _ s'' => R (.error e) s'') (fun e' s'' => R (.error e') s'') s')
        { s with heap := h₁, toks := s.toks + binds.length })
    (hco : scope.isCoroutine = false) (hgen : scope.isGenerator = false) (hk : scope.kind = .function)
    (hcell : ∀ x ∈ scope.names, x.2 ≠ .cell) : codeAny (model prog w) A (.call (.ref f) args) R s :=
  callX_plain (cl := []) B F N T.nolimit hA hf hke ((X₀.keeps F.keep) _ _ ho) rfl (codeRec_of (X₀.keeps F.keep) hcd) hroom hbind hloc (fun g L' h₁ FG F' N' B' st _ => h g L' h₁ FG F' N' B' (X₀.keeps st) (T.keeps st)) hcell hco hgen hk
/-- the same; of the clock nothing is told -/
theorem code_defT {prog : Program} {w : World} {A₀ A : Around} {base h₀ : Heap} {L : Addr} {m : Str → Option Value} {news : List (Addr × Obj)} {K : Frag} {p : Program} {loose : List Str} {mg mb : Str → Option Value}
    {env : Env} {outer : List Env} {R : Result → Shared → Prop} {name qual : Str} {params : Arguments} {body : List Stmt} {scope : Scope} {dV kV doc pm cdv ct oc : Value} {an od : Option Addr} {osl : Array (Option Value)} {f : Addr} {args : Args} {binds : List (Str × Value)} {hp : Heap} {gs : Array GenState} {dr : Drawn} {tn : Nat} {os : OsState}
    (B : Below A₀ base outer h₀) (F : Fr h₀ L hp m) (X₀ : K.In h₀) (N : News h₀ L hp news) (T : TopRead p loose mg mb h₀) (hA : A.frames = some (env :: outer)) (hf : env.frame = some L) (hke : env.scope.kind = .function)
    (ho : K.lookup f = some ⟨oc, od, .func (fnOf name qual params body scope dV kV doc pm an cdv ct), osl⟩) (hcd : codeIn K cdv qual = true) (hroom : A.depth < recursionLimit)
    (hbind : BindsTo ⟨hp, gs, dr, tn, os⟩ (fnOf name qual params body scope dV kV doc pm an cdv ct) args binds) (hloc : ∀ y ∈ binds, scope.names.lookup y.1 = some .local)
    (h : ∀ g L' h₁ tk, Fr h₀ L g m → Fr g L' h₁ (fun y => binds.reverse.lookup y) → News g L' h₁ news → Below A base (env :: outer) g → K.In g → TopRead p loose mg mb g →
      wpAny (model prog w) (A.deeper (envOf qual scope L' f cdv)) (execs body (envOf qual scope L' f cdv))
        (fun fl s' => LeaveK h₀ L m g R (match fl with | .ret v => v | _ => .none) s')
        (fun e s' => wpAny (model prog w) (A.deeper (envOf qual scope L' f cdv)) (leaving (envOf qual scope L' f cdv) e) (fun _ s'' => R (.error e) s'') (fun e' s'' => R (.error e') s'') s')
        ⟨h₁, gs, dr, tk, os⟩)
    (hco : scope.isCoroutine = false) (hgen : scope.isGenerator = false) (hk : scope.kind = .function)
    (hcell : ∀ x ∈ scope.names, x.2 ≠ .cell) : codeAny (model prog w) A (.call (.ref f) args) R ⟨hp, gs, dr, tn, os⟩ :=
  code_defR B F X₀ N T hA hf hke ho hcd hroom hbind hloc (fun g L' h₁ a b c d e f => h g L' h₁ _ a b c d e f) hco hgen hk hcell
/-- a method of self alone -/
theorem code_def1 {prog : Program} {w : World} {A₀ A : Around} {base h₀ : Heap} {L : Addr} {m : Str → Option Value} {news : List (Addr × Obj)} {K : Frag} {p : Program} {loose : List Str} {mg mb : Str → Option Value}
    {env : Env} {outer : List Env} {R : Result → Shared → Prop} {name qual : Str} {params : Arguments} {body : List Stmt} {scope : Scope} {dV kV doc pm cdv ct oc : Value} {an od : Option Addr} {osl : Array (Option Value)} {f : Addr} {a : Value} {hp : Heap} {gs : Array GenState} {dr : Drawn} {tn : Nat} {os : OsState}
    (B : Below A₀ base outer h₀) (F : Fr h₀ L hp m) (X₀ : K.In h₀) (N : News h₀ L hp news) (T : TopRead p loose mg mb h₀) (hA : A.frames = some (env :: outer)) (hf : env.frame = some L) (hke : env.scope.kind = .function)
    (ho : K.lookup f = some ⟨oc, od, .func (fnOf name qual params body scope dV kV doc pm an cdv ct), osl⟩) (hcd : codeIn K cdv qual = true) (hroom : A.depth < recursionLimit)
    (hbind : BindsTo ⟨hp, gs, dr, tn, os⟩ (fnOf name qual params body scope dV kV doc pm an cdv ct) ⟨[a], []⟩ [(Str.ofString "self", a)]) (hloc : ∀ y ∈ [(Str.ofString "self", a)], scope.names.lookup y.1 = some .local)
    (h : ∀ g L' h₁ tk, Fr h₀ L g m → Fr g L' h₁ (fun y => [(Str.ofString "self", a)].reverse.lookup y) → News g L' h₁ news → Below A base (env :: outer) g → K.In g → TopRead p loose mg mb g →
      wpAny (model prog w) (A.deeper (envOf qual scope L' f cdv)) (execs body (envOf qual scope L' f cdv))
        (fun fl s' => LeaveK h₀ L m g R (match fl with | .ret v => v | _ => .none) s')
        (fun e s' => wpAny (model prog w) (A.deeper (envOf qual scope L' f cdv)) (leaving (envOf qual scope L' f cdv) e) (fun _ s'' => R (.error e) s'') (fun e' s'' => R (.error e') s'') s')
        ⟨h₁, gs, dr, tk, os⟩)
    (hco : scope.isCoroutine = false) (hgen : scope.isGenerator = false) (hk : scope.kind = .function)
    (hcell : ∀ x ∈ scope.names, x.2 ≠ .cell) : codeAny (model prog w) A (.call (.ref f) ⟨[a], []⟩) R ⟨hp, gs, dr, tn, os⟩ :=
  code_defR B F X₀ N T hA hf hke ho hcd hroom hbind hloc (fun g L' h₁ z b c d e f => h g L' h₁ _ z b c d e f) hco hgen hk hcell
theorem leaveT {h₀ g h : Heap} {L L' : Addr} {m m' : Str → Option Value} {news' : List (Addr × Obj)} {R : Result → Shared → Prop} {v : Value} {gs : Array GenState} {dr : Drawn} {tn : Nat} {os : OsState} (F' : Fr g L' h m') (N' : News g L' h news')
    (k : ∀ tk, Fr h₀ L h m → News h₀ L h news' → R (.ok (.ret v)) ⟨h, gs, dr, tk, os⟩) : LeaveK h₀ L m g R v ⟨h, gs, dr, tn, os⟩ := ⟨L', m', news', F', N', k tn⟩
end
/-! ### Io -/
section
theorem fill_io (P : Params) : (PySem.Challenge.rw_mj0268_01 = PySem.Challenge.rw_mj0268_01 ∧ K0 P = K0 P) := by
  k_fill
  exact ⟨rfl, rfl⟩
theorem cls609 (P : Params) : ∃ oc od cd sl, (K0 P).lookup 609 = some ⟨oc, od, .cls cd, sl⟩ ∧ cd.abstract = false ∧ cd.hasDel = false ∧ cd.mro = [.ref 609, .ref 132, .ref 105, .type "object"] := ⟨_, _, _, _, rfl, rfl, rfl, rfl⟩
section
variable {prog : Program} {w : World} {A : Around} {R : Result → Shared → Prop} {h : Heap} {g : Array GenState} {d : Drawn} {t : Nat} {os : OsState}
theorem made609 {M : Model} (X : (K0 M.w.params).In h) : Looks M h (Bind.madeBy (.ref 609)) none := Looks.of_peek X (by kernel_rfl)
theorem here609 {M : Model} (X : (K0 M.w.params).In h) : Looks M h (Bind.madeHere "object.__new__" (.ref 609)) () := Looks.of_peek X (by kernel_rfl)
theorem typ609 {M : Model} (X : (K0 M.w.params).In h) : Looks M h (isInstance (.ref 609) (.type "type")) true := Looks.of_peek X (by kernel_rfl)
theorem getNew609 {M : World} {s : Shared} {E : Value → Shared → Prop} {Q : Value → Shared → Prop} {expr : Bool} (X : (K0 M.params).In s.heap) (h : Q (.ref 102) { s with toks := s.toks + 1 }) : wpAny (model prog M) A (getAttr (.ref 609) "__new__" expr) Q E s :=
  cls_bind (mc := .type "type") (obj := .none) (tp := .ref 609) X (by kernel_rfl) (by kernel_rfl) (wpAny_call (sm_get (s := { s with toks := s.toks + 1 }) (p := 106) (rest := []) X (by kernel_rfl) (handed_on rfl h)))
theorem new609 (X : (K0 w.params).In h) (hq : R (.ok (.ret (.ref (h.objs.size + 1)))) ⟨(h.push emptyDict).push (instObj 609 h.objs.size), g, d, t, os⟩) :
    codeAny (model prog w) A (.call (.builtin "object.__new__") ⟨[.ref 609], []⟩) R ⟨h, g, d, t, os⟩ := by
  obtain ⟨oc, od, cd, sl, ho, e1, e2, e3⟩ := cls609 w.params
  have hC := X _ _ ho
  have F := PySem.F.objNew
  have here := here609 (M := model prog w) X
  have typ := typ609 (M := model prog w) X
  have chk : Looks (model prog w) h (checkBuiltinCall "object.__new__" ⟨[.ref 609], []⟩) () := Looks.of_peek X (by kernel_rfl)
  have ity : Looks (model prog w) h (isType (.ref 609)) true := Looks.of_peek X (by kernel_rfl)
  refine codeAny_call_builtin_code (Code.quiet_builtin _ F.quiet) ?_
  refine chk.at ?_
  refine codeAny_builtin F.entry ?_
  unfold Builtin.«object.__new__»
  dsimp only
  refine wpAny_bind (ity.at ?_)
  simp only [Bool.not_true, Bool.false_eq_true, if_false]
  refine wpAny_bind (here.at ?_)
  rw [if_neg (by decide)]
  have cdL : Looks (model prog w) h (classData 609) cd := (Looks.ld (part := none) hC).andThen .now
  refine wpAny_bind (cdL.at ?_)
  rw [e1]
  simp only [Bool.false_eq_true, if_false]
  refine wpAny_bind (wpAny_bind (wpAny_alloc (wpAny_pure (wpAny_bind ?_))))
  show wpAny _ _ (newObjAsIs _ _ _) _ _ _
  unfold newObjAsIs classHasDel
  refine wpAny_bind (wpAny_alloc (wpAny_bind (wpAny_bind (wpAny_load (Heap.get?_push_of_some _ (Heap.get?_push_of_some _ hC)) (wpAny_pure ?_)))))
  rw [e2]
  refine wpAny_pure (wpAny_pure ?_)
  show R _ _
  rw [Heap.size_push]
  exact hq
theorem init609 {M : Model} (X : (K0 M.w.params).In h) : Looks M h (typeLookup (.ref 609) "__init__") (some (.ref 379)) := Looks.of_peek X (by kernel_rfl)
theorem sub609 {M : Model} (X : (K0 M.w.params).In h) : Looks M h (isSubtype (.ref 609) (.ref 609)) true := Looks.of_peek X (by kernel_rfl)
theorem mro609 {M : Model} (X : (K0 M.w.params).In h) : Looks M h (mroOf (.ref 609)) [.ref 609, .ref 132, .ref 105, .type "object"] := Looks.of_peek X (by kernel_rfl)
theorem call609 {M : Model} (X : (K0 M.w.params).In h) : Looks M h (specialOf (.ref 609) "__call__") (some (.builtin "type.__call__")) := Looks.of_peek X (by kernel_rfl)
/-- what __new__ has made, and __init__ still to come -/
def IoBack (prog : Program) (w : World) (U : Around) (v : Value) (R : Result → Shared → Prop) (g : Array GenState) (d : Drawn) (os : OsState) (o : Value) (s' : Shared) : Prop :=
  ∃ (x dx : Addr) (h' : Heap) (tk : Nat), o = .ref x ∧ s' = ⟨h', g, d, tk, os⟩ ∧ h'.get? x = some (instObj 609 dx) ∧ (K0 w.params).In h' ∧ codeAny (model prog w) U (.call (.ref 379) ⟨[.ref x, v], []⟩) (InitBack x R) s'
/-- StringIO(v): __new__, then __init__ -/
theorem make609 {v : Value} (X : (K0 w.params).In h)
    (hnew : wpAny (model prog w) (A.under (.builtin "type.__call__" ⟨[.ref 609, v], []⟩)) (call (.ref 102) [.ref 609, v]) (IoBack prog w (A.under (.builtin "type.__call__" ⟨[.ref 609, v], []⟩)) v R g d os) (fun e s' => R (.error e) s') ⟨h, g, d, t + 1, os⟩) :
    codeAny (model prog w) A (.call (.ref 609) ⟨[v], []⟩) R ⟨h, g, d, t, os⟩ := by
  obtain ⟨oc, od, cd, sl, ho, e1, e2, e3⟩ := cls609 w.params
  have hC := X _ _ ho
  refine codeAny_of_tree ?_
  show wpAny _ _ (callAny (.ref 609) _) _ _ _
  refine nd_load hC ?_
  show wpAny _ _ (callAny.viaDunder (.ref 609) _) _ _ _
  unfold callAny.viaDunder
  refine wpAny_bind ((call609 (M := model prog w) X).at ?_)
  dsimp only
  rw [tc_bind]
  refine wpAny_bind (wpAny_pure (wpAny_bind (wpAny_pure ?_)))
  refine wpAny_pure (a := Fin.again (.call (.builtin "type.__call__") ⟨[.ref 609, v], []⟩)) (And.intro rfl ?_)
  refine codeAny_call_builtin_at (Code.quiet_builtin _ (by decide +kernel)) entry_typeCall (check_slot tc_kind tc_split (typ609 (M := model prog w) X) (tc_args _ _ _) ?_)
  unfold Builtin.«type.__call__»
  dsimp only
  rw [if_neg (by decide)]
  refine wpAny_bind ((mro609 (M := model prog w) X).at ?_)
  rw [if_neg (by decide)]
  refine wpAny_bind ((made609 (M := model prog w) X).at ?_)
  dsimp only
  refine wpAny_bind (getNew609 X ?_)
  refine wpAny_bind (wpAny_holding (wpAny_mono hnew (fun o s' q => ?_) fun _ _ e => e))
  obtain ⟨x, dx, h', tk, rfl, rfl, hx, X', q⟩ := q
  have t1 : Looks (model prog w) h' (typeOf (.ref x)) (.ref 609) := (Looks.ld hx).andThen .now
  have ii : Looks (model prog w) h' (isInstance (.ref x) (.ref 609)) true := t1.andThen (sub609 X')
  refine wpAny_bind (ii.at ?_)
  simp only [Bool.not_true, Bool.false_eq_true, if_false]
  have i1 := init609 (M := model prog w) X'
  have b1 : Looks (model prog w) h' (bindSpecial (.ref 379) (.ref x)) (.ref 379, [.ref x]) := bind_fn X' (.ref x) (by kernel_rfl)
  unfold callSpecial? specialOf
  repeat (first | with_reducible refine wpAny_call ?_ | lk)
  refine codeAny_mono q fun r s' z => ?_
  rcases r with e | (v | _ | _ | _) <;> first | exact z | exact z.elim | skip
  obtain ⟨rfl, z⟩ := z
  exact wpAny_pure (wpAny_pure z)
end
end
/-! ### Deq -/
section
open PySem.F
theorem mro_deque : mroOf (.type "collections.deque") = pure [.type "collections.deque", .type "object"] := by rw [mroOf_type]; kernel_rfl
theorem lookup_deque_new : typeLookup (.type "collections.deque") "__new__" = pure (some (.builtin "collections.deque.__new__")) := by rw [typeLookup_type, builtinLookup_eq_fast]; kernel_rfl
theorem slot_deque_init : Slot "collections.deque" "__init__" "collections.deque.__init__" :=
  .of (owner := "collections.deque") (n := "__init__") (by rw [typeLookup_type, builtinLookup_eq_fast]; kernel_rfl) (by decide +kernel) (by decide +kernel) (by decide +kernel)
    (by first | exact .inl (by decide +kernel) | exact .inr (by decide +kernel)) (by rw [isSubtype_type]; kernel_rfl)
theorem slot_deque_len : Slot "collections.deque" "__len__" "collections.deque.__len__" :=
  .of (owner := "collections.deque") (n := "__len__") (by rw [typeLookup_type, builtinLookup_eq_fast]; kernel_rfl) (by decide +kernel) (by decide +kernel) (by decide +kernel)
    (by first | exact .inl (by decide +kernel) | exact .inr (by decide +kernel)) (by rw [isSubtype_type]; kernel_rfl)
theorem called_deque : TypeCalled "collections.deque" "collections.deque.__new__" "collections.deque.__init__" :=
  ⟨by decide +kernel, by decide +kernel, ⟨_, _, mro_deque⟩, madeBy_type mro_deque lookup_deque_new (by decide +kernel), by decide +kernel, by rw [isSubtype_type]; kernel_rfl, slot_deque_init⟩
theorem typeCall_deque : checkTypeCall "collections.deque" ⟨[], []⟩ = pure () := by kernel_rfl
theorem newCall_deque : checkBuiltinCall "collections.deque.__new__" ⟨[.type "collections.deque"], []⟩ = pure () := by kernel_rfl
theorem entry_deque_new : entryFor table "collections.deque.__new__" = some Builtin.«collections.deque.__new__» := entryFor_of_tree (by kernel_rfl)
theorem entry_deque_init : entryFor table "collections.deque.__init__" = some Builtin.«collections.deque.__init__» := entryFor_of_tree (by kernel_rfl)
theorem entry_deque_len : entryFor table "collections.deque.__len__" = some Builtin.«collections.deque.__len__» := entryFor_of_tree (by kernel_rfl)
theorem args_deque_init (a : Value) : argsOk "collections.deque.__init__" ⟨[a], []⟩ := by unfold argsOk; kernel_rfl
theorem args_deque_len (a : Value) : argsOk "collections.deque.__len__" ⟨[a], []⟩ := by unfold argsOk; kernel_rfl
theorem noBool_deque : typeLookup (.type "collections.deque") "__bool__" = pure none := by rw [typeLookup_type, builtinLookup_eq_fast]; kernel_rfl
abbrev deqObj : Obj := { cls := .type "collections.deque", data := .fields #[.none, .int 0 0] }
section
variable {prog : Program} {w : World} {A : Around} {E : Value → Shared → Prop} {s : Shared}
theorem deque_call {Q : Value → Shared → Prop} (h : ∀ h', (∀ b o, s.heap.get? b = some o → h'.get? b = some o) → h'.get? s.heap.objs.size = some deqObj → Q (.ref s.heap.objs.size) { s with heap := h' }) : wpAny (model prog w) A (call (.type "collections.deque") []) Q E s := by
  have hsub : isSubtype (.type "collections.deque") (.type "collections.deque") = pure true := called_deque.sub
  refine callType_meets (S := fun _ R s => R (.ok (.ret (.ref s.heap.objs.size))) { s with heap := s.heap.push deqObj }) (Q₁ := fun o s₁ => o = .ref s.heap.objs.size ∧ s₁ = { s with heap := s.heap.push deqObj }) called_deque typeCall_deque newCall_deque entry_deque_new entry_deque_init ?_ ⟨rfl, rfl⟩ ?_
  · refine Meets.of_wp fun prog w A R s hs => ?_
    unfold Builtin.«collections.deque.__new__»
    have e : Looks (model prog w) s.heap (Builtin.Deque.newArgs Builtin.Deque.ty ⟨[.type "collections.deque"], []⟩) (.type "collections.deque", []) := Looks.of_peek (K := []) (fun a o q => nomatch q) (by kernel_rfl)
    refine wpAny_bind (e.here ?_)
    dsimp only
    unfold Builtin.Deque.new
    rw [if_neg (by decide), show typeHasDict (.type "collections.deque") = false from by kernel_rfl, if_neg (by decide)]
    refine wpAny_bind (wpAny_bind (wpAny_pure (wpAny_newObj_type ?_)))
    exact wpAny_pure ⟨_, rfl, hs⟩
  · rintro o s₁ ⟨rfl, rfl⟩
    have ho : (s.heap.push deqObj).get? s.heap.objs.size = some deqObj := Heap.get?_push_size _ rfl
    refine ⟨⟨_, ho, rfl⟩, args_deque_init _, fun _ R s' => (∀ h', (∀ b o, s.heap.get? b = some o → h'.get? b = some o) → h'.get? s.heap.objs.size = some deqObj → R (.ok (.ret .none)) { s with heap := h' }) ∧ s' = { s with heap := s.heap.push deqObj }, Meets.of_wp fun prog w A R s' hs => ?_, ?_⟩
    · obtain ⟨hs, rfl⟩ := hs
      unfold Builtin.«collections.deque.__init__»
      show wpAny _ _ (setField (.ref s.heap.objs.size) 0 .none >>= fun _ => Builtin.Deque.clear (.ref s.heap.objs.size) >>= fun _ => ret .none) _ _ _
      refine wpAny_bind (wpAny_setField_rec ho (by simp) fun h1 g1 s1 => ?_)
      replace g1 : h1.get? s.heap.objs.size = some deqObj := g1
      unfold Builtin.Deque.clear Builtin.Deque.items
      refine wpAny_bind (wpAny_bind (wpAny_bind (wpAny_fieldsOf g1 rfl (wpAny_pure ?_))))
      rw [if_neg (by decide)]
      exact wpAny_pure (wpAny_pure ⟨_, rfl, hs h1 (fun b o e => s1.extBut b o (Nat.ne_of_lt (Heap.lt_size e)) (Heap.get?_push_of_some _ e)) g1⟩)
    · exact ⟨fun h1 k1 g1 => ⟨rfl, h h1 k1 g1⟩, rfl⟩
theorem truthy_deque {a : Addr} {Q : Bool → Shared → Prop} (ho : s.heap.get? a = some deqObj) (h : Q false { s with toks := s.toks + 1 + 1 }) : wpAny (model prog w) A (truthy (.ref a)) Q E s := by
  have hT : s.TypeIs (.ref a) "collections.deque" := ⟨_, ho, rfl⟩
  have key : wpAny (model prog w) A (runValue (.builtin "len" ⟨[.ref a], []⟩)) (fun r s' => r = .int 0 (s.toks + 1) ∧ Q false s') E s := by
    refine wpAny_runValue (codeAny_builtin entry_len ?_)
    rw [Around.under_plainId plain_len _]
    unfold Builtin.«len»
    refine wpAny_bind (m := oneArg "len" _) (wpAny_pure ?_)
    refine wpAny_bind (m := callSpecial? (.ref a) (Str.ofString "__len__")) (wpAny_callSpecial?_slot (name := Str.ofString "__len__") hT slot_deque_len
      (wpAny_call_entry slot_deque_len hT entry_deque_len ?_ (args_deque_len _)))
    unfold Builtin.«collections.deque.__len__»
    refine wpAny_bind (m := slotArgs "__len__" 0 ⟨[.ref a], []⟩) (wpAny_pure (a := (Value.ref a, ([] : List Value))) ?_)
    unfold Builtin.Deque.size
    refine wpAny_bind (wpAny_bind (wpAny_fieldsOf ho rfl (wpAny_pure ?_)))
    refine wpAny_bind (wpAny_mkInt (wpAny_pure ⟨_, rfl, ?_⟩))
    refine wpAny_bind (wpAny_holding (wpAny_pure ?_))
    refine wpAny_bind (wpAny_letGo ?_)
    show wpAny _ _ (if ((0 : Nat) : Int) < 0 then _ else _) _ _ _
    rw [if_neg (by omega)]
    show wpAny _ _ (if ((0 : Nat) : Int) ≥ 2 ^ 63 then _ else _) _ _ _
    rw [if_neg (by omega)]
    exact wpAny_bind (wpAny_mkInt (wpAny_pure ⟨rfl, h⟩))
  unfold truthy
  refine wpAny_bind (wpAny_callSpecial?_none (name := Str.ofString "__bool__") hT noBool_deque ?_)
  refine wpAny_bind (wpAny_specialOf (name := Str.ofString "__len__") hT slot_deque_len.lookup ?_)
  exact wpAny_bind (wpAny_mono key (fun r s' h' => by obtain ⟨rfl, hq⟩ := h'; exact wpAny_pure hq) fun _ _ e => e)
end
end
section
local macro_rules | `(tactic| k_room) => `(tactic| ((try simp only [depth_mark, depth_under_make, depth_under_kw, depth_in1, depth_deeper, depth_caller, recursionLimit]); omega))
local macro_rules | `(tactic| walk_at "execs cons") => `(tactic| (k_here; (with_reducible show wpAny _ _ _ _ _ (Shared.mk _ _ _ (_ + _) _)); refine gentoks ?_; intro tk hTk; (try dsimp only at hTk)))
/-! ### Quo -/
section
theorem obj764 (P : Params) : (K0 P).lookup 764 = some ⟨.type "builtin_function_or_method", none, .fields #[.builtin "re.Pattern.search", .ref 61], #[]⟩ := by rfl
theorem bound_check (a b : Value) : Bind.checkArgs "re.Pattern.search" { machinery := .keywords, full := "Pattern.search", short := "search", receiver := .self, params := [{ name := "string", kind := .posOrKw, required := true }, { name := "pos", kind := .posOrKw, required := false }, { name := "endpos", kind := .posOrKw, required := false }] } ⟨[a, b], []⟩ = pure () := by kernel_rfl
theorem sig_search : Manifest.signature? "re.Pattern.search" = some { machinery := .keywords, full := "Pattern.search", short := "search", receiver := .self, params := [{ name := "string", kind := .posOrKw, required := true }, { name := "pos", kind := .posOrKw, required := false }, { name := "endpos", kind := .posOrKw, required := false }] } := by kernel_rfl
theorem kind_search : builtinKind "re.Pattern.search" = some .method := by decide +kernel
theorem no_module : isSubtype (.type "re.Pattern") (.type "module") = pure false := by rw [isSubtype_type]; kernel_rfl
theorem no_type : isSubtype (.type "re.Pattern") (.type "type") = pure false := by rw [isSubtype_type]; kernel_rfl
theorem bound_call {prog : Program} {w : World} {A : Around} {E : Value → Shared → Prop} {s : Shared} {code : Array Nat} {v : Value} {Q : Value → Shared → Prop}
    (X : (K0 w.params).In s.heap) (P : PatAt s.heap 61 code)
    (h : wpAny (model prog w) A.in1 (Builtin.«re.Pattern.search» ⟨[.ref 61, v], []⟩) (fun fin s' => ∃ v, fin = .done (.ret v) ∧ Q v s') E s) :
    wpAny (model prog w) A (call (.ref 764) [v]) Q E s := by
  obtain ⟨v0, v1, v3, v4, t2, t6, tup, items, n, sl, sl', hp, _, _⟩ := P.ex
  refine wpAny_call (codeAny_of_tree ?_)
  show wpAny _ _ (callAny (.ref 764) _) _ _ _
  unfold callAny
  refine wpAny_bind (wpAny_load (X _ _ (obj764 _)) ?_)
  show wpAny _ _ (do checkBoundCall "re.Pattern.search" ⟨[.ref 61, v], []⟩; let r ← again (.builtin "re.Pattern.search" ⟨[.ref 61, v], []⟩); pure r) _ _ _
  have hT : s.TypeIs (.ref 61) "re.Pattern" := ⟨_, hp, rfl⟩
  refine wpAny_bind ?_
  unfold checkBoundCall
  rw [sig_search, kind_search]
  dsimp only
  rw [if_neg (by decide)]
  unfold isInstance isType
  refine wpAny_bind (wpAny_bind (wpAny_typeOf hT ?_))
  rw [no_module]
  refine wpAny_pure ?_
  rw [if_neg (by decide +kernel)]
  refine wpAny_bind (wpAny_bind (wpAny_loadPart hp (wpAny_pure ?_)))
  dsimp only
  rw [if_neg (by decide)]
  refine wpAny_bind (wpAny_typeOf hT ?_)
  dsimp only
  refine wpAny_of_eq (show _ = pure () from by kernel_rfl) (wpAny_bind (wpAny_pure (wpAny_pure ⟨plainId_quiet slot_search.plain _, ?_⟩)))
  refine codeAny_builtin entry_search ?_
  rw [Around.under_plainId slot_search.plain]
  refine wpAny_mono h (fun fin s' h' => ?_) fun _ _ e => e
  obtain ⟨v, rfl, q⟩ := h'
  exact q
theorem unsafe_none {prog : Program} {w : World} {A : Around} {E : Value → Shared → Prop} {s : Shared} {x : Str} {tk : Tok} {Q : Value → Shared → Prop} (X : (K0 w.params).In s.heap) (hx : x.cps.size < 2 ^ 62)
    (he : Ended (Sre.forSearch code2 x.cps 0 0 x.cps.size false) false) (hq : Q .none s) : wpAny (model prog w) A (call (.ref 764) [.str x tk]) Q E s := by
  have P := pat2 X
  obtain ⟨v0, v1, v3, v4, t2, t6, tup, items, n, sl, sl', hp, ht, hc⟩ := P.ex
  refine bound_call X P ?_
  unfold Builtin.«re.Pattern.search»
  refine wpAny_bind (search_target P hx ?_)
  unfold Builtin.Re.reAnswer
  refine wpAny_bind (run_none he ?_)
  exact wpAny_pure ⟨_, rfl, hq⟩
theorem unsafe_some {prog : Program} {w : World} {A : Around} {E : Value → Shared → Prop} {s : Shared} {x : Str} {tk : Tok} {Q : Value → Shared → Prop} (X : (K0 w.params).In s.heap) (hx : x.cps.size < 2 ^ 62)
    (he : Ended (Sre.forSearch code2 x.cps 0 0 x.cps.size false) true)
    (hq : ∀ a h', (∀ b o, s.heap.get? b = some o → h'.get? b = some o) → Q (.ref a) { s with heap := h' }) : wpAny (model prog w) A (call (.ref 764) [.str x tk]) Q E s := by
  have P := pat2 X
  obtain ⟨v0, v1, v3, v4, t2, t6, tup, items, n, sl, sl', hp, ht, hc⟩ := P.ex
  refine bound_call X P ?_
  unfold Builtin.«re.Pattern.search»
  refine wpAny_bind (search_target P hx ?_)
  unfold Builtin.Re.reAnswer
  refine wpAny_bind (run_some he fun m' => ?_)
  refine wpAny_bind ?_
  unfold Builtin.Re.reNewMatch
  show wpAny (model prog w) _ (do newFields "re.Match" [_, _, _, _, _, ← newTuple _]) _ _ s
  refine wpAny_bind (wpAny_newObj_type (hd := (by show (2 : Nat) ≤ sizeLine; decide)) ?_)
  refine wpAny_newObj_type (hd := (by show (6 : Nat) ≤ sizeLine + 2; decide)) ?_
  exact wpAny_pure ⟨_, rfl, hq _ _ fun b o e => Heap.get?_push_of_some _ (Heap.get?_push_of_some _ e)⟩
theorem fill_quo (P : Params) : (PySem.Challenge.rw_mj0268_01 = PySem.Challenge.rw_mj0268_01 ∧ K0 P = K0 P) := by
  k_fill
  exact ⟨rfl, rfl⟩
theorem truthyS0 {prog : Program} {w : World} {A : Around} {E : Value → Shared → Prop} {s : Shared} {t : Tok} {Q : Bool → Shared → Prop} (h : Q false { s with toks := s.toks + 1 + 1 }) : wpAny (model prog w) A (truthy (.str (S []) t)) Q E s :=
  P.truthy_str (by rw [S_len]; decide) h
theorem truthyS1 {prog : Program} {w : World} {A : Around} {E : Value → Shared → Prop} {s : Shared} {a : Nat} {l : List Nat} {t : Tok} {Q : Bool → Shared → Prop} (hl : (a :: l).length ≤ 1000) (h : Q true { s with toks := s.toks + 1 + 1 }) : wpAny (model prog w) A (truthy (.str (S (a :: l)) t)) Q E s := by
  refine P.truthy_str (by rw [S_len]; omega) ?_
  rw [S_len, show (((a :: l).length : Int) != 0) = true from by simp; omega]; exact h
theorem callWith_764 {M : Model} {w : World} {A : Around} {E : Value → Shared → Prop} {s : Shared} {env : Env} {pos : Pos} {h₀ : Heap} {e : Expr} {Q : Value → Shared → Prop} (_X : (K0 w.params).In h₀) (h : wpAny M A (spliced (backTo pos (starEach [e] env))) (fun vs s₁ => (K0 w.params).In s₁.heap ∧ wpAny M A (call (.ref 764) ([] ++ vs)) Q E s₁) E s)
    (he : starEach [e] env = [(false, eval e env)] := by rfl) : wpAny M A (callWith pos (.ref 764) [] (backTo pos (starEach [e] env)) []) Q E s := by
  rw [he] at h ⊢
  refine callWith_of (P := fun h => (K0 w.params).In h) rfl (fun h X => ⟨.machine, .inr (.inl rfl), (Looks.ld (part := none) (X _ _ (obj764 _))).andThen .now⟩) (Calls.evalArgs_plain h)
def quoL (l : List Nat) : List Nat := if l = [] then [39, 39] else if l.any hit2 then [39] ++ rep [39] [39, 34, 39, 34, 39] 0 l ++ [39] else l
theorem quo_call {prog : Program} {w : World} {lo : Program × List Str} {mg mb : Str → Option Value} {A : Around} {s : Shared} {l : List Nat} {tk : Tok} {Q E : Value → Shared → Prop}
    (Z : Site w lo mg mb 2 8 A s) (hl : l.length ≤ 1000)
    (hq : ∀ h' t tk', (∀ b o, s.heap.get? b = some o → h'.get? b = some o) → s.toks ≤ tk' → Q (.str (S (quoL l)) t) { s with heap := h', toks := tk' }) :
    wpAny (model prog w) A (call (.ref 771) [.str (S l) tk]) Q E s := by
  have hs : (S l).cps.size < 2 ^ 62 := by simp [S]; omega
  obtain ⟨hh, hdp, hun, X', T', C', M'⟩ := Z
  refine wpAny_with_toks (n := s.toks) (Nat.le_refl _) (wpAny_call ?_)
  refine enterP ⟨hh, by omega, by omega, X', T', C', M'⟩ (by k_is) (by k_is) (binds := [(Str.ofString "s", .str (S l) tk)]) (BindsTo.of_eq rfl) (locs rfl) rfl rfl rfl (by decide) ?_
  intro L' h₁ F' N'
  try dsimp only
  try k_fold
  cases l with
  | nil =>
    repeat' (first | (k_unfold; (try dsimp only)) | (k_end; wrow_close) | (first | (with_reducible (k_here; (with_reducible show wpAny _ _ (call (Value.ref 764) [Value.str _ _]) _ _ _); first | refine unsafe_none (Frag.In.keeps (by k_asm) (Fr.keep (by k_asm))) (by assumption) (by assumption) ?_ | (refine unsafe_some (Frag.In.keeps (by k_asm) (Fr.keep (by k_asm))) (by assumption) (by assumption) ?_; intro ma mh mk; (have F' := Fr.grow (by with_reducible assumption) mk); (have N' := News.grow (by with_reducible assumption) mk); (try dsimp only)))) | (k_here; (with_reducible show wpAny _ _ (callWith _ (Value.ref 764) _ _ _) _ _ _); refine callWith_764 (by k_asm) ?_) | (with_reducible (k_here; (with_reducible show wpAny _ _ (truthy (Value.str (S _) _)) _ _ _); first | refine truthyS0 ?_ | refine truthyS1 (by first | assumption | omega) ?_)) | walk1) | (dsimp only; (first | (with_reducible (k_here; (with_reducible show wpAny _ _ (call (Value.ref 764) [Value.str _ _]) _ _ _); first | refine unsafe_none (Frag.In.keeps (by k_asm) (Fr.keep (by k_asm))) (by assumption) (by assumption) ?_ | (refine unsafe_some (Frag.In.keeps (by k_asm) (Fr.keep (by k_asm))) (by assumption) (by assumption) ?_; intro ma mh mk; (have F' := Fr.grow (by with_reducible assumption) mk); (have N' := News.grow (by with_reducible assumption) mk); (try dsimp only)))) | (k_here; (with_reducible show wpAny _ _ (callWith _ (Value.ref 764) _ _ _) _ _ _); refine callWith_764 (by k_asm) ?_) | (with_reducible (k_here; (with_reducible show wpAny _ _ (truthy (Value.str (S _) _)) _ _ _); first | refine truthyS0 ?_ | refine truthyS1 (by first | assumption | omega) ?_)) | walk1)) | (leave1; try dsimp only) | fail "no step")
    rw [show S (quoL []) = Str.ofString "''" from by decide] at hq
    exact hq _ _ _ (Fr.keep (by assumption)) (by assumption)
  | cons a r =>
    by_cases hu : (a :: r).any hit2 = true
    · have he : Ended (Sre.forSearch code2 (S (a :: r)).cps 0 0 (S (a :: r)).cps.size false) true := by
        have := search2 (S (a :: r)).cps
        rwa [show (S (a :: r)).cps.any hit2 = true from by simpa [S] using hu] at this
      repeat' (first | (k_unfold; (try dsimp only)) | (k_end; wrow_close) | (first | (with_reducible (k_here; (with_reducible show wpAny _ _ (call (Value.ref 764) [Value.str _ _]) _ _ _); first | refine unsafe_none (Frag.In.keeps (by k_asm) (Fr.keep (by k_asm))) (by assumption) (by assumption) ?_ | (refine unsafe_some (Frag.In.keeps (by k_asm) (Fr.keep (by k_asm))) (by assumption) (by assumption) ?_; intro ma mh mk; (have F' := Fr.grow (by with_reducible assumption) mk); (have N' := News.grow (by with_reducible assumption) mk); (try dsimp only)))) | (k_here; (with_reducible show wpAny _ _ (callWith _ (Value.ref 764) _ _ _) _ _ _); refine callWith_764 (by k_asm) ?_) | (with_reducible (k_here; (with_reducible show wpAny _ _ (truthy (Value.str (S _) _)) _ _ _); first | refine truthyS0 ?_ | refine truthyS1 (by first | assumption | omega) ?_)) | walk1) | (dsimp only; (first | (with_reducible (k_here; (with_reducible show wpAny _ _ (call (Value.ref 764) [Value.str _ _]) _ _ _); first | refine unsafe_none (Frag.In.keeps (by k_asm) (Fr.keep (by k_asm))) (by assumption) (by assumption) ?_ | (refine unsafe_some (Frag.In.keeps (by k_asm) (Fr.keep (by k_asm))) (by assumption) (by assumption) ?_; intro ma mh mk; (have F' := Fr.grow (by with_reducible assumption) mk); (have N' := News.grow (by with_reducible assumption) mk); (try dsimp only)))) | (k_here; (with_reducible show wpAny _ _ (callWith _ (Value.ref 764) _ _ _) _ _ _); refine callWith_764 (by k_asm) ?_) | (with_reducible (k_here; (with_reducible show wpAny _ _ (truthy (Value.str (S _) _)) _ _ _); first | refine truthyS0 ?_ | refine truthyS1 (by first | assumption | omega) ?_)) | walk1)) | (leave1; try dsimp only) | fail "no step")
      refine replS 1000 5 6000 hl (by omega) (by omega) (by omega) (hq := ?_)
      intro t1 k1 l1 q1
      have l1' : (S (rep (Str.ofString "'").cps.toList (Str.ofString "'\"'\"'").cps.toList 0 (a :: r))).length ≤ 6000 := by rw [S_len]; exact l1
      repeat' (first | (k_unfold; (try dsimp only)) | (k_end; wrow_close) | (first | (with_reducible (k_here; (with_reducible show wpAny _ _ (call (Value.ref 764) [Value.str _ _]) _ _ _); first | refine unsafe_none (Frag.In.keeps (by k_asm) (Fr.keep (by k_asm))) (by assumption) (by assumption) ?_ | (refine unsafe_some (Frag.In.keeps (by k_asm) (Fr.keep (by k_asm))) (by assumption) (by assumption) ?_; intro ma mh mk; (have F' := Fr.grow (by with_reducible assumption) mk); (have N' := News.grow (by with_reducible assumption) mk); (try dsimp only)))) | (k_here; (with_reducible show wpAny _ _ (callWith _ (Value.ref 764) _ _ _) _ _ _); refine callWith_764 (by k_asm) ?_) | (with_reducible (k_here; (with_reducible show wpAny _ _ (truthy (Value.str (S _) _)) _ _ _); first | refine truthyS0 ?_ | refine truthyS1 (by first | assumption | omega) ?_)) | walk1) | (dsimp only; (first | (with_reducible (k_here; (with_reducible show wpAny _ _ (call (Value.ref 764) [Value.str _ _]) _ _ _); first | refine unsafe_none (Frag.In.keeps (by k_asm) (Fr.keep (by k_asm))) (by assumption) (by assumption) ?_ | (refine unsafe_some (Frag.In.keeps (by k_asm) (Fr.keep (by k_asm))) (by assumption) (by assumption) ?_; intro ma mh mk; (have F' := Fr.grow (by with_reducible assumption) mk); (have N' := News.grow (by with_reducible assumption) mk); (try dsimp only)))) | (k_here; (with_reducible show wpAny _ _ (callWith _ (Value.ref 764) _ _ _) _ _ _); refine callWith_764 (by k_asm) ?_) | (with_reducible (k_here; (with_reducible show wpAny _ _ (truthy (Value.str (S _) _)) _ _ _); first | refine truthyS0 ?_ | refine truthyS1 (by first | assumption | omega) ?_)) | walk1)) | (leave1; try dsimp only) | fail "no step")
      rw [show quoL (a :: r) = [39] ++ rep [39] [39, 34, 39, 34, 39] 0 (a :: r) ++ [39] from by unfold quoL; rw [if_neg (by simp), if_pos hu], ← S_cat, ← S_cat] at hq
      exact hq _ _ _ (Fr.keep (by assumption)) (by assumption)
    · have he : Ended (Sre.forSearch code2 (S (a :: r)).cps 0 0 (S (a :: r)).cps.size false) false := by
        have := search2 (S (a :: r)).cps
        rwa [show (S (a :: r)).cps.any hit2 = false from by simpa [S] using hu] at this
      repeat' (first | (k_unfold; (try dsimp only)) | (k_end; wrow_close) | (first | (with_reducible (k_here; (with_reducible show wpAny _ _ (call (Value.ref 764) [Value.str _ _]) _ _ _); first | refine unsafe_none (Frag.In.keeps (by k_asm) (Fr.keep (by k_asm))) (by assumption) (by assumption) ?_ | (refine unsafe_some (Frag.In.keeps (by k_asm) (Fr.keep (by k_asm))) (by assumption) (by assumption) ?_; intro ma mh mk; (have F' := Fr.grow (by with_reducible assumption) mk); (have N' := News.grow (by with_reducible assumption) mk); (try dsimp only)))) | (k_here; (with_reducible show wpAny _ _ (callWith _ (Value.ref 764) _ _ _) _ _ _); refine callWith_764 (by k_asm) ?_) | (with_reducible (k_here; (with_reducible show wpAny _ _ (truthy (Value.str (S _) _)) _ _ _); first | refine truthyS0 ?_ | refine truthyS1 (by first | assumption | omega) ?_)) | walk1) | (dsimp only; (first | (with_reducible (k_here; (with_reducible show wpAny _ _ (call (Value.ref 764) [Value.str _ _]) _ _ _); first | refine unsafe_none (Frag.In.keeps (by k_asm) (Fr.keep (by k_asm))) (by assumption) (by assumption) ?_ | (refine unsafe_some (Frag.In.keeps (by k_asm) (Fr.keep (by k_asm))) (by assumption) (by assumption) ?_; intro ma mh mk; (have F' := Fr.grow (by with_reducible assumption) mk); (have N' := News.grow (by with_reducible assumption) mk); (try dsimp only)))) | (k_here; (with_reducible show wpAny _ _ (callWith _ (Value.ref 764) _ _ _) _ _ _); refine callWith_764 (by k_asm) ?_) | (with_reducible (k_here; (with_reducible show wpAny _ _ (truthy (Value.str (S _) _)) _ _ _); first | refine truthyS0 ?_ | refine truthyS1 (by first | assumption | omega) ?_)) | walk1)) | (leave1; try dsimp only) | fail "no step")
      rw [show quoL (a :: r) = a :: r from by unfold quoL; rw [if_neg (by simp), if_neg hu]] at hq
      exact hq _ _ _ (Fr.keep (by assumption)) (by assumption)
end
/-! ### Joi -/
section
/-- all stands but the table of join's code, which may have grown -/
structure Grown (h h' : Heap) : Prop where
  ext : Heap.ExtBut 758 h h'
  tab : ∀ ps, h.IsCode 762 758 ps → h.TableAt 762 758 ps → ∃ more, h'.IsCode 762 758 (ps ++ more) ∧ h'.TableAt 762 758 (ps ++ more)
theorem Grown.of_keeps {h h' : Heap} (k : ∀ b o, h.get? b = some o → h'.get? b = some o) : Grown h h' :=
  ⟨fun b o _ e => k b o e, fun ps a b => ⟨#[], by simpa using a.keeps k, by simpa using b.keeps k⟩⟩
theorem Grown.trans {h h' h'' : Heap} (x : Grown h h') (y : Grown h' h'') : Grown h h'' :=
  ⟨fun b o hb e => y.ext b o hb (x.ext b o hb e), fun ps a b => by
    obtain ⟨m1, a1, b1⟩ := x.tab ps a b
    obtain ⟨m2, a2, b2⟩ := y.tab _ a1 b1
    exact ⟨m1 ++ m2, by rw [← Array.append_assoc]; exact a2, by rw [← Array.append_assoc]; exact b2⟩⟩
theorem no758 (P : Params) : (K0 P).lookup 758 = none := by rfl
theorem inK_ext {P : Params} {h h' : Heap} (X : (K0 P).In h) (x : Heap.ExtBut 758 h h') : (K0 P).In h' := fun a o e => x a o (by rintro rfl; rw [no758] at e; cases e) (X a o e)
theorem top_ext {p : Program} {lo : List Str} {mg mb : Str → Option Value} {h h' : Heap} (T : TopRead p lo mg mb h) (x : Heap.ExtBut 758 h h') : TopRead p lo mg mb h' :=
  ⟨T.g.extBut x (by decide), T.b.extBut x (by decide), T.nolimit.extBut x (by decide), T.builtins, T.free⟩
theorem Site.grown {w : World} {lo : Program × List Str} {mg mb : Str → Option Value} {d u : Nat} {A : Around} {s s' : Shared} (Z : Site w lo mg mb d u A s) (x : Grown s.heap s'.heap) : Site w lo mg mb d u A s' :=
  ⟨Z.handled, Z.dep, Z.uni, inK_ext Z.inK x.ext, top_ext Z.top x.ext, let ⟨ps, a, b⟩ := Z.tab; let ⟨m, a', b'⟩ := x.tab ps a b; ⟨_, a', b'⟩, let ⟨bm, ob, q⟩ := Z.bmod; let ⟨_, _, b⟩ := Z.tab; ⟨bm, ob, q.extBut b x.ext⟩⟩
theorem genCode {M : Model} {A : Around} {E : Value → Shared → Prop} {s : Shared} {env : Env} {ps : Array Value} {pos : Pos} {qualname : Str} {scope : Scope} {Q : Value → Shared → Prop} (hc : env.code = .ref 762) (hok : s.heap.IsCode 762 758 ps) (ht : s.heap.TableAt 762 758 ps)
    (hQ : ∀ code h' tk, Grown s.heap h' → s.heap.objs.size ≤ h'.objs.size → Q code { s with heap := h', toks := tk }) : wpAny M A (genexprCode env pos qualname scope) Q E s := by
  have uniq : ∀ ps', s.heap.TableAt 762 758 ps' → ps' = ps := fun ps' h => by
    have e := h.2.symm.trans ht.2
    cases e; rfl
  cases hf : codeAmong pos ps.toList with
  | some c' => exact wpAny_genexprCode_hit hc hok hf (hQ c' s.heap s.toks (.of_keeps fun _ _ e => e) (Nat.le_refl _))
  | none =>
    refine wpAny_genexprCodeX hc hok ht hf fun c' h' tk hx hge hlt hcode _ htab _ => hQ _ h' tk ⟨hx, fun ps' a b => ?_⟩ (Nat.le_trans hge (Nat.le_of_lt hlt))
    rw [uniq ps' b]
    exact ⟨_, hcode, htab⟩
theorem isCode_at {h h' : Heap} {c P : Addr} {ps : Array Value} (x : h.IsCode c P ps) (e1 : ∀ o, h.get? c = some o → h'.get? c = some o) (e2 : ∀ o, h.get? P = some o → h'.get? P = some o) : h'.IsCode c P ps :=
  let ⟨o, vs, file, tf, flags, tg, inF, text, tt, op, a, r1, r2, r3, r4, r5, r6, b, r⟩ := x
  ⟨o, vs, file, tf, flags, tg, inF, text, tt, op, e1 _ a, r1, r2, r3, r4, r5, r6, e2 _ b, r⟩
theorem tableAt_at {h h' : Heap} {c P : Addr} {ps : Array Value} (x : h.TableAt c P ps) (e1 : ∀ o, h.get? c = some o → h'.get? c = some o) (e2 : ∀ o, h.get? P = some o → h'.get? P = some o) : h'.TableAt c P ps :=
  let ⟨⟨o, vs, a, r⟩, t⟩ := x; ⟨⟨o, vs, e1 _ a, r⟩, e2 _ t⟩
theorem quoL_len {l : List Nat} (h : l.length ≤ 1000) : (quoL l).length ≤ 7000 := by
  unfold quoL
  split
  · simp
  · split
    · have := rep_len [39] [39, 34, 39, 34, 39] l 0
      simp only [List.length_append, List.length_cons, List.length_nil] at this ⊢
      omega
    · omega
theorem fold_len (sep : Str) (n : Nat) : ∀ (l : List Str) (k : Nat), sep.length ≤ 1 → (∀ x ∈ l, x.length ≤ n) → l.foldl (fun a x => a + x.length + sep.length) k ≤ k + l.length * (n + 1)
  | [], k, _, _ => by simp
  | x :: r, k, h1, h => by
    have h2 := h x (.head _)
    have := fold_len sep n r (k + x.length + sep.length) h1 fun y hy => h y (.tail _ hy)
    rw [List.foldl_cons, List.length_cons, Nat.add_mul]
    omega
theorem joinOk_small {sep : Str} {l : List Str} (h1 : sep.length ≤ 1) (h2 : l.length ≤ 50) (h : ∀ x ∈ l, x.length ≤ 7000) : JoinOk sep l = true := by
  unfold JoinOk Builtin.Str.tooLong
  have := fold_len sep 7000 l 0 h1 h
  rw [List.foldl_toArray, Bool.not_eq_true']
  refine decide_eq_false ?_
  rw [sizeLine_eq]
  have h3 : l.length * (7000 + 1) ≤ 50 * 7001 := Nat.mul_le_mul_right _ h2
  omega
theorem fill_joi (P : Params) : (PySem.Challenge.rw_mj0268_01 = PySem.Challenge.rw_mj0268_01 ∧ K0 P = K0 P) := by
  k_fill
  exact ⟨rfl, rfl⟩
theorem joi_call {prog : Program} {w : World} {lo : Program × List Str} {mg mb : Str → Option Value} {A : Around} {s : Shared} {a : Addr} {vs : List Value} {ls : List (List Nat)} {Q E : Value → Shared → Prop}
    (Z : Site w lo mg mb 6 40 A s) (hl : ∀ l ∈ ls, l.length ≤ 1000) (hn : ls.length ≤ 50) (hL : s.heap.IsList a vs.toArray) (hv : StrsAre vs (ls.map S)) (hG : AllBare s.gens)
    (hq : ∀ h' g' t tk', Grown s.heap h' → AllBare g' → s.toks ≤ tk' → Q (.str (Txt.join (Str.ofString " ") (ls.map fun l => S (quoL l))) t) ⟨h', g', s.drawn, tk', s.os⟩) :
    wpAny (model prog w) A (call (.ref 763) [.ref a]) Q E s := by
  obtain ⟨hh, hdp, hun, X', T', C', M'⟩ := Z
  refine wpAny_with_toks (n := s.toks) (Nat.le_refl _) (wpAny_call ?_)
  refine enterP ⟨hh, by omega, by omega, X', T', C', M'⟩ (by k_is) (by k_is) (binds := [(Str.ofString "split_command", .ref a)]) (BindsTo.of_eq rfl) (locs rfl) rfl rfl rfl (by decide) ?_
  intro L' h₁ F' N'
  try dsimp only
  try k_fold
  k_steps
  have hLa := F'.ns
  have hL1 := hL.at fun o e => F'.keep _ o e
  obtain ⟨ps, hC1, hC2⟩ := C'
  obtain ⟨bm, ob, hM⟩ := M'
  refine wpAny_GeneratorExp_walksQD (cl := []) hh rfl (closureFor_none (by decide)) (by decide) rfl rfl rfl (by show A.depth + 1 < recursionLimit; unfold recursionLimit; omega) ?_ (by intro _; rfl)
  refine ld F' rfl ?_
  refine wpAny_pyIter_list hL1 ?_
  refine ⟨((T'.nolimit.keeps F'.keep).push _), ?_⟩
  have k2 : ∀ b o, h₁.get? b = some o → (h₁.push { cls := .type "list_iterator", data := .fields #[.ref a, .int 0 0] }).get? b = some o := fun b o e => Heap.get?_push_of_some _ e
  have k1 : ∀ b o, s.heap.get? b = some o → (h₁.push { cls := .type "list_iterator", data := .fields #[.ref a, .int 0 0] }).get? b = some o := fun b o e => k2 b o (F'.keep b o e)
  refine genCode rfl (hC1.keeps k1) (hC2.keeps k1) ?_
  intro code h3 tk3 G3 hsz3
  have hsz3' : h₁.objs.size + 1 ≤ h3.objs.size := by
    have q := hsz3
    dsimp only at q
    rwa [Heap.size_push] at q
  refine wpAny_builtinsFor (hM.keeps k1 |>.extBut (hC2.keeps k1) G3.ext).ns hM.name hM.ne (hM.keeps k1 |>.extBut (hC2.keeps k1) G3.ext).obj hM.cls hM.dict hM.data ?_
  dsimp only
  have hne : a ≠ h₁.objs.size := by
    obtain ⟨o, e, _⟩ := hL1
    exact Nat.ne_of_lt (Heap.lt_size e)
  have hP : ∀ b, s.heap.get? 758 = some b → True := fun _ _ => trivial
  have h758 : ∃ o, s.heap.get? 758 = some o := ⟨_, hC2.2⟩
  have hlt758 : 758 < s.heap.objs.size := by obtain ⟨o, e⟩ := h758; exact Heap.lt_size e
  have hsle : s.heap.objs.size ≤ h₁.objs.size := Nat.le_trans F'.above (Nat.le_of_lt F'.ns.lt)
  have ha758 : a ≠ 758 := by
    rintro rfl
    obtain ⟨o, e, q, _⟩ := hL
    rw [hC2.2] at e
    cases e
    cases q
  have hI758 : h₁.objs.size ≠ 758 := by omega
  have kS : ∀ b o, b ≠ 758 → s.heap.get? b = some o → h3.get? b = some o := fun b o hb e => G3.ext b o hb (k1 b o e)
  refine ⟨h₁.objs.size, [h₁.objs.size, a], [h₁.objs.size], vs.toArray.size, (fun i v => vs.toArray[i]? = some v), (fun i h => h.IsListIter h₁.objs.size a i ∧ h.IsList a vs.toArray), (fun _ => true), (fun i y => ∃ t l, ls[i]? = some l ∧ y = .str (S (quoL l)) t), rfl, fun A' hA' => Walks.list hA' _ a hne _, ?_, ?_, ?_, ?_, ?_, ?_⟩
  · exact ⟨⟨_, G3.ext _ _ hI758 (Heap.get?_push_size _ rfl), rfl, rfl⟩, hL.at fun o e => kS _ o ha758 e⟩
  · intro b hb
    rcases List.mem_cons.mp hb with rfl | hb
    · exact hsz3'
    · rcases List.mem_cons.mp hb with rfl | hb
      · obtain ⟨o, e, _⟩ := hL1
        exact Nat.lt_of_lt_of_le (Heap.lt_size e) (Nat.le_of_succ_le hsz3')
      · cases hb
  · exact (T'.nolimit.keeps k1).extBut G3.ext (by decide)
  · intro hm
    have : cStatics < s.heap.objs.size := Nat.lt_trans (by decide) hlt758
    rcases List.mem_cons.mp hm with e | hm
    · rw [e] at this; exact absurd this (Nat.not_lt.mpr hsle)
    · cases hm
  · intro href hhref
    have kR : ∀ s₂ : Shared, (∀ b ∈ List.range h3.objs.size, b ∉ [h₁.objs.size] → ∀ o, href.get? b = some o → s₂.heap.get? b = some o) → Heap.ExtBut 758 s.heap s₂.heap := fun s₂ hk b o hb e => by
      have e3 := kS b o hb e
      exact hk b (List.mem_range.mpr (Heap.lt_size e3)) (fun hm => by
        rcases List.mem_cons.mp hm with q | hm
        · exact absurd (Heap.lt_size e) (Nat.not_lt.mpr (q ▸ hsle))
        · cases hm) o (hhref b o e3)
    refine ⟨fun A' E' i v s₂ m₂ _ _ _ _ _ _ _ => wpAny_pure ⟨rfl, s₂.heap, s₂.toks, rfl, fun _ _ e => e⟩, fun A' E' i v s₂ m₂ hA' hd' hu' hP' _ hn₂ hm₂ hk₂ => ?_⟩
    have X2 := inK_ext X' (kR s₂ hk₂)
    have T2 := top_ext T' (kR s₂ hk₂)
    have hi : i < ls.length := by
      have := hv.length
      rw [List.length_map] at this
      rw [← this]
      have q : vs.toArray[i]? = some v := hP'
      rw [List.getElem?_toArray] at q
      exact (List.getElem?_eq_some_iff.mp q).1
    obtain ⟨t0, ht0⟩ := hv.get i (S ls[i]) (by rw [List.getElem?_map, List.getElem?_eq_getElem hi]; rfl)
    have ev : v = .str (S ls[i]) t0 := by
      have q : vs.toArray[i]? = some v := hP'
      rw [List.getElem?_toArray, ht0] at q
      exact (Option.some.inj q).symm
    subst ev
    have x2 : Heap.ExtBut h₁.objs.size h3 s₂.heap := fun b o hb e => hk₂ b (List.mem_range.mpr (Heap.lt_size e)) (fun hm => by
      rcases List.mem_cons.mp hm with q | hm
      · exact hb q
      · cases hm) o (hhref b o e)
    obtain ⟨more, c1, c2⟩ := G3.tab ps (hC1.keeps k1) (hC2.keeps k1)
    have h762 : 762 ≠ h₁.objs.size := by
      obtain ⟨⟨o, vs, e, _⟩, _⟩ := hC2
      exact fun q => absurd (Heap.lt_size e) (Nat.not_lt.mpr (q ▸ hsle))
    have hd2 : A'.depth ≤ A.depth + 2 := hd'
    have hu2 : A'.units ≤ A.units + 11 := hu'
    have M2 : BMod s₂.heap mainGlobals mg bm ob := hM.extBut hC2 (kR s₂ hk₂)
    refine eval_call1 X2 T2 rfl rfl hn₂ hm₂ (by k_is) (by k_is) (quo_call ⟨hA', by omega, by omega, X2, T2, ⟨_, c1.extBut x2 h762 (Ne.symm hI758), c2.extBut x2 h762 (Ne.symm hI758)⟩, ⟨_, _, M2⟩⟩ (hl _ (List.getElem_mem hi)) ?_) rfl rfl (by decide) (by decide)
    intro h' t tk' hk' _
    exact ⟨⟨t, ls[i], List.getElem?_eq_getElem hi, rfl⟩, h', tk', rfl, hk'⟩
  · intro a5 h5 tk5 gs hgb hag hsz5 hk5 W hat
    refine args_nil ?_
    have hvl : vs.length = ls.length := by have := hv.length; rwa [List.length_map] at this
    have hps : passing (fun _ => true) vs.toArray.size 0 = List.range ls.length := by unfold passing; rw [List.size_toArray, hvl]; simp
    rw [hps, List.length_range] at W
    refine SC.joinGen W.in4_2 (fun i s' st => st.1.typeIs) hat ?_ List.mem_cons_self ?_ (fun s' lt hm hacc => ?_) (by rw [sizeLine_eq]; omega)
    · intro b hb
      show b < h5.objs.size
      rw [hsz5]
      rcases List.mem_cons.mp hb with rfl | hb
      · exact Nat.lt_succ_self _
      · rcases List.mem_cons.mp hb with rfl | hb
        · exact Nat.lt_succ_of_lt hag
        · exact Nat.lt_succ_of_lt (Nat.lt_trans (List.mem_range.mp hb) hag)
    · rintro i v ⟨j, _, t, l, _, rfl⟩
      exact ⟨_, _, rfl⟩
    · have e1 : lt.map (·.1) = ls.map fun l => S (quoL l) := by
        have hs1 : lt.length = ls.length := by simpa [strValues] using hacc.1
        refine List.ext_getElem (by simpa using hs1) fun j h1 h2 => ?_
        have h1' : j < lt.length := by simpa using h1
        have h2' : j < ls.length := by simpa using h2
        obtain ⟨i, hi, t, l, hl', ev⟩ := hacc.2 j (.str lt[j].1 lt[j].2) (by simp [strValues, List.getElem?_eq_getElem h1'])
        rw [List.getElem?_range h2'] at hi
        cases hi
        rw [List.getElem?_eq_getElem h2'] at hl'
        cases hl'
        injection ev with ev _
        simpa using ev
      rw [e1]
      refine ⟨joinOk_small (by decide) (by simpa using hn) (fun x hx => ?_), fun t' k => ?_⟩
      · obtain ⟨l, hl', rfl⟩ := List.mem_map.mp hx
        rw [S_len]
        exact quoL_len (hl l hl')
      · obtain ⟨h6, g6, d6, t6, o6⟩ := s'
        have e6 := hm.drawn
        have e7 := hm.os
        dsimp only at e6 e7
        subst e6 e7
        have kk : ∀ b o, b < h₁.objs.size → h3.get? b = some o → h6.get? b = some o := fun b o hb e => hm.heap b o (fun hm' => by
          rcases List.mem_cons.mp hm' with q | hm'
          · subst q; exact absurd hb (Nat.not_lt.mpr (Nat.le_of_succ_le hsz3'))
          · rcases List.mem_cons.mp hm' with q | hm'
            · subst q; exact Nat.lt_irrefl _ hb
            · cases hm') (hk5 b o e)
        have low : ∀ b o, s.heap.get? b = some o → b < h₁.objs.size := fun b o e => Nat.lt_of_lt_of_le (Heap.lt_size e) hsle
        have G6 : Grown s.heap h6 := ⟨fun b o hb e => kk b o (low b o e) (kS b o hb e), fun ps' a' b' => by
          obtain ⟨more, c1, c2⟩ := G3.tab ps' (a'.keeps k1) (b'.keeps k1)
          have l1 : 762 < h₁.objs.size := by obtain ⟨⟨o, vs, e, _⟩, _⟩ := b'; exact low _ _ e
          have l2 : 758 < h₁.objs.size := low _ _ b'.2
          exact ⟨more, isCode_at c1 (fun o e => kk _ o l1 e) (fun o e => kk _ o l2 e), tableAt_at c2 (fun o e => kk _ o l1 e) (fun o e => kk _ o l2 e)⟩⟩
        have hB : AllBare g6 := (hG.push hgb).movedS hm
        k_steps
        exact hq _ _ _ _ G6 hB (by assumption)
end
/-! ### Mv -/
section
/-- all stands, but the slots of the frames fs may have changed, and the table of join's code may have grown -/
structure Mv (fs : List Addr) (h h' : Heap) : Prop where
  other : ∀ b o, h.get? b = some o → b ∉ fs → b ≠ 758 → h'.get? b = some o
  frame : ∀ b o, h.get? b = some o → b ∈ fs → ∃ sl, h'.get? b = some { o with slots := sl }
  tab : ∀ ps, h.IsCode 762 758 ps → h.TableAt 762 758 ps → ∃ more, h'.IsCode 762 758 (ps ++ more) ∧ h'.TableAt 762 758 (ps ++ more)
theorem Mv.of_keeps {fs : List Addr} {h h' : Heap} (k : ∀ b o, h.get? b = some o → h'.get? b = some o) : Mv fs h h' :=
  ⟨fun b o e _ _ => k b o e, fun b o e _ => ⟨o.slots, k b o e⟩, fun ps a b => ⟨#[], by simpa using a.keeps k, by simpa using b.keeps k⟩⟩
theorem Mv.refl {fs : List Addr} {h : Heap} : Mv fs h h := .of_keeps fun _ _ e => e
theorem Mv.trans {fs : List Addr} {h h' h'' : Heap} (x : Mv fs h h') (y : Mv fs h' h'') : Mv fs h h'' :=
  ⟨fun b o e n1 n2 => y.other b o (x.other b o e n1 n2) n1 n2, fun b o e hb => by
    obtain ⟨s1, e1⟩ := x.frame b o e hb
    obtain ⟨s2, e2⟩ := y.frame b _ e1 hb
    exact ⟨s2, e2⟩, fun ps a b => by
    obtain ⟨m1, a1, b1⟩ := x.tab ps a b
    obtain ⟨m2, a2, b2⟩ := y.tab _ a1 b1
    exact ⟨m1 ++ m2, by rw [← Array.append_assoc]; exact a2, by rw [← Array.append_assoc]; exact b2⟩⟩
theorem Mv.then {fs : List Addr} {h H H' : Heap} (x : Mv fs h H) (k : ∀ b o, @LT.lt Nat _ b h.objs.size → H.get? b = some o → H'.get? b = some o) : Mv fs h H' :=
  ⟨fun b o e n1 n2 => k b o (Heap.lt_size e) (x.other b o e n1 n2), fun b o e hb => by
    obtain ⟨sl, q⟩ := x.frame b o e hb
    exact ⟨sl, k b _ (Heap.lt_size e) q⟩, fun ps a b => by
    obtain ⟨more, a', b'⟩ := x.tab ps a b
    have l1 : @LT.lt Nat _ 762 h.objs.size := by
      obtain ⟨⟨o, vs, q, _⟩, _⟩ := b
      exact Heap.lt_size q
    have l2 : @LT.lt Nat _ 758 h.objs.size := Heap.lt_size b.2
    exact ⟨more, isCode_at a' (fun o e => k _ o l1 e) (fun o e => k _ o l2 e), tableAt_at b' (fun o e => k _ o l1 e) (fun o e => k _ o l2 e)⟩⟩
theorem Mv.of_grown {h h' : Heap} (x : Grown h h') (fs : List Addr) (hn : 758 ∉ fs) : Mv fs h h' :=
  ⟨fun b o e _ n => x.ext b o n e, fun b o e hb => ⟨o.slots, x.ext b o (fun q => hn (q ▸ hb)) e⟩, x.tab⟩
theorem Mv.of_turn {fs : List Addr} {h g h' : Heap} (x : KtsTurn fs h g) (k : ∀ b o, g.get? b = some o → h'.get? b = some o) (n1 : 758 ∉ fs) (n2 : 762 ∉ fs) : Mv fs h h' :=
  ⟨fun b o e n _ => k b o (x.other b o e n), fun b o e hb => by
    obtain ⟨sl, q⟩ := x.frame b o e hb
    exact ⟨sl, k _ _ q⟩, fun ps a b => ⟨#[], by
      rw [Array.append_empty]
      exact ⟨isCode_at a (fun o e => k _ o (x.other _ o e n2)) (fun o e => k _ o (x.other _ o e n1)), tableAt_at b (fun o e => k _ o (x.other _ o e n2)) (fun o e => k _ o (x.other _ o e n1))⟩⟩⟩
theorem Mv.ns {fs : List Addr} {h h' : Heap} {a : Addr} {m : Str → Option Value} (x : Mv fs h h') (hn : h.Ns a m) (h7 : a ≠ 758) : h'.Ns a m := by
  obtain ⟨o, es, ep, ho, hd, hk, hf⟩ := hn
  by_cases ha : a ∈ fs
  · obtain ⟨sl, q⟩ := x.frame a o ho ha
    exact ⟨_, es, ep, q, hd, hk, hf⟩
  · exact ⟨o, es, ep, x.other a o ho ha h7, hd, hk, hf⟩
section
variable {prog : Program} {w : World} {A : Around} {E : Value → Shared → Prop} {env : Env} {s : Shared} {m : Str → Option Value}
/-- [x for x in y if c], y a name that holds a list of texts; the test may change the slots of the frames fs -/
theorem lcG {x y : Str} {p1 px py : Pos} {c : Expr} {scope : Scope} {cl : List (Str × Addr)} {pos : Pos} {wa : Addr} {vs : List Value} {ws : List (List Nat)} {Q : Value → Shared → Prop} (pw : List Nat → Bool) (fs : List Addr)
    (hh : A.handled = none) (hek : env.scope.kind = .function) (hyk : env.kindOf y = some .local) (hn : s.heap.Ns env.locals m) (hm : m y = some (.ref wa)) (hL : s.heap.IsList wa vs.toArray) (hv : StrsAre vs (ws.map S)) (hlen : ws.length ≤ 1000)
    (hclos : closureFor scope env = pure cl) (hcell : ∀ z ∈ scope.names, z.2 ≠ .cell) (hkind : scope.kind = .function) (hnames : ∀ z ∈ scope.names, z.2 = .local → scope.names.lookup z.1 = some .local) (hx : scope.names.lookup x = some .local)
    (hfs : ∀ b ∈ fs, @LT.lt Nat _ b s.heap.objs.size) (hwa : wa ∉ fs) (hw7 : wa ≠ 758) (h7 : @LT.lt Nat _ 758 s.heap.objs.size)
    (test : ∀ C l t h₃ tk₃ m₃ Q' E', l ∈ ws → h₃.Ns C m₃ → m₃ x = some (.str (S l) t) → Mv fs s.heap h₃ → (∀ h₄ tk₄, Mv fs h₃ h₄ → Q' (pw l) { s with heap := h₄, toks := tk₄ }) →
      wpAny (model prog w) A (isTrue c (compEnvC scope cl C env) (eval c (compEnvC scope cl C env))) Q' E' { s with heap := h₃, toks := tk₃ })
    (hQ : ∀ D h' tk ys, s.heap.get? D = none → h'.IsList D ys → StrsAre ys.toList ((ws.filter pw).map S) → Mv fs s.heap h' → Q (.ref D) { s with heap := h', toks := tk })
    (hyd : (y == ("__debug__" : Str)) = false := by decide) (hxd : (x == ("__debug__" : Str)) = false := by decide) :
    wpAny (model prog w) A (eval (.ListComp (.Name x p1) [⟨.Name x px, .Name y py, [c], 0⟩] scope pos) env) Q E s := by
  refine listComp hclos hcell hkind hnames (wpAny_Name (wpAny_loadName_local hek hyk hn hm ?_) hyd)
  refine wpAny_pyIter_list hL ?_
  have hwl : @LT.lt Nat _ wa s.heap.objs.size := let ⟨_, ho, _⟩ := hL; Heap.lt_size ho
  have hne : wa ≠ s.heap.objs.size := Nat.ne_of_lt hwl
  generalize hI : s.heap.objs.size = I at hne hwl hfs h7 ⊢
  have hIt : (s.heap.push { cls := .type "list_iterator", data := .fields #[.ref wa, .int 0 0] }).IsListIter I wa 0 := ⟨_, hI ▸ Heap.get?_push_size _ rfl, rfl, rfl⟩
  refine ⟨fun s' Q' E' hk' hQ' => wpAny_pyIter_listiter (hIt.at fun o e => hk' _ o e) hQ', ?_⟩
  intro D C h₁ tk₁ m₁ hD hC hp hnC hk₁ htk₁
  dsimp only at hD hk₁
  rw [Heap.size_push, hI] at hD
  have oldI : ∀ b o, s.heap.get? b = some o → @LT.lt Nat _ b I := fun b o e => hI ▸ Heap.lt_size e
  have nI : I ∉ fs := fun q => Nat.lt_irrefl _ (hfs _ q)
  have nD : D ∉ fs := fun q => by have := hfs _ q; rw [hD] at this; exact Nat.lt_irrefl _ (Nat.lt_of_succ_lt this)
  have nC : C ∉ fs := fun q => by have := hfs _ q; rw [hC, hD] at this; exact Nat.lt_irrefl _ (Nat.lt_of_succ_lt (Nat.lt_of_succ_lt this))
  have I7 : I ≠ 758 := fun q => Nat.lt_irrefl _ (q ▸ h7)
  have D7 : D ≠ 758 := fun q => by have h8 := h7; rw [← q, hD] at h8; exact Nat.lt_irrefl _ (Nat.lt_of_succ_lt h8)
  have C7 : C ≠ 758 := fun q => by have h8 := h7; rw [← q, hC, hD] at h8; exact Nat.lt_irrefl _ (Nat.lt_of_succ_lt (Nat.lt_of_succ_lt h8))
  have ID : I ≠ D := fun q => by rw [hD] at q; exact Nat.ne_of_lt (Nat.lt_succ_self I) q
  have IC : I ≠ C := fun q => by rw [hC, hD] at q; exact Nat.ne_of_lt (Nat.lt_succ_of_lt (Nat.lt_succ_self I)) q
  have DC : D ≠ C := fun q => by rw [hC] at q; exact Nat.ne_of_lt (Nat.lt_succ_self D) q
  have lo : ∀ b, @LT.lt Nat _ b I → b ≠ I ∧ b ≠ D ∧ b ≠ C := fun b hb => ⟨Nat.ne_of_lt hb, fun q => Nat.lt_irrefl _ (Nat.lt_of_succ_lt (hD ▸ q ▸ hb)), fun q => by rw [q, hC, hD] at hb; exact Nat.lt_irrefl _ (Nat.lt_of_succ_lt (Nat.lt_of_succ_lt hb))⟩
  have M1 : Mv fs s.heap h₁ := .of_keeps fun b o e => hk₁ b o (Heap.get?_push_of_some _ e)
  have hlenv : vs.toArray.size = ws.length := by have := hv.length; rw [List.length_map] at this; rw [List.size_toArray, this]
  refine codeAny_compLoop_tests (fun k s' => ∃ h' tk m' ys i, s' = { s with heap := h', toks := tk } ∧ h'.IsListIter I wa i ∧ h'.IsList wa vs.toArray ∧ h'.PlainList D ys ∧ h'.Ns C m' ∧ StrsAre ys.toList (((ws.take i).filter pw).map S) ∧ i ≤ ws.length ∧ k = ws.length + 1 - i ∧ Mv fs s.heap h')
    ?_ (ws.length + 1) ⟨h₁, tk₁, m₁, #[], 0, rfl, hIt.at fun o e => hk₁ _ o e, hL.at fun o e => hk₁ _ o (Heap.get?_push_of_some _ e), hp, hnC, .nil, Nat.zero_le _, rfl, M1⟩
  rintro k s' ⟨H, tk, m', ys, i, rfl, hit, hl, hpl, hns, hys, hi, rfl, M⟩
  by_cases hlt : i < ws.length
  · obtain ⟨v, hvi⟩ : ∃ v, vs.toArray[i]? = some v := ⟨_, Array.getElem?_eq_getElem (by omega)⟩
    have hwi : ws[i]? = some ws[i] := List.getElem?_eq_getElem hlt
    obtain ⟨t, rfl⟩ : ∃ t, v = .str (S ws[i]) t := by
      have h' : vs[i]? = some v := by simpa using hvi
      obtain ⟨y, t, rfl, e⟩ := hv.item i v h'
      rw [List.getElem?_map, hwi] at e
      cases e
      exact ⟨t, rfl⟩
    refine wpAny_pyNext_list_item hit hl hvi fun h₂ hit₂ hs₂ => ?_
    refine wpAny_assign_Name (wpAny_storeName_local (m := m') (lookup_relabel_local hx) (hns.sameBut hs₂ (Ne.symm IC)) (fun h₃ hn₃ hs₃ => ?_) (by show (scope.kind == .class || (scope.kind == .module && _)) = false; rw [hkind]; rfl))
    have M3 : Mv fs s.heap h₃ := M.then fun b o hb e => by
      rw [hI] at hb
      exact (hs₃.2 b (lo b hb).2.2).trans ((hs₂.2 b (lo b hb).1).trans e)
    refine wpAny_tests_one (test C ws[i] t h₃ _ _ _ _ (List.getElem_mem hlt) hn₃ (by simp) M3 fun h₄ tk₄ M4 => ?_)
    have hit4 : h₄.IsListIter I wa (i + 1) := hit₂.at fun o e => M4.other _ o ((hs₃.2 I IC).trans e) nI I7
    have hl4 : h₄.IsList wa vs.toArray := hl.at fun o e => M4.other _ o ((hs₃.2 wa (lo wa hwl).2.2).trans ((hs₂.2 wa (lo wa hwl).1).trans e)) hwa hw7
    have hpl4 : h₄.PlainList D ys := hpl.at fun o e => M4.other _ o ((hs₃.2 D DC).trans ((hs₂.2 D (Ne.symm ID)).trans e)) nD D7
    have hn4 := M4.ns hn₃ C7
    have M5 := M3.trans M4
    have tk1 : (ws.take (i + 1)).filter pw = (ws.take i).filter pw ++ (if pw ws[i] then [ws[i]] else []) := take_succ_filter pw ws i _ hwi
    cases q : pw ws[i] with
    | false =>
      simp only [Bool.false_eq_true, if_false]
      refine ⟨ws.length + 1 - (i + 1), by omega, h₄, tk₄, _, ys, i + 1, rfl, hit4, hl4, hpl4, hn4, ?_, hlt, rfl, M5⟩
      rw [tk1, q]; simpa using hys
    | true =>
      simp only [if_true]
      refine wpAny_Name (wpAny_loadName_local hkind (lookup_relabel_local hx) hn4 (if_pos rfl) ?_) hxd
      have hsz : ys.size ≤ sizeLine := by
        have e1 := hys.length
        have e2 := List.length_filter_le pw (ws.take i)
        rw [List.length_map] at e1
        rw [List.length_take] at e2
        rw [sizeLine_eq]
        have : ys.toList.length = ys.size := by simp
        omega
      refine wpAny_list_append_plain (hsz := hsz) hpl4 fun h₆ hl6 hs6 => ?_
      refine ⟨ws.length + 1 - (i + 1), by omega, h₆, tk₄, _, ys.push _, i + 1, rfl, hit4.at fun o e => (hs6.2 I ID).trans e, hl4.at fun o e => (hs6.2 wa (lo wa hwl).2.1).trans e, hl6, hn4.sameBut hs6 DC.symm, ?_, hlt, rfl, M5.then fun b o hb e => ?_⟩
      · rw [tk1, q, if_pos rfl, List.map_append, Array.toList_push]
        exact StrsAre.append' hys (.cons _ _ .nil)
      · rw [hI] at hb
        exact (hs6.2 b (lo b hb).2.1).trans e
  · have hin : i = ws.length := by omega
    subst hin
    rw [List.take_length] at hys
    refine wpAny_pyNext_list_end hh hit hl (by rw [Array.getElem?_eq_none]; omega) fun h₂ hs₂ => ?_
    refine ⟨m', hns.extBut hs₂ (Ne.symm IC), fun h₃ hs₃ => ?_⟩
    refine hQ D h₃ _ ys ?_ ((hpl.extBut hs₂ (Ne.symm ID)).isList.extBut hs₃.extBut DC) hys (M.then fun b o hb e => ?_)
    · cases q : s.heap.get? D with
      | none => rfl
      | some o => have := oldI _ _ q; rw [hD] at this; exact absurd (Nat.lt_of_succ_lt this) (Nat.lt_irrefl _)
    · rw [hI] at hb
      exact (hs₃.2 b (lo b hb).2.2).trans (hs₂ b o (lo b hb).1 e)
end
end
/-! ### Lc -/
section
section
variable {prog : Program} {w : World} {A : Around} {E : Value → Shared → Prop} {env : Env} {s : Shared} {m : Str → Option Value}
/-- z = [x for x in y if ..]: z a local name -/
theorem lcA {elt : Expr} {x y z : Str} {px py pz : Pos} {ifs : List Expr} {scope : Scope} {cl : List (Str × Addr)} {pos spos : Pos} {wa : Addr} {vs : List Value} {ws : List (List Nat)} {Q : Flow → Shared → Prop} (pw : List Nat → Bool) (f : List Nat → List Nat)
    (hh : A.handled = none) (hek : env.scope.kind = .function) (hyk : env.kindOf y = some .local) (hzk : env.kindOf z = some .local) (hn : s.heap.Ns env.locals m) (hm : m y = some (.ref wa)) (hL : s.heap.IsList wa vs.toArray) (hv : StrsAre vs (ws.map S)) (hlen : ws.length ≤ 1000)
    (hsw : swapsWith (.ListComp elt [⟨.Name x px, .Name y py, ifs, 0⟩] scope pos) (some (.Name z pz)) spos.line env = pure true)
    (hclos : closureFor scope env = pure cl) (hcell : ∀ z ∈ scope.names, z.2 ≠ .cell) (hkind : scope.kind = .function) (hnames : ∀ z ∈ scope.names, z.2 = .local → scope.names.lookup z.1 = some .local) (hx : scope.names.lookup x = some .local)
    (test : ∀ C l t s₃ m₃ E', l ∈ ws → s.heap.objs.size ≤ C → s₃.heap.Ns C m₃ → m₃ x = some (.str (S l) t) → (∀ b o, s.heap.get? b = some o → s₃.heap.get? b = some o) → wpAny (model prog w) A (testsC ifs scope cl C env) (fun ok s₄ => ok = pw l ∧ Keeps s₃ s₄) E' s₃)
    (helt : ∀ C l t s₃ m₃ E', l ∈ ws → pw l = true → s.heap.objs.size ≤ C → s₃.heap.Ns C m₃ → m₃ x = some (.str (S l) t) → (∀ b o, s.heap.get? b = some o → s₃.heap.get? b = some o) → wpAny (model prog w) A (eval elt (compEnvC scope cl C env)) (fun v s₄ => (∃ u, v = .str (S (f l)) u) ∧ Keeps s₃ s₄) E' s₃)
    (hQ : ∀ D h' tk ys, s.heap.get? D = none → h'.IsList D ys → StrsAre ys.toList (((ws.filter pw).map f).map S) → h'.Ns env.locals (fun u => if u = z then some (.ref D) else m u) → (∀ b o, b ≠ env.locals → s.heap.get? b = some o → h'.get? b = some o) → Q .next { s with heap := h', toks := tk })
    (hyd : (y == ("__debug__" : Str)) = false := by decide) :
    wpAny (model prog w) A (exec (.Assign [.Name z pz] (.ListComp elt [⟨.Name x px, .Name y py, ifs, 0⟩] scope pos) spos) env) Q E s := by
  refine wpAny_Assign_ListComp_free (pV pw) (fun v y => ∃ l t u, v = .str (S l) t ∧ y = .str (S (f l)) u) hsw hclos hcell hkind hnames hx hzk (by rw [hek]; rfl) (wpAny_Name (wpAny_loadName_local hek hyk hn hm ?_) hyd)
  refine wpAny_pyIter_list hL ?_
  have hne : wa ≠ s.heap.objs.size := Nat.ne_of_lt (let ⟨_, ho, _⟩ := hL; Heap.lt_size ho)
  have up : ∀ b o, s.heap.get? b = some o → b ∉ [s.heap.objs.size] ∧ (s.heap.push { cls := .type "list_iterator", data := .fields #[.ref wa, .int 0 0] }).get? b = some o := fun b o e => ⟨by
    rw [List.mem_singleton]; exact Nat.ne_of_lt (Heap.lt_size e), Heap.get?_push_of_some _ e⟩
  refine ⟨s.heap.objs.size, [s.heap.objs.size, wa], [s.heap.objs.size], vs.toArray.size, _, _, m, rfl, Walks.list hh _ wa hne vs.toArray, sizes hv hlen, ⟨⟨_, Heap.get?_push_size _ rfl, rfl, rfl⟩, hL.at fun o e => Heap.get?_push_of_some _ e⟩, ?_, ?_, hn.push _, ⟨?_, ?_⟩, ?_⟩
  · intro b hb
    show b < (s.heap.push _).objs.size
    rw [Heap.size_push]
    rcases List.mem_cons.mp hb with rfl | hb
    · exact Nat.lt_succ_self _
    · rw [List.mem_singleton.mp hb]
      exact Nat.lt_succ_of_lt (let ⟨_, ho, _⟩ := hL; Heap.lt_size ho)
  · rw [List.mem_singleton]
    exact Nat.ne_of_lt hn.lt
  · intro C i v s₃ m₃ E' hC hP hns hmx hk htk
    obtain ⟨l, t, hl, rfl⟩ := itemAt hv hP
    rw [pV_S]
    rw [Heap.size_push] at hC
    exact test C l t s₃ m₃ E' hl (by exact Nat.le_of_succ_le hC) hns hmx fun b o e => hk b o (up b o e).1 (up b o e).2
  · intro C i v s₃ m₃ E' hC hP hpv hns hmx hk htk
    obtain ⟨l, t, hl, rfl⟩ := itemAt hv hP
    rw [pV_S] at hpv
    rw [Heap.size_push] at hC
    refine wpAny_mono (helt C l t s₃ m₃ E' hl hpv (by exact Nat.le_of_succ_le hC) hns hmx fun b o e => hk b o (up b o e).1 (up b o e).2) (fun y s₄ hy => ?_) fun _ _ e => e
    obtain ⟨⟨u, rfl⟩, hk4⟩ := hy
    exact ⟨⟨l, t, u, rfl, rfl⟩, hk4⟩
  · intro D h' tk ys vs' hD hlD _ hlen' hP hF hnL hk
    have e := items_all hlen' hP
    subst e
    refine hQ D h' tk ys ?_ hlD (paired_texts (fun l t => pV_S pw l t) (fun l t y hy => ?_) hv hF) hnL fun b o hb e => hk b o hb (up b o e).1 (up b o e).2
    · cases q : s.heap.get? D with
      | none => rfl
      | some o => rw [(up D o q).2] at hD; cases hD
    · obtain ⟨l', t', u, e1, e2⟩ := hy
      have : S l = S l' := by injection e1
      rw [S_inj this]
      exact ⟨u, e2⟩
/-- [x for x in y if x in k], y a name that holds a text, k a written text -/
theorem signs {x y : Str} {p1 p2 p3 p4 p5 p6 : Pos} {k : Str} {kk : Nat} {scope : Scope} {cl : List (Str × Addr)} {pos : Pos} {l : List Nat} {t : Tok} {Q : Value → Shared → Prop}
    (hh : A.handled = none) (hek : env.scope.kind = .function) (hyk : env.kindOf y = some .local) (hn : s.heap.Ns env.locals m) (hm : m y = some (.str (S l) t)) (hl : l.length ≤ 1000)
    (hclos : closureFor scope env = pure cl) (hcell : ∀ z ∈ scope.names, z.2 ≠ .cell) (hkind : scope.kind = .function) (hnames : ∀ z ∈ scope.names, z.2 = .local → scope.names.lookup z.1 = some .local) (hx : scope.names.lookup x = some .local)
    (hQ : ∀ D h' tk ys, h'.IsList D ys → StrsAre ys.toList (((l.filter fun c => decide (c ∈ k.cps.toList)).map fun c => [c]).map S) → (∀ b o, s.heap.get? b = some o → h'.get? b = some o) → Q (.ref D) { s with heap := h', toks := tk })
    (hyd : (y == ("__debug__" : Str)) = false := by decide) (hxd : (x == ("__debug__" : Str)) = false := by decide) :
    wpAny (model prog w) A (eval (.ListComp (.Name x p1) [⟨.Name x p2, .Name y p3, [.Compare (.Name x p4) [.In] [.Constant (.str k) kk p5] p6], 0⟩] scope pos) env) Q E s := by
  have hSz : (S l).cps.size = l.length := by simp [S]
  refine wpAny_ListComp_free (pV fun z => decide (z.headD 0 ∈ k.cps.toList)) (fun v y => ∃ z t u, v = .str (S z) t ∧ y = .str (S z) u) hclos hcell hkind hnames hx (wpAny_Name (wpAny_loadName_local hek hyk hn hm ?_) hyd)
  refine wpAny_pyIter_str fun o St W hst => ?_
  have up : ∀ b o', s.heap.get? b = some o' → b ∉ [s.heap.objs.size] ∧ (s.heap.push o).get? b = some o' := fun b o' e => ⟨by
    rw [List.mem_singleton]; exact Nat.ne_of_lt (Heap.lt_size e), Heap.get?_push_of_some _ e⟩
  refine ⟨s.heap.objs.size, _, _, _, _, _, rfl, W A hh, by rw [hSz, sizeLine_eq]; omega, hst, ?_, ⟨?_, ?_⟩, ?_⟩
  · intro b hb
    rw [List.mem_singleton.mp hb]
    show _ < (s.heap.push _).objs.size
    rw [Heap.size_push]
    exact Nat.lt_succ_self _
  · intro C i v s₃ m₃ E' hC hP hns hmx hk htk
    obtain ⟨c, u, hc, rfl⟩ := hP
    refine wpAny_tests_one (wpAny_isTrue_Compare1 (wpAny_Name (wpAny_loadName_local (env := compEnvC scope cl C env) hkind (lookup_relabel_local hx) hns hmx (wpAny_Constant_str (P.in_str ?_))) hxd))
    rw [PySem.StrLaws.found_one]
    refine wpAny_truthy_bool ⟨?_, ⟨s₃.heap, _, rfl, fun _ _ e => e⟩⟩
    rfl
  · intro C i v s₃ m₃ E' hC hP hpv hns hmx hk htk
    obtain ⟨c, u, hc, rfl⟩ := hP
    refine wpAny_Name (wpAny_loadName_local (env := compEnvC scope cl C env) hkind (lookup_relabel_local hx) hns hmx ?_) hxd
    exact ⟨⟨[c], u, u, rfl, rfl⟩, ⟨s₃.heap, _, rfl, fun _ _ e => e⟩⟩
  · intro D h' tk ys vs' hD hlD _ hlen' hP hF hk
    refine hQ D h' tk ys hlD ?_ fun b o e => hk b o (up b o e).1 (up b o e).2
    have hv : StrsAre vs' ((l.map fun c => [c]).map S) := by
      clear hF hk hlD hD hQ
      have key : ∀ (l : List Nat) (vs : List Value), vs.length = l.length → (∀ (j : Nat) v, vs[j]? = some v → ∃ c u, l[j]? = some c ∧ v = .str ⟨#[c]⟩ u) → StrsAre vs ((l.map fun c => [c]).map S) := by
        intro l
        induction l with
        | nil =>
          intro vs h1 _
          rw [List.eq_nil_of_length_eq_zero h1]
          exact .nil
        | cons a r ih =>
          intro vs h1 h2
          cases vs with
          | nil => cases h1
          | cons v vs =>
            obtain ⟨c, u, e1, rfl⟩ := h2 0 v rfl
            cases e1
            exact .cons _ _ (ih vs (by simpa using h1) fun j v hj => h2 (j + 1) v hj)
      refine key l vs' (hlen'.trans hSz) fun j v hj => ?_
      obtain ⟨c, u, hc, e⟩ := hP j v hj
      exact ⟨c, u, by simpa [S] using hc, e⟩
    have := paired_texts (f := id) (pw := fun z => decide (z.headD 0 ∈ k.cps.toList)) (fun l t => pV_S _ l t) (fun l t y hy => by
      obtain ⟨l', t', u, e1, e2⟩ := hy
      have : S l = S l' := by injection e1
      rw [S_inj this]
      exact ⟨u, e2⟩) hv hF
    rw [List.map_id, List.filter_map] at this
    exact this
/-- the test «[..] != []» -/
theorem signsTest {x y : Str} {p1 p2 p3 p4 p5 p6 p7 p8 : Pos} {k : Str} {kk : Nat} {scope : Scope} {cl : List (Str × Addr)} {pos : Pos} {l : List Nat} {t : Tok} {Q : Bool → Shared → Prop} {whole : Sem Value}
    (hh : A.handled = none) (hu : A.units + 64 < cLine) (hek : env.scope.kind = .function) (hyk : env.kindOf y = some .local) (hn : s.heap.Ns env.locals m) (hm : m y = some (.str (S l) t)) (hl : l.length ≤ 1000)
    (hclos : closureFor scope env = pure cl) (hcell : ∀ z ∈ scope.names, z.2 ≠ .cell) (hkind : scope.kind = .function) (hnames : ∀ z ∈ scope.names, z.2 = .local → scope.names.lookup z.1 = some .local) (hx : scope.names.lookup x = some .local)
    (hk : ∀ c ∈ k.cps.toList, c < 128)
    (hQ : ∀ h' tk, (∀ b o, s.heap.get? b = some o → h'.get? b = some o) → Q (l.any fun c => decide (c ∈ k.cps.toList)) { s with heap := h', toks := tk })
    (hyd : (y == ("__debug__" : Str)) = false := by decide) (hxd : (x == ("__debug__" : Str)) = false := by decide) :
    wpAny (model prog w) A (PySem.isTrue (.Compare (.ListComp (.Name x p1) [⟨.Name x p2, .Name y p3, [.Compare (.Name x p4) [.In] [.Constant (.str k) kk p5] p6], 0⟩] scope pos) [.NotEq] [.List [] p7] p8) env whole) Q E s := by
  refine wpAny_isTrue_Compare1 (signs hh hek hyk hn hm hl hclos hcell hkind hnames hx (fun D h' tk ys hD hys kp => ?_) hyd hxd)
  refine wpAny_List (wpAny_pure ⟨Nat.zero_le _, ?_⟩)
  refine ne_texts (ls := (l.filter fun c => decide (c ∈ k.cps.toList)).map fun c => [c]) (ms := []) (xs := ys.toList) (ys := []) (hD.at fun o e => Heap.get?_push_of_some _ e) ⟨_, Heap.get?_push_size _ rfl, rfl, _, rfl⟩ hys .nil (fun z hz => ?_) (fun z hz => by cases hz) hu ?_
  · obtain ⟨c, hc, rfl⟩ := List.mem_map.mp hz
    have := hk c (of_decide_eq_true (List.mem_filter.mp hc).2)
    simp [okL, this]
  · refine wpAny_truthy_bool ?_
    have := hQ (h'.push { cls := .type "list", data := .seq ([] : List Value).toArray }) tk fun b o e => Heap.get?_push_of_some _ (kp b o e)
    have e : (l.any fun c => decide (c ∈ k.cps.toList)) = !decide (((l.filter fun c => decide (c ∈ k.cps.toList)).map fun c => [c]) = []) := by
      rw [Bool.eq_iff_iff]
      simp [List.filter_eq_nil_iff]
    rw [e] at this
    exact this
end
end
/-! ### Wor -/
section
theorem fill_wor (P : Params) : (PySem.Challenge.rw_mj0268_01 = PySem.Challenge.rw_mj0268_01 ∧ K0 P = K0 P) := by
  k_fill
  exact ⟨rfl, rfl⟩
theorem wor_call {prog : Program} {w : World} {lo : Program × List Str} {mg mb : Str → Option Value} {A : Around} {s : Shared} {a : Addr} {vs : List Value} {ns : List Int} {Q E : Value → Shared → Prop}
    (Z : Site w lo mg mb 6 40 A s) (hn : ns.length ≤ 50) (hL : s.heap.IsList a vs.toArray) (hv : IntsAre vs ns)
    (hq : ∀ b ys h' tk', (∀ b o, s.heap.get? b = some o → h'.get? b = some o) → s.heap.get? b = none → h'.IsList b ys.toArray → StrsAre ys ((wordsL ns).map S) → s.toks ≤ tk' → Q (.ref b) { s with heap := h', toks := tk' }) :
    wpAny (model prog w) A (call (.ref 778) [.ref a]) Q E s := by
  obtain ⟨hh, hdp, hun, X', T', C', M'⟩ := Z
  refine wpAny_with_toks (n := s.toks) (Nat.le_refl _) (wpAny_call ?_)
  refine enterP ⟨hh, by omega, by omega, X', T', C', M'⟩ (by k_is) (by k_is) (binds := [(Str.ofString "numbers", .ref a)]) (BindsTo.of_eq rfl) (locs rfl) rfl rfl rfl (by decide) ?_
  intro L' h₁ F' N'
  try dsimp only
  try k_fold
  repeat' (first | (k_unfold; (try dsimp only)) | (k_end; wrow_close) | (first | (with_reducible (k_here; (with_reducible show wpAny _ _ (setItem (Value.ref _) (Value.int (-1) _) _) _ _ _); refine lastSet (by k_asm) (by k_asm) (by assumption) ?_; intro h6 F6 N6; (try dsimp only))) | (with_reducible (k_here; (with_reducible show wpAny _ _ (subscriptTail _ _ (Value.ref _) (Value.int (-1) _)) _ _ _); refine lastGet (by k_asm) ?_)) | (with_reducible ((with_reducible show wpAny _ _ (call (Value.builtin "list.append") _) _ _ _); (k_here; (refine append_K (by k_asm) (by k_asm) (Upd.head (by assumption)) ?_ (by assumption)); intro h4 F4 N4; (try dsimp only)))) | walk1) | (dsimp only; (first | (with_reducible (k_here; (with_reducible show wpAny _ _ (setItem (Value.ref _) (Value.int (-1) _) _) _ _ _); refine lastSet (by k_asm) (by k_asm) (by assumption) ?_; intro h6 F6 N6; (try dsimp only))) | (with_reducible (k_here; (with_reducible show wpAny _ _ (subscriptTail _ _ (Value.ref _) (Value.int (-1) _)) _ _ _); refine lastGet (by k_asm) ?_)) | (with_reducible ((with_reducible show wpAny _ _ (call (Value.builtin "list.append") _) _ _ _); (k_here; (refine append_K (by k_asm) (by k_asm) (Upd.head (by assumption)) ?_ (by assumption)); intro h4 F4 N4; (try dsimp only)))) | walk1)) | (leave1; try dsimp only) | fail "no step")
  rename_i wd h2 l1 h3 F2 N2 tk2 hTk2
  refine iter_invN (ns := ns) (fun i m news => (∃ xv, m = mW wd a xv) ∧ ∃ us ws l t n, news = [(wd, W.listOf (us ++ [.str (S l) t]).toArray n)] ∧ StrsAre us (ws.map S) ∧ wordsL (ns.take i) = ws ++ [l] ∧ l.length ≤ i ∧ ws.length ≤ i) hh hL (by assumption) F2 N2 ⟨⟨none, ?_⟩, [], [], [], _, _, rfl, .nil, rfl, by simp, by simp⟩ ?_ ?_
  · funext y
    unfold mW
    by_cases e1 : y = Str.ofString "words"
    · subst e1; rfl
    · rw [if_neg e1, if_neg e1]
      by_cases e2 : y = Str.ofString "x"
      · subst e2; rfl
      · rw [if_neg e2]
  · rintro i n t m₁ news₁ h tk own hi hadr hoff ⟨⟨xv, rfl⟩, us, ws, l, t0, k, rfl, hys, hwl, hll, hwn⟩ F3 N3
    rw [List.cons_append, List.nil_append] at N3
    have ho : ∀ p ∈ own, p.1 ≠ wd := fun p hp => hoff p hp wd (.head _)
    have hin : i < ns.length := (List.getElem?_eq_some_iff.mp hi).1
    have hul : us.length = ws.length := by have := hys.length; rwa [List.length_map] at this
    have hsz : (us ++ [Value.str (S l) t0]).toArray.size ≤ sizeLine := by rw [sizeLine_eq]; simp; omega
    have hSl : (S l).length ≤ 60 := by rw [S_len]; omega
    have hw' : wordsL (ns.take (i + 1)) = stepW (ws ++ [l]) n := by
      unfold wordsL
      rw [List.take_add_one, hi, Option.toList_some, List.foldl_append]
      show stepW (wordsL (ns.take i)) n = _
      rw [hwl]
    try k_fold
    repeat' (first | (k_unfold; (try dsimp only)) | (k_end; wrow_close) | (first | (with_reducible (k_here; (with_reducible show wpAny _ _ (setItem (Value.ref _) (Value.int (-1) _) _) _ _ _); refine lastSet (by k_asm) (by k_asm) (by assumption) ?_; intro h6 F6 N6; (try dsimp only))) | (with_reducible (k_here; (with_reducible show wpAny _ _ (subscriptTail _ _ (Value.ref _) (Value.int (-1) _)) _ _ _); refine lastGet (by k_asm) ?_)) | (with_reducible ((with_reducible show wpAny _ _ (call (Value.builtin "list.append") _) _ _ _); (k_here; (refine append_K (by k_asm) (by k_asm) (Upd.head (by assumption)) ?_ (by assumption)); intro h4 F4 N4; (try dsimp only)))) | walk1) | (dsimp only; (first | (with_reducible (k_here; (with_reducible show wpAny _ _ (setItem (Value.ref _) (Value.int (-1) _) _) _ _ _); refine lastSet (by k_asm) (by k_asm) (by assumption) ?_; intro h6 F6 N6; (try dsimp only))) | (with_reducible (k_here; (with_reducible show wpAny _ _ (subscriptTail _ _ (Value.ref _) (Value.int (-1) _)) _ _ _); refine lastGet (by k_asm) ?_)) | (with_reducible ((with_reducible show wpAny _ _ (call (Value.builtin "list.append") _) _ _ _); (k_here; (refine append_K (by k_asm) (by k_asm) (Upd.head (by assumption)) ?_ (by assumption)); intro h4 F4 N4; (try dsimp only)))) | walk1)) | (leave1; try dsimp only) | fail "no step")
    · rename_i hz tk4 hTk4
      rw [show Str.ofString "" = S [] from rfl, List.push_toArray] at N4
      refine InvEndN.intro (nx := [(wd, W.listOf (us ++ [Value.str (S l) t0] ++ [Value.str (S []) tk4]).toArray (k + 1))]) F4 N4 ⟨⟨some (.int n t), mW_x _ _ _ _⟩, us ++ [.str (S l) t0], ws ++ [l], [], tk4, k + 1, rfl, ?_, ?_, by simp, ?_⟩ rfl (fun p hp => ?_) (fun p hp => .tail _ hp)
      · rw [List.map_append]; exact strsAre_snoc hys
      · rw [hw']; unfold stepW; rw [if_pos hz]
      · rw [List.length_append]; show ws.length + 1 ≤ i + 1; omega
      · rw [List.mem_singleton.mp hp]; exact .head _
    · rename_i hz tk4 hTk4 hE1 t4 k4 hE2
      clear hE1 hE2
      dsimp only
      obtain ⟨c, hc⟩ : ∃ c, sign n = c := ⟨_, rfl⟩
      refine strItemE (c := c) (menu_eq n) (menu_lo n hz) (menu_hi n) (menu_len n) hc ?_ sub_hs
      have hSg : (S [c]).length ≤ 1 := by rw [S_len]; exact Nat.le_refl _
      repeat' (first | (k_unfold; (try dsimp only)) | (k_end; wrow_close) | (first | (with_reducible (k_here; (with_reducible show wpAny _ _ (setItem (Value.ref _) (Value.int (-1) _) _) _ _ _); refine lastSet (by k_asm) (by k_asm) (by assumption) ?_; intro h6 F6 N6; (try dsimp only))) | (with_reducible (k_here; (with_reducible show wpAny _ _ (subscriptTail _ _ (Value.ref _) (Value.int (-1) _)) _ _ _); refine lastGet (by k_asm) ?_)) | (with_reducible ((with_reducible show wpAny _ _ (call (Value.builtin "list.append") _) _ _ _); (k_here; (refine append_K (by k_asm) (by k_asm) (Upd.head (by assumption)) ?_ (by assumption)); intro h4 F4 N4; (try dsimp only)))) | walk1) | (dsimp only; (first | (with_reducible (k_here; (with_reducible show wpAny _ _ (setItem (Value.ref _) (Value.int (-1) _) _) _ _ _); refine lastSet (by k_asm) (by k_asm) (by assumption) ?_; intro h6 F6 N6; (try dsimp only))) | (with_reducible (k_here; (with_reducible show wpAny _ _ (subscriptTail _ _ (Value.ref _) (Value.int (-1) _)) _ _ _); refine lastGet (by k_asm) ?_)) | (with_reducible ((with_reducible show wpAny _ _ (call (Value.builtin "list.append") _) _ _ _); (k_here; (refine append_K (by k_asm) (by k_asm) (Upd.head (by assumption)) ?_ (by assumption)); intro h4 F4 N4; (try dsimp only)))) | walk1)) | (leave1; try dsimp only) | fail "no step")
      rename_i t6 k6 _
      rw [S_cat] at N6
      refine InvEndN.intro (nx := [(wd, W.listOf (us ++ [Value.str (S (l ++ [c])) t6]).toArray k)]) F6 N6 ⟨⟨some (.int n t), mW_x _ _ _ _⟩, us, ws, l ++ [c], t6, k, rfl, hys, ?_, ?_, ?_⟩ rfl (fun p hp => ?_) (fun p hp => .tail _ hp)
      · rw [hw']; unfold stepW; rw [if_neg hz, List.dropLast_concat, List.getLast?_concat, Option.getD_some, hc]
      · rw [List.length_append]; show l.length + 1 ≤ i + 1; omega
      · omega
      · rw [List.mem_singleton.mp hp]; exact .head _
  · rintro m₁ news₁ h tk ⟨⟨xv, rfl⟩, us, ws, l, t0, k, rfl, hys, hwl, hll, hwn⟩ F3 N3
    rw [List.take_length] at hwl
    repeat' (first | (k_unfold; (try dsimp only)) | (k_end; wrow_close) | (first | (with_reducible (k_here; (with_reducible show wpAny _ _ (setItem (Value.ref _) (Value.int (-1) _) _) _ _ _); refine lastSet (by k_asm) (by k_asm) (by assumption) ?_; intro h6 F6 N6; (try dsimp only))) | (with_reducible (k_here; (with_reducible show wpAny _ _ (subscriptTail _ _ (Value.ref _) (Value.int (-1) _)) _ _ _); refine lastGet (by k_asm) ?_)) | (with_reducible ((with_reducible show wpAny _ _ (call (Value.builtin "list.append") _) _ _ _); (k_here; (refine append_K (by k_asm) (by k_asm) (Upd.head (by assumption)) ?_ (by assumption)); intro h4 F4 N4; (try dsimp only)))) | walk1) | (dsimp only; (first | (with_reducible (k_here; (with_reducible show wpAny _ _ (setItem (Value.ref _) (Value.int (-1) _) _) _ _ _); refine lastSet (by k_asm) (by k_asm) (by assumption) ?_; intro h6 F6 N6; (try dsimp only))) | (with_reducible (k_here; (with_reducible show wpAny _ _ (subscriptTail _ _ (Value.ref _) (Value.int (-1) _)) _ _ _); refine lastGet (by k_asm) ?_)) | (with_reducible ((with_reducible show wpAny _ _ (call (Value.builtin "list.append") _) _ _ _); (k_here; (refine append_K (by k_asm) (by k_asm) (Upd.head (by assumption)) ?_ (by assumption)); intro h4 F4 N4; (try dsimp only)))) | walk1)) | (leave1; try dsimp only) | fail "no step")
    exact hq wd (us ++ [.str (S l) t0]) h tk F3.keep (N3 _ (.head _)).2.2 (PySem.IsL.isList (n := k) (N3 _ (.head _)).1) (by rw [hwl, List.map_append]; exact strsAre_snoc hys) (by assumption)
end
/-! ### Esc -/
section
theorem fill_it (P : Params) : (PySem.Challenge.rw_mj0268_01 = PySem.Challenge.rw_mj0268_01 ∧ K0 P = K0 P) := by
  k_fill
  exact ⟨rfl, rfl⟩
def ends (l : List Nat) : List Nat := rep [13] [10] 0 (rep [13, 10] [10] 0 l)
def escL (l : List Nat) : List Nat := rep [62] [38, 103, 116, 59] 0 (rep [60] [38, 108, 116, 59] 0 (rep [38] [38, 97, 109, 112, 59] 0 (ends l)))
theorem esc_call {prog : Program} {w : World} {lo : Program × List Str} {mg mb : Str → Option Value} {A : Around} {s : Shared} {l : List Nat} {tk : Tok} {Q E : Value → Shared → Prop}
    (Z : Site w lo mg mb 2 8 A s) (hl : l.length ≤ 1000)
    (hno : l.any hit1 = false)
    (hq : ∀ h' t tk', (∀ b o, s.heap.get? b = some o → h'.get? b = some o) → s.toks ≤ tk' → Q (.str (S (escL l)) t) { s with heap := h', toks := tk' }) :
    wpAny (model prog w) A (call (.ref 56) [.str (S l) tk]) Q E s := by
  have hno' : Ended (Sre.forSearch code1 (S l).cps 0 0 (S l).cps.size false) false := by
    have := search1 (S l).cps
    rwa [show (S l).cps.any hit1 = false from by simpa [S] using hno] at this
  have hs : (S l).cps.size < 2 ^ 62 := by simp [S]; omega
  obtain ⟨hh, hdp, hun, X', T', C', M'⟩ := Z
  refine wpAny_with_toks (n := s.toks) (Nat.le_refl _) (wpAny_call ?_)
  refine enterP ⟨hh, by omega, by omega, X', T', C', M'⟩ (by k_is) (by k_is) (binds := [(Str.ofString "text", .str (S l) tk)]) (BindsTo.of_eq rfl) (locs rfl) rfl rfl rfl (by decide) ?_
  intro L' h₁ F' N'
  try dsimp only
  try k_fold
  k_with "size" => assumption
  repeat' (first | (k_unfold; (try dsimp only)) | (k_end; wrow_close) | (first | (with_reducible ((with_reducible show wpAny _ _ (call (Value.builtin _) _) _ _ _); (k_here; (show wpAny _ _ (call (Value.builtin "re.Pattern.search") [Value.ref 49, Value.str _ _]) _ _ _); refine search_none (pat1 (Frag.In.keeps (by k_asm) (Fr.keep (by k_asm)))) (by k_extra "size") (by assumption) ?_))) | (with_reducible (k_here; (with_reducible show wpAny _ _ (getMethod (Value.ref 49) _ _) _ _ _); refine pat_method (pat1 (Frag.In.keeps (by k_asm) (Fr.keep (by k_asm)))) ?_)) | walk1) | (dsimp only; (first | (with_reducible ((with_reducible show wpAny _ _ (call (Value.builtin _) _) _ _ _); (k_here; (show wpAny _ _ (call (Value.builtin "re.Pattern.search") [Value.ref 49, Value.str _ _]) _ _ _); refine search_none (pat1 (Frag.In.keeps (by k_asm) (Fr.keep (by k_asm)))) (by k_extra "size") (by assumption) ?_))) | (with_reducible (k_here; (with_reducible show wpAny _ _ (getMethod (Value.ref 49) _ _) _ _ _); refine pat_method (pat1 (Frag.In.keeps (by k_asm) (Fr.keep (by k_asm)))) ?_)) | walk1)) | (leave1; try dsimp only) | fail "no step")
  refine replS 1000 1 2000 hl (by omega) (by omega) (by omega) (hq := ?_)
  intro t1 k1 l1 q1
  repeat' (first | (k_unfold; (try dsimp only)) | (k_end; wrow_close) | (first | (with_reducible ((with_reducible show wpAny _ _ (call (Value.builtin _) _) _ _ _); (k_here; (show wpAny _ _ (call (Value.builtin "re.Pattern.search") [Value.ref 49, Value.str _ _]) _ _ _); refine search_none (pat1 (Frag.In.keeps (by k_asm) (Fr.keep (by k_asm)))) (by k_extra "size") (by assumption) ?_))) | (with_reducible (k_here; (with_reducible show wpAny _ _ (getMethod (Value.ref 49) _ _) _ _ _); refine pat_method (pat1 (Frag.In.keeps (by k_asm) (Fr.keep (by k_asm)))) ?_)) | walk1) | (dsimp only; (first | (with_reducible ((with_reducible show wpAny _ _ (call (Value.builtin _) _) _ _ _); (k_here; (show wpAny _ _ (call (Value.builtin "re.Pattern.search") [Value.ref 49, Value.str _ _]) _ _ _); refine search_none (pat1 (Frag.In.keeps (by k_asm) (Fr.keep (by k_asm)))) (by k_extra "size") (by assumption) ?_))) | (with_reducible (k_here; (with_reducible show wpAny _ _ (getMethod (Value.ref 49) _ _) _ _ _); refine pat_method (pat1 (Frag.In.keeps (by k_asm) (Fr.keep (by k_asm)))) ?_)) | walk1)) | (leave1; try dsimp only) | fail "no step")
  refine replS 2000 1 4000 l1 (by omega) (by omega) (by omega) (hq := ?_)
  intro t2 k2 l2 q2
  repeat' (first | (k_unfold; (try dsimp only)) | (k_end; wrow_close) | (first | (with_reducible ((with_reducible show wpAny _ _ (call (Value.builtin _) _) _ _ _); (k_here; (show wpAny _ _ (call (Value.builtin "re.Pattern.search") [Value.ref 49, Value.str _ _]) _ _ _); refine search_none (pat1 (Frag.In.keeps (by k_asm) (Fr.keep (by k_asm)))) (by k_extra "size") (by assumption) ?_))) | (with_reducible (k_here; (with_reducible show wpAny _ _ (getMethod (Value.ref 49) _ _) _ _ _); refine pat_method (pat1 (Frag.In.keeps (by k_asm) (Fr.keep (by k_asm)))) ?_)) | walk1) | (dsimp only; (first | (with_reducible ((with_reducible show wpAny _ _ (call (Value.builtin _) _) _ _ _); (k_here; (show wpAny _ _ (call (Value.builtin "re.Pattern.search") [Value.ref 49, Value.str _ _]) _ _ _); refine search_none (pat1 (Frag.In.keeps (by k_asm) (Fr.keep (by k_asm)))) (by k_extra "size") (by assumption) ?_))) | (with_reducible (k_here; (with_reducible show wpAny _ _ (getMethod (Value.ref 49) _ _) _ _ _); refine pat_method (pat1 (Frag.In.keeps (by k_asm) (Fr.keep (by k_asm)))) ?_)) | walk1)) | (leave1; try dsimp only) | fail "no step")
  refine replS 4000 5 24000 l2 (by omega) (by omega) (by omega) (hq := ?_)
  intro t3 k3 l3 q3
  repeat' (first | (k_unfold; (try dsimp only)) | (k_end; wrow_close) | (first | (with_reducible ((with_reducible show wpAny _ _ (call (Value.builtin _) _) _ _ _); (k_here; (show wpAny _ _ (call (Value.builtin "re.Pattern.search") [Value.ref 49, Value.str _ _]) _ _ _); refine search_none (pat1 (Frag.In.keeps (by k_asm) (Fr.keep (by k_asm)))) (by k_extra "size") (by assumption) ?_))) | (with_reducible (k_here; (with_reducible show wpAny _ _ (getMethod (Value.ref 49) _ _) _ _ _); refine pat_method (pat1 (Frag.In.keeps (by k_asm) (Fr.keep (by k_asm)))) ?_)) | walk1) | (dsimp only; (first | (with_reducible ((with_reducible show wpAny _ _ (call (Value.builtin _) _) _ _ _); (k_here; (show wpAny _ _ (call (Value.builtin "re.Pattern.search") [Value.ref 49, Value.str _ _]) _ _ _); refine search_none (pat1 (Frag.In.keeps (by k_asm) (Fr.keep (by k_asm)))) (by k_extra "size") (by assumption) ?_))) | (with_reducible (k_here; (with_reducible show wpAny _ _ (getMethod (Value.ref 49) _ _) _ _ _); refine pat_method (pat1 (Frag.In.keeps (by k_asm) (Fr.keep (by k_asm)))) ?_)) | walk1)) | (leave1; try dsimp only) | fail "no step")
  refine replS 24000 4 120000 l3 (by omega) (by omega) (by omega) (hq := ?_)
  intro t4 k4 l4 q4
  repeat' (first | (k_unfold; (try dsimp only)) | (k_end; wrow_close) | (first | (with_reducible ((with_reducible show wpAny _ _ (call (Value.builtin _) _) _ _ _); (k_here; (show wpAny _ _ (call (Value.builtin "re.Pattern.search") [Value.ref 49, Value.str _ _]) _ _ _); refine search_none (pat1 (Frag.In.keeps (by k_asm) (Fr.keep (by k_asm)))) (by k_extra "size") (by assumption) ?_))) | (with_reducible (k_here; (with_reducible show wpAny _ _ (getMethod (Value.ref 49) _ _) _ _ _); refine pat_method (pat1 (Frag.In.keeps (by k_asm) (Fr.keep (by k_asm)))) ?_)) | walk1) | (dsimp only; (first | (with_reducible ((with_reducible show wpAny _ _ (call (Value.builtin _) _) _ _ _); (k_here; (show wpAny _ _ (call (Value.builtin "re.Pattern.search") [Value.ref 49, Value.str _ _]) _ _ _); refine search_none (pat1 (Frag.In.keeps (by k_asm) (Fr.keep (by k_asm)))) (by k_extra "size") (by assumption) ?_))) | (with_reducible (k_here; (with_reducible show wpAny _ _ (getMethod (Value.ref 49) _ _) _ _ _); refine pat_method (pat1 (Frag.In.keeps (by k_asm) (Fr.keep (by k_asm)))) ?_)) | walk1)) | (leave1; try dsimp only) | fail "no step")
  refine replS 120000 4 600000 l4 (by omega) (by omega) (by omega) (hq := ?_)
  intro t5 k5 l5 q5
  repeat' (first | (k_unfold; (try dsimp only)) | (k_end; wrow_close) | (first | (with_reducible ((with_reducible show wpAny _ _ (call (Value.builtin _) _) _ _ _); (k_here; (show wpAny _ _ (call (Value.builtin "re.Pattern.search") [Value.ref 49, Value.str _ _]) _ _ _); refine search_none (pat1 (Frag.In.keeps (by k_asm) (Fr.keep (by k_asm)))) (by k_extra "size") (by assumption) ?_))) | (with_reducible (k_here; (with_reducible show wpAny _ _ (getMethod (Value.ref 49) _ _) _ _ _); refine pat_method (pat1 (Frag.In.keeps (by k_asm) (Fr.keep (by k_asm)))) ?_)) | walk1) | (dsimp only; (first | (with_reducible ((with_reducible show wpAny _ _ (call (Value.builtin _) _) _ _ _); (k_here; (show wpAny _ _ (call (Value.builtin "re.Pattern.search") [Value.ref 49, Value.str _ _]) _ _ _); refine search_none (pat1 (Frag.In.keeps (by k_asm) (Fr.keep (by k_asm)))) (by k_extra "size") (by assumption) ?_))) | (with_reducible (k_here; (with_reducible show wpAny _ _ (getMethod (Value.ref 49) _ _) _ _ _); refine pat_method (pat1 (Frag.In.keeps (by k_asm) (Fr.keep (by k_asm)))) ?_)) | walk1)) | (leave1; try dsimp only) | fail "no step")
  exact hq _ _ _ (Fr.keep (by assumption)) (by assumption)
end
/-! ### Ref -/
section
theorem fill_ref (P : Params) : (PySem.Challenge.rw_mj0268_01 = PySem.Challenge.rw_mj0268_01 ∧ K0 P = K0 P) := by
  k_fill
  exact ⟨rfl, rfl⟩
theorem ref_no {prog : Program} {w : World} {lo : Program × List Str} {mg mb : Str → Option Value} {A : Around} {s : Shared} {l : List Nat} {tk : Tok} {Q E : Value → Shared → Prop}
    (Z : Site w lo mg mb 4 20 A s) (hl : l.length ≤ 1000) (hno : l.any hit1 = false)
    (hq : ∀ h' tk', (∀ b o, s.heap.get? b = some o → h'.get? b = some o) → s.toks ≤ tk' → Q (.bool false) { s with heap := h', toks := tk' }) :
    wpAny (model prog w) A (call (.ref 804) [.str (S l) tk]) Q E s := by
  obtain ⟨hh, hdp, hun, X', T', C', M'⟩ := Z
  refine wpAny_with_toks (n := s.toks) (Nat.le_refl _) (wpAny_call ?_)
  refine enterP ⟨hh, by omega, by omega, X', T', C', M'⟩ (by k_is) (by k_is) (binds := [(Str.ofString "text", .str (S l) tk)]) (BindsTo.of_eq rfl) (locs rfl) rfl rfl rfl (by decide) ?_
  intro L' h₁ F' N'
  try dsimp only
  try k_fold
  k_steps
  try dsimp only
  refine esc_call (Site.within hh (by omega) (by omega) X' T' (let ⟨ps, a, b⟩ := C'; ⟨ps, a.keeps F'.keep, b.keeps F'.keep⟩) M' F') hl hno ?_
  intro h2 t2 k2 kp _
  have F2 := Fr.grow F' kp
  have N2 := News.grow N' kp
  try dsimp only
  k_steps
  exact hq _ _ F2.keep (by assumption)
end
/-! ### Ref2 -/
section
/-- a ValueError that a callee raised, met by the frame's own except; the frames below may have changed their slots -/
theorem caughtR {prog : Program} {w : World} {A₀ : Around} {E : Value → Shared → Prop} {s' : Shared} {base g G : Heap} {outer : List Env} {L a e t : Addr} {m : Str → Option Value} {name : Str} {scope : Scope} {cd : Value}
    {vs : List Value} {b₀ : Stmt} {suite : List Stmt} {pos np : Pos} {rest : List ExceptHandler} {Q : Flow → Shared → Prop} {news : List (Addr × Obj)} {KF : Frag} {p : Program} {loose : List Str} {mg mb : Str → Option Value} {x : Str} {X T' : String}
    (R : RaisedS base G (envOf name scope L a cd :: outer) e (.type X) t vs news s'.heap) (F : Fr g L G m) (K : Below A₀ base outer g) (hsm : G.UpToSlots s'.heap) (XB : KF.In base) (TB : TopRead p loose mg mb base)
    (ex : nsIn KF mainGlobals x = some none) (hv : bootBuiltins x = some (.type T')) (hn' : x ≠ "__name__")
    (hexc : isSubtype (.type T') (.type "BaseException") = pure true) (hnt : isSubtype (.type ((Manifest.find? T').elim "type" fun y => y.metatype)) (.type "tuple") = pure false) (hsub : isSubtype (.type X) (.type T') = pure true)
    (k : ∀ h' g', KtsTurn (outer.filterMap (·.frame)) g g' → Fr g' L h' m → KF.In g' → TopRead p loose mg mb g' →
      wpAny (model prog w) ((A₀.deeper (envOf name scope L a cd)).mark (some (.ref e))) (execs (b₀ :: suite) (envOf name scope L a cd)) Q E { s' with heap := h' })
    (hk : scope.kind = .function) (hx : (envOf name scope L a cd).kindOf x = some .globalImplicit) (hd : (x == ("__debug__" : Str)) = false)
    (hE : PassesOwnAt (model prog w) ((A₀.deeper (envOf name scope L a cd)).mark (some (.ref e))) (A₀.deeper (envOf name scope L a cd)) (envOf name scope L a cd) E) :
    wpAny (model prog w) (A₀.deeper (envOf name scope L a cd)) (noteFrame (.ref e) (envOf name scope L a cd))
      (fun _ s₂ => wpAny (model prog w) (A₀.deeper (envOf name scope L a cd)) (setFlight (.ref e) none) (fun _ s₃ =>
        wpAny (model prog w) (A₀.deeper (envOf name scope L a cd)) (handleBy (.ref e) (envOf name scope L a cd) (.ExceptHandler (some (.Name x np)) none (b₀ :: suite) pos :: rest)) Q E s₃) E s₂) E s' := by
  obtain ⟨⟨B, hB, hBG, _, hfl, _⟩, _⟩ := R
  refine wpAny_looks_onW (Around.frames_deeper K.stack) rfl hfl fun h1 x1 u1 => wpAny_landsW x1 fun h2 x2 u2 => ?_
  have u12 := hsm.trans (u1.trans u2)
  obtain ⟨g2, _, F2, K2⟩ := kts_ground K F hBG x2.1 u12
  obtain ⟨ob, hob, hobc⟩ := x2.there
  refine wpAny_handleBy_builtin (X := X) (T := T') (b := true) hexc hnt hsub (name_B F2 (XB.keeps K2.stays) (TB.keeps K2.stays) ex hv hn' ⟨rfl, ⟨ob, hob, hobc⟩, ?_⟩ hk hx hd)
  refine lands_againW x2 fun h3 x3 u3 => ?_
  obtain ⟨g3, T3, F3, K3⟩ := kts_ground K F hBG x3.1 (u12.trans u3)
  exact wpAny_passesOwnAt hE (k h3 g3 T3 F3 (XB.keeps K3.stays) (TB.keeps K3.stays))
theorem fill_ref2 (P : Params) : (PySem.Challenge.rw_mj0268_01 = PySem.Challenge.rw_mj0268_01 ∧ K0 P = K0 P) := by
  k_fill
  exact ⟨rfl, rfl⟩
theorem ref_yes {prog : Program} {w : World} {lo : Program × List Str} {mg mb : Str → Option Value} {A : Around} {s : Shared} {l : List Nat} {tk : Tok} {Q E : Value → Shared → Prop} {base : Heap} {outer : List Env}
    (Z : Site w lo mg mb 4 20 A s) (hl : l.length ≤ 1000) (hno : l.any hit1 = true) (K : Below A base outer s.heap) (XB : (K0 w.params).In base) (TB : TopRead lo.1 lo.2 mg mb base)
    (hq : ∀ h' g' tk', KtsTurn (outer.filterMap (·.frame)) s.heap g' → (∀ b o, g'.get? b = some o → h'.get? b = some o) → s.toks ≤ tk' → Q (.bool true) { s with heap := h', toks := tk' }) :
    wpAny (model prog w) A (call (.ref 804) [.str (S l) tk]) Q E s := by
  have he : Ended (Sre.forSearch code1 (S l).cps 0 0 (S l).cps.size false) true := by
    have := search1 (S l).cps
    rwa [show (S l).cps.any hit1 = true from by simpa [S] using hno] at this
  have hs : (S l).cps.size < 2 ^ 62 := by simp [S]; omega
  obtain ⟨hh, hdp, hun, X', T', C', M'⟩ := Z
  refine wpAny_with_toks (n := s.toks) (Nat.le_refl _) (wpAny_call ?_)
  refine enterP ⟨hh, by omega, by omega, X', T', C', M'⟩ (by k_is) (by k_is) (binds := [(Str.ofString "text", .str (S l) tk)]) (BindsTo.of_eq rfl) (locs rfl) rfl rfl rfl (by decide) ?_
  intro L' h₁ F' N'
  try dsimp only
  try k_fold
  repeat' (first | (k_unfold; (try dsimp only)) | (k_end; wrow_close) | (first | (with_reducible ((with_reducible show wpAny _ _ (call (Value.builtin _) _) _ _ _); (k_here; (show wpAny _ _ (call (Value.builtin "re.Pattern.search") [Value.ref 49, Value.str _ _]) _ _ _); refine search_some (pat1 (Frag.In.keeps (by k_asm) (Fr.keep (by k_asm)))) (by assumption) (by assumption) ?_; intro ma mh mk; (have FEz := Fr.grow (by with_reducible assumption) mk); (have NEz := News.grow (by with_reducible assumption) mk); (try dsimp only)))) | (with_reducible (k_here; (with_reducible show wpAny _ _ (getMethod (Value.ref 49) _ _) _ _ _); refine pat_method (pat1 (Frag.In.keeps (by k_asm) (Fr.keep (by k_asm)))) ?_)) | walk1) | (dsimp only; (first | (with_reducible ((with_reducible show wpAny _ _ (call (Value.builtin _) _) _ _ _); (k_here; (show wpAny _ _ (call (Value.builtin "re.Pattern.search") [Value.ref 49, Value.str _ _]) _ _ _); refine search_some (pat1 (Frag.In.keeps (by k_asm) (Fr.keep (by k_asm)))) (by assumption) (by assumption) ?_; intro ma mh mk; (have FEz := Fr.grow (by with_reducible assumption) mk); (have NEz := News.grow (by with_reducible assumption) mk); (try dsimp only)))) | (with_reducible (k_here; (with_reducible show wpAny _ _ (getMethod (Value.ref 49) _ _) _ _ _); refine pat_method (pat1 (Frag.In.keeps (by k_asm) (Fr.keep (by k_asm)))) ?_)) | walk1)) | (leave1; try dsimp only) | fail "no step")
  try dsimp only
  refine wpAny_call ?_
  refine enterP (Site.within hh (by omega) (by omega) X' T' (let ⟨ps, a, b⟩ := C'; ⟨ps, a.keeps F'.keep, b.keeps F'.keep⟩) M' F') (by k_is) (by k_is) (binds := [(Str.ofString "text", .str (S l) tk)]) (BindsTo.of_eq rfl) (locs rfl) rfl rfl rfl (by decide) ?_
  intro L2 h2 F2 N2
  have X2 := X'.keeps F'.keep
  have T2 := T'.keeps F'.keep
  try dsimp only
  try k_fold
  repeat' (first | (k_unfold; (try dsimp only)) | (k_end; wrow_close) | (first | (with_reducible ((with_reducible show wpAny _ _ (call (Value.builtin _) _) _ _ _); (k_here; (show wpAny _ _ (call (Value.builtin "re.Pattern.search") [Value.ref 49, Value.str _ _]) _ _ _); refine search_some (pat1 (Frag.In.keeps (by k_asm) (Fr.keep (by k_asm)))) (by assumption) (by assumption) ?_; intro ma mh mk; (have FEz := Fr.grow (by with_reducible assumption) mk); (have NEz := News.grow (by with_reducible assumption) mk); (try dsimp only)))) | (with_reducible (k_here; (with_reducible show wpAny _ _ (getMethod (Value.ref 49) _ _) _ _ _); refine pat_method (pat1 (Frag.In.keeps (by k_asm) (Fr.keep (by k_asm)))) ?_)) | walk1) | (dsimp only; (first | (with_reducible ((with_reducible show wpAny _ _ (call (Value.builtin _) _) _ _ _); (k_here; (show wpAny _ _ (call (Value.builtin "re.Pattern.search") [Value.ref 49, Value.str _ _]) _ _ _); refine search_some (pat1 (Frag.In.keeps (by k_asm) (Fr.keep (by k_asm)))) (by assumption) (by assumption) ?_; intro ma mh mk; (have FEz := Fr.grow (by with_reducible assumption) mk); (have NEz := News.grow (by with_reducible assumption) mk); (try dsimp only)))) | (with_reducible (k_here; (with_reducible show wpAny _ _ (getMethod (Value.ref 49) _ _) _ _ _); refine pat_method (pat1 (Frag.In.keeps (by k_asm) (Fr.keep (by k_asm)))) ?_)) | walk1)) | (leave1; try dsimp only) | fail "no step")
  (rename Fr _ _ _ _ => F3); (rename News _ _ _ _ => N3)
  dsimp only at F3 N3 ⊢
  refine Raise_madeB PySem.F.excCall_ValueError PySem.F.excRaise_ValueError hh (name_B F3 X2 T2 (by k_is) PyProof.Rows.Boot.«ValueError» (by decide) ⟨rfl, ?_⟩)
  repeat' (first | (k_unfold; (try dsimp only)) | (k_end; wrow_close) | (first | (with_reducible ((with_reducible show wpAny _ _ (call (Value.builtin _) _) _ _ _); (k_here; (show wpAny _ _ (call (Value.builtin "re.Pattern.search") [Value.ref 49, Value.str _ _]) _ _ _); refine search_some (pat1 (Frag.In.keeps (by k_asm) (Fr.keep (by k_asm)))) (by assumption) (by assumption) ?_; intro ma mh mk; (have FEz := Fr.grow (by with_reducible assumption) mk); (have NEz := News.grow (by with_reducible assumption) mk); (try dsimp only)))) | (with_reducible (k_here; (with_reducible show wpAny _ _ (getMethod (Value.ref 49) _ _) _ _ _); refine pat_method (pat1 (Frag.In.keeps (by k_asm) (Fr.keep (by k_asm)))) ?_)) | walk1) | (dsimp only; (first | (with_reducible ((with_reducible show wpAny _ _ (call (Value.builtin _) _) _ _ _); (k_here; (show wpAny _ _ (call (Value.builtin "re.Pattern.search") [Value.ref 49, Value.str _ _]) _ _ _); refine search_some (pat1 (Frag.In.keeps (by k_asm) (Fr.keep (by k_asm)))) (by assumption) (by assumption) ?_; intro ma mh mk; (have FEz := Fr.grow (by with_reducible assumption) mk); (have NEz := News.grow (by with_reducible assumption) mk); (try dsimp only)))) | (with_reducible (k_here; (with_reducible show wpAny _ _ (getMethod (Value.ref 49) _ _) _ _ _); refine pat_method (pat1 (Frag.In.keeps (by k_asm) (Fr.keep (by k_asm)))) ?_)) | walk1)) | (leave1; try dsimp only) | fail "no step")
  rename_i h4 e hx
  try dsimp only at hx ⊢
  refine leave_raiseS (K.push F' rfl) hx.of F3 N3 ?_
  intro h5 t5 R5 _ U5
  dsimp only
  refine caughtR R5 F' K U5 XB TB (by k_is) PyProof.Rows.Boot.«ValueError» (by decide) PySem.F.isExc_ValueError PySem.F.notTuple_ValueError (isSubtype_of_subB (by decide +kernel)) ?_ rfl rfl (by decide) (by passes_own)
  intro h6 g6 T6 F6 X6 P6
  dsimp only
  repeat' (first | (k_unfold; (try dsimp only)) | (k_end; wrow_close) | (first | (with_reducible ((with_reducible show wpAny _ _ (call (Value.builtin _) _) _ _ _); (k_here; (show wpAny _ _ (call (Value.builtin "re.Pattern.search") [Value.ref 49, Value.str _ _]) _ _ _); refine search_some (pat1 (Frag.In.keeps (by k_asm) (Fr.keep (by k_asm)))) (by assumption) (by assumption) ?_; intro ma mh mk; (have FEz := Fr.grow (by with_reducible assumption) mk); (have NEz := News.grow (by with_reducible assumption) mk); (try dsimp only)))) | (with_reducible (k_here; (with_reducible show wpAny _ _ (getMethod (Value.ref 49) _ _) _ _ _); refine pat_method (pat1 (Frag.In.keeps (by k_asm) (Fr.keep (by k_asm)))) ?_)) | walk1) | (dsimp only; (first | (with_reducible ((with_reducible show wpAny _ _ (call (Value.builtin _) _) _ _ _); (k_here; (show wpAny _ _ (call (Value.builtin "re.Pattern.search") [Value.ref 49, Value.str _ _]) _ _ _); refine search_some (pat1 (Frag.In.keeps (by k_asm) (Fr.keep (by k_asm)))) (by assumption) (by assumption) ?_; intro ma mh mk; (have FEz := Fr.grow (by with_reducible assumption) mk); (have NEz := News.grow (by with_reducible assumption) mk); (try dsimp only)))) | (with_reducible (k_here; (with_reducible show wpAny _ _ (getMethod (Value.ref 49) _ _) _ _ _); refine pat_method (pat1 (Frag.In.keeps (by k_asm) (Fr.keep (by k_asm)))) ?_)) | walk1)) | (leave1; try dsimp only) | fail "no step")
  exact hq _ _ _ T6 F6.keep (by omega)
end
/-! ### Fee -/
section
theorem fill_fee (P : Params) : (PySem.Challenge.rw_mj0268_01 = PySem.Challenge.rw_mj0268_01 ∧ K0 P = K0 P) := by
  k_fill
  exact ⟨rfl, rfl⟩
theorem fee_call {prog : Program} {w : World} {lo : Program × List Str} {mg mb : Str → Option Value} {A : Around} {s : Shared} {l : List Nat} {tk : Tok} {Q E : Value → Shared → Prop}
    (Z : Site w lo mg mb 4 20 A s) (hl : l.length ≤ 1000) (ha : l.all (· < 128) = true)
    (hq : ∀ h' t tk', (∀ b o, s.heap.get? b = some o → h'.get? b = some o) → s.toks ≤ tk' → Q (.str (S (feedsL l)) t) { s with heap := h', toks := tk' }) :
    wpAny (model prog w) A (call (.ref 783) [.str (S l) tk]) Q E s := by
  obtain ⟨hh, hdp, hun, X', T', C', M'⟩ := Z
  have hSl : (S l).length ≤ 1000 := by rw [S_len]; exact hl
  refine wpAny_with_toks (n := s.toks) (Nat.le_refl _) (wpAny_call ?_)
  refine enterP ⟨hh, by omega, by omega, X', T', C', M'⟩ (by k_is) (by k_is) (binds := [(Str.ofString "text", .str (S l) tk)]) (BindsTo.of_eq rfl) (locs rfl) rfl rfl rfl (by decide) ?_
  intro L' h₁ F' N'
  try dsimp only
  try k_fold
  iterate 7 (first | walk1 | (dsimp only; walk1))
  try dsimp only
  have F1 := F'
  refine listComp (cl := []) (closureFor_none (by decide)) (by decide) rfl (by decide) ?_
  k_steps
  rename_i hTk1 _ _
  try dsimp only
  rw [show Str.ofString " " ++ S l = S (32 :: l) from S_cat [32] l]
  refine zipS_call (by simpa [S] using ha) (by simpa [S] using ha) fun h3 hz3 hs3 hk3 => ?_
  dsimp only at hz3 hs3 hk3 ⊢
  refine wpAny_pyIter_zip hz3.z ?_
  refine ⟨fun s' Q' E' hk' hQ' => wpAny_pyIter_zip (hk' _ _ hz3.z) hQ', ?_⟩
  intro D C h4 tk4 m4 hD hC hp4 hn4 hk4 htk4
  dsimp only at hD hk4 htk4 ⊢
  refine fee_loop hh hl rfl rfl rfl (fun s' m' c d t1 t2 Q E hn v1 v2 hq => pc_elt rfl rfl rfl hn v1 v2 hq) (hz3.at fun b o _ => hk4 b o) hp4 hn4 (by omega) hC ?_
  intro h5 tk5 m5 ys hn5 hl5 hys5 hk5 htk5
  refine ⟨m5, hn5, fun h6 hs6 => ?_⟩
  refine args_nil ?_
  have hl6 : h6.IsList D ys := hl5.extBut hs6.extBut (ne_ (by show D ≠ C; omega))
  have hlen : ys.toList.length ≤ 1000 := by
    have := hys5.length
    simp at this
    rw [Array.length_toList, this]; omega
  refine join_list (x := Str.ofString "") hl6 hys5 ?_ fun t7 k7 => ?_
  · refine Nat.le_trans (Nat.add_le_add (sumlen_le 1 _ fun x hx => ?_) (Nat.le_of_eq (by rw [show (Str.ofString "").length = 0 from rfl, Nat.mul_zero] : _ = 0))) ?_
    · obtain ⟨y, hy, rfl⟩ := List.mem_map.mp hx
      rw [S_len]
      obtain ⟨j, hj, rfl⟩ := List.getElem_of_mem hy
      rw [List.getElem_zipWith]
      exact pc_len _ _
    · simp; omega
  · have kk : ∀ b o, s.heap.get? b = some o → h6.get? b = some o := fun b o e => by
      have e1 := F'.keep b o e
      have lt : @LT.lt Nat _ b h₁.objs.size := Heap.lt_size e1
      exact hs6.extBut b o (show @Ne Nat b C by omega) (hk5 b o (fun q => by have := q.1; omega) (ne_ (by omega)) (show @Ne Nat b C by omega) (hk4 b o (hk3 b o e1)))
    have key := hq h6 t7 k7 kk
    rw [txt_join, join_nil, ← feedsF_zip]
    exact key
end
/-! ### Esd -/
section
theorem fill_esd (P : Params) : (PySem.Challenge.rw_mj0268_01 = PySem.Challenge.rw_mj0268_01 ∧ K0 P = K0 P) := by
  k_fill
  exact ⟨rfl, rfl⟩
theorem in_yes {prog : Program} {w : World} {A : Around} {E : Value → Shared → Prop} {s : Shared} {x : Str} {c : Nat} {t u : Tok} {Q : Value → Shared → Prop} (h : c ∈ x.cps.toList) (q : Q (.bool true) s) : wpAny (model prog w) A (compareOp .In (.str ⟨#[c]⟩ u) (.str x t)) Q E s :=
  P.in_str (by rw [PySem.StrLaws.found_one, decide_eq_true h]; exact q)
theorem in_no {prog : Program} {w : World} {A : Around} {E : Value → Shared → Prop} {s : Shared} {x : Str} {c : Nat} {t u : Tok} {Q : Value → Shared → Prop} (h : c ∉ x.cps.toList) (q : Q (.bool false) s) : wpAny (model prog w) A (compareOp .In (.str ⟨#[c]⟩ u) (.str x t)) Q E s :=
  P.in_str (by rw [PySem.StrLaws.found_one, decide_eq_false h]; exact q)
theorem feeds_len : ∀ (l : List Nat) (a : Nat), (feedsF a l).length ≤ l.length
  | [], _ => by simp [feedsF]
  | c :: r, a => by
    have := feeds_len r c
    show ((if c = 10 ∧ a = 13 then [] else if c = 13 then [10] else [c]) ++ feedsF c r).length ≤ _
    rw [List.length_append, List.length_cons]
    have : (if c = 10 ∧ a = 13 then ([] : List Nat) else if c = 13 then [10] else [c]).length ≤ 1 := by
      split
      · simp
      · split <;> simp
    omega
theorem feeds_all {p : Nat → Bool} (h10 : p 10 = true) : ∀ (l : List Nat) (a : Nat), l.all p = true → (feedsF a l).all p = true
  | [], _, _ => rfl
  | c :: r, a, h => by
    rw [List.all_cons, Bool.and_eq_true] at h
    have ih := feeds_all h10 r c h.2
    show ((if c = 10 ∧ a = 13 then [] else if c = 13 then [10] else [c]) ++ feedsF c r).all p = true
    rw [List.all_append, ih, Bool.and_true]
    split
    · rfl
    · split
      · simpa using h10
      · simpa using h.1
def mE (tv : Option Value) (sv : Option Value) (l : List Nat) (tk : Tok) : Str → Option Value := fun y => if y = Str.ofString "told" then tv else if y = Str.ofString "sign" then sv else List.lookup y [(Str.ofString "text", Value.str (S l) tk)].reverse
theorem mE_s (tv sv : Option Value) (l : List Nat) (tk : Tok) (v : Value) : (fun y => if y = Str.ofString "sign" then some v else mE tv sv l tk y) = mE tv (some v) l tk := by
  funext y
  unfold mE
  by_cases e1 : y = Str.ofString "sign"
  · subst e1; rfl
  · rw [if_neg e1, if_neg e1, if_neg e1]
theorem mE_t (tv sv : Option Value) (l : List Nat) (tk : Tok) (v : Value) : (fun y => if y = Str.ofString "told" then some v else mE tv sv l tk y) = mE (some v) sv l tk := by
  funext y
  unfold mE
  by_cases e1 : y = Str.ofString "told"
  · subst e1; rfl
  · rw [if_neg e1, if_neg e1, if_neg e1]
theorem e1_len (c : Nat) : (e1 c).length ≤ 5 := by
  unfold e1
  split
  · simp
  · split
    · simp
    · split <;> simp
theorem flat_len : ∀ l : List Nat, (l.flatMap e1).length ≤ 5 * l.length
  | [] => by simp
  | c :: r => by
    have := flat_len r
    have := e1_len c
    rw [List.flatMap_cons, List.length_append, List.length_cons]; omega
theorem esd_call {prog : Program} {w : World} {lo : Program × List Str} {mg mb : Str → Option Value} {A : Around} {s : Shared} {l : List Nat} {tk : Tok} {Q E : Value → Shared → Prop}
    (Z : Site w lo mg mb 6 40 A s) (hl : l.length ≤ 1000) (ha : l.all (· < 128) = true)
    (hq : ∀ h' t tk', (∀ b o, s.heap.get? b = some o → h'.get? b = some o) → s.toks ≤ tk' → Q (.str (S (escdL l)) t) { s with heap := h', toks := tk' }) :
    wpAny (model prog w) A (call (.ref 790) [.str (S l) tk]) Q E s := by
  obtain ⟨hh, hdp, hun, X', T', C', M'⟩ := Z
  refine wpAny_with_toks (n := s.toks) (Nat.le_refl _) (wpAny_call ?_)
  refine enterP ⟨hh, by omega, by omega, X', T', C', M'⟩ (by k_is) (by k_is) (binds := [(Str.ofString "text", .str (S l) tk)]) (BindsTo.of_eq rfl) (locs rfl) rfl rfl rfl (by decide) ?_
  intro L' h₁ F' N'
  try dsimp only
  try k_fold
  repeat' (first | (k_unfold; (try dsimp only)) | (k_end; wrow_close) | (first | (with_reducible ((with_reducible show wpAny _ _ (call (Value.builtin _) _) _ _ _); (k_here; first | refine SC.index (i := 0) (rest := []) (by decide +kernel) ?_ | refine SC.index (i := 1) (rest := []) (by decide +kernel) ?_ | refine SC.index (i := 2) (rest := []) (by decide +kernel) ?_))) | (with_reducible ((with_reducible show wpAny _ _ (compareOp _ (Value.str _ _) (Value.str _ _)) _ _ _); (k_here; first | refine in_yes (by decide) ?_ | refine in_no (by first | decide | assumption) ?_))) | walk1) | (dsimp only; (first | (with_reducible ((with_reducible show wpAny _ _ (call (Value.builtin _) _) _ _ _); (k_here; first | refine SC.index (i := 0) (rest := []) (by decide +kernel) ?_ | refine SC.index (i := 1) (rest := []) (by decide +kernel) ?_ | refine SC.index (i := 2) (rest := []) (by decide +kernel) ?_))) | (with_reducible ((with_reducible show wpAny _ _ (compareOp _ (Value.str _ _) (Value.str _ _)) _ _ _); (k_here; first | refine in_yes (by decide) ?_ | refine in_no (by first | decide | assumption) ?_))) | walk1)) | (leave1; try dsimp only) | fail "no step")
  rename_i h2 F2 N2 tk2 hTk2
  try dsimp only
  refine fee_call (Site.within hh (by omega) (by omega) X' T' (let ⟨ps, a, b⟩ := C'; ⟨ps, a.keeps F2.keep, b.keeps F2.keep⟩) M' F2) hl ha ?_
  intro h3 t3 k3 kp3 hk3
  have F3 := Fr.grow F2 kp3
  dsimp only at hk3 ⊢
  have lt3 : L' < h3.objs.size := F3.ns.lt
  have hfa : (feedsL l).all (· < 128) = true := feeds_all (by decide) l 32 ha
  have hfl : (feedsL l).length ≤ 1000 := Nat.le_trans (feeds_len l 32) hl
  generalize hF : feedsL l = fl at hfa hfl ⊢
  refine wpAny_pyIter_ascii (by simpa [S] using hfa) ?_
  dsimp only
  refine loopV (Walks.strAscii (A := A.deeper _) hh h3.objs.size (S fl) t3) (fun i m => ∃ t sv, m = mE (some (.str (S ((fl.take i).flatMap e1)) t)) sv l tk) ?_ (Fr.grow F3 fun b o e => Heap.get?_push_of_some _ e) ⟨s.toks + [(Str.ofString "text", Value.str (S l) tk)].length, none, ?_⟩ ?_ ?_ ?_ ?_
  · exact ⟨_, Heap.get?_push_size _ rfl, rfl, rfl⟩
  · funext y
    unfold mE
    by_cases e1 : y = Str.ofString "told"
    · subst e1; rfl
    · rw [if_neg e1, if_neg e1]
      by_cases e2 : y = Str.ofString "sign"
      · subst e2; rfl
      · rw [if_neg e2]
  · intro hm
    rw [List.mem_singleton] at hm
    exact Nat.lt_irrefl _ (hm ▸ lt3)
  · intro b hb
    rw [List.mem_singleton] at hb
    subst hb
    cases q : s.heap.get? h3.objs.size with
    | none => rfl
    | some o => exact absurd (Heap.lt_size (F3.keep _ _ q)) (Nat.lt_irrefl _)
  · rintro i v m₁ h tk4 own hi ⟨c, tc, hc, rfl⟩ ⟨t, sv, rfl⟩ F4 N4
    rw [mE_s] at F4
    have hi' : i < fl.length := by simpa [S] using hi
    have hc' : fl[i]? = some c := by simpa [S] using hc
    have hlen : (S ((fl.take i).flatMap e1)).length ≤ 5000 := by
      have := flat_len (fl.take i)
      rw [S_len]
      rw [List.length_take] at this
      omega
    have hnx : (fl.take (i + 1)).flatMap e1 = (fl.take i).flatMap e1 ++ e1 c := by
      rw [List.take_add_one, hc', List.flatMap_append]
      simp
    try k_fold
    by_cases h38 : c = 38
    · subst h38
      repeat' (first | (k_unfold; (try dsimp only)) | (k_end; wrow_close) | (first | (with_reducible ((with_reducible show wpAny _ _ (call (Value.builtin _) _) _ _ _); (k_here; first | refine SC.index (i := 0) (rest := []) (by decide +kernel) ?_ | refine SC.index (i := 1) (rest := []) (by decide +kernel) ?_ | refine SC.index (i := 2) (rest := []) (by decide +kernel) ?_))) | (with_reducible ((with_reducible show wpAny _ _ (compareOp _ (Value.str _ _) (Value.str _ _)) _ _ _); (k_here; first | refine in_yes (by decide) ?_ | refine in_no (by first | decide | assumption) ?_))) | walk1) | (dsimp only; (first | (with_reducible ((with_reducible show wpAny _ _ (call (Value.builtin _) _) _ _ _); (k_here; first | refine SC.index (i := 0) (rest := []) (by decide +kernel) ?_ | refine SC.index (i := 1) (rest := []) (by decide +kernel) ?_ | refine SC.index (i := 2) (rest := []) (by decide +kernel) ?_))) | (with_reducible ((with_reducible show wpAny _ _ (compareOp _ (Value.str _ _) (Value.str _ _)) _ _ _); (k_here; first | refine in_yes (by decide) ?_ | refine in_no (by first | decide | assumption) ?_))) | walk1)) | (leave1; try dsimp only) | fail "no step")
      rename_i h5 F5 N5
      rw [mE_t, show Str.ofString "&amp;" = S (e1 38) from rfl, S_cat, ← hnx] at F5
      exact ⟨.inl rfl, h5, _, _, rfl, F5, fun p hp => N5 p (.tail _ hp), _, _, rfl⟩
    by_cases h60 : c = 60
    · subst h60
      repeat' (first | (k_unfold; (try dsimp only)) | (k_end; wrow_close) | (first | (with_reducible ((with_reducible show wpAny _ _ (call (Value.builtin _) _) _ _ _); (k_here; first | refine SC.index (i := 0) (rest := []) (by decide +kernel) ?_ | refine SC.index (i := 1) (rest := []) (by decide +kernel) ?_ | refine SC.index (i := 2) (rest := []) (by decide +kernel) ?_))) | (with_reducible ((with_reducible show wpAny _ _ (compareOp _ (Value.str _ _) (Value.str _ _)) _ _ _); (k_here; first | refine in_yes (by decide) ?_ | refine in_no (by first | decide | assumption) ?_))) | walk1) | (dsimp only; (first | (with_reducible ((with_reducible show wpAny _ _ (call (Value.builtin _) _) _ _ _); (k_here; first | refine SC.index (i := 0) (rest := []) (by decide +kernel) ?_ | refine SC.index (i := 1) (rest := []) (by decide +kernel) ?_ | refine SC.index (i := 2) (rest := []) (by decide +kernel) ?_))) | (with_reducible ((with_reducible show wpAny _ _ (compareOp _ (Value.str _ _) (Value.str _ _)) _ _ _); (k_here; first | refine in_yes (by decide) ?_ | refine in_no (by first | decide | assumption) ?_))) | walk1)) | (leave1; try dsimp only) | fail "no step")
      rename_i h5 F5 N5
      rw [mE_t, show Str.ofString "&lt;" = S (e1 60) from rfl, S_cat, ← hnx] at F5
      exact ⟨.inl rfl, h5, _, _, rfl, F5, fun p hp => N5 p (.tail _ hp), _, _, rfl⟩
    by_cases h62 : c = 62
    · subst h62
      repeat' (first | (k_unfold; (try dsimp only)) | (k_end; wrow_close) | (first | (with_reducible ((with_reducible show wpAny _ _ (call (Value.builtin _) _) _ _ _); (k_here; first | refine SC.index (i := 0) (rest := []) (by decide +kernel) ?_ | refine SC.index (i := 1) (rest := []) (by decide +kernel) ?_ | refine SC.index (i := 2) (rest := []) (by decide +kernel) ?_))) | (with_reducible ((with_reducible show wpAny _ _ (compareOp _ (Value.str _ _) (Value.str _ _)) _ _ _); (k_here; first | refine in_yes (by decide) ?_ | refine in_no (by first | decide | assumption) ?_))) | walk1) | (dsimp only; (first | (with_reducible ((with_reducible show wpAny _ _ (call (Value.builtin _) _) _ _ _); (k_here; first | refine SC.index (i := 0) (rest := []) (by decide +kernel) ?_ | refine SC.index (i := 1) (rest := []) (by decide +kernel) ?_ | refine SC.index (i := 2) (rest := []) (by decide +kernel) ?_))) | (with_reducible ((with_reducible show wpAny _ _ (compareOp _ (Value.str _ _) (Value.str _ _)) _ _ _); (k_here; first | refine in_yes (by decide) ?_ | refine in_no (by first | decide | assumption) ?_))) | walk1)) | (leave1; try dsimp only) | fail "no step")
      rename_i h5 F5 N5
      rw [mE_t, show Str.ofString "&gt;" = S (e1 62) from rfl, S_cat, ← hnx] at F5
      exact ⟨.inl rfl, h5, _, _, rfl, F5, fun p hp => N5 p (.tail _ hp), _, _, rfl⟩
    have hno : c ∉ (Str.ofString "&<>").cps.toList := by
      show c ∉ [38, 60, 62]
      simp [h38, h60, h62]
    have hone : (⟨#[c]⟩ : Str).length ≤ 1 := Nat.le_refl _
    repeat' (first | (k_unfold; (try dsimp only)) | (k_end; wrow_close) | (first | (with_reducible ((with_reducible show wpAny _ _ (call (Value.builtin _) _) _ _ _); (k_here; first | refine SC.index (i := 0) (rest := []) (by decide +kernel) ?_ | refine SC.index (i := 1) (rest := []) (by decide +kernel) ?_ | refine SC.index (i := 2) (rest := []) (by decide +kernel) ?_))) | (with_reducible ((with_reducible show wpAny _ _ (compareOp _ (Value.str _ _) (Value.str _ _)) _ _ _); (k_here; first | refine in_yes (by decide) ?_ | refine in_no (by first | decide | assumption) ?_))) | walk1) | (dsimp only; (first | (with_reducible ((with_reducible show wpAny _ _ (call (Value.builtin _) _) _ _ _); (k_here; first | refine SC.index (i := 0) (rest := []) (by decide +kernel) ?_ | refine SC.index (i := 1) (rest := []) (by decide +kernel) ?_ | refine SC.index (i := 2) (rest := []) (by decide +kernel) ?_))) | (with_reducible ((with_reducible show wpAny _ _ (compareOp _ (Value.str _ _) (Value.str _ _)) _ _ _); (k_here; first | refine in_yes (by decide) ?_ | refine in_no (by first | decide | assumption) ?_))) | walk1)) | (leave1; try dsimp only) | fail "no step")
    rename_i h5 F5 N5
    have he : e1 c = [c] := by unfold e1; rw [if_neg h38, if_neg h60, if_neg h62]
    rw [mE_t, show (⟨#[c]⟩ : Str) = S (e1 c) from by rw [he]; rfl, S_cat, ← hnx] at F5
    exact ⟨.inl rfl, h5, _, _, rfl, F5, N5, _, _, rfl⟩
  · rintro h6 tk6 m6 ⟨t6, sv6, rfl⟩ F6
    rw [show (S fl).cps.size = fl.length from by simp [S], List.take_length] at F6
    repeat' (first | (k_unfold; (try dsimp only)) | (k_end; wrow_close) | (first | (with_reducible ((with_reducible show wpAny _ _ (call (Value.builtin _) _) _ _ _); (k_here; first | refine SC.index (i := 0) (rest := []) (by decide +kernel) ?_ | refine SC.index (i := 1) (rest := []) (by decide +kernel) ?_ | refine SC.index (i := 2) (rest := []) (by decide +kernel) ?_))) | (with_reducible ((with_reducible show wpAny _ _ (compareOp _ (Value.str _ _) (Value.str _ _)) _ _ _); (k_here; first | refine in_yes (by decide) ?_ | refine in_no (by first | decide | assumption) ?_))) | walk1) | (dsimp only; (first | (with_reducible ((with_reducible show wpAny _ _ (call (Value.builtin _) _) _ _ _); (k_here; first | refine SC.index (i := 0) (rest := []) (by decide +kernel) ?_ | refine SC.index (i := 1) (rest := []) (by decide +kernel) ?_ | refine SC.index (i := 2) (rest := []) (by decide +kernel) ?_))) | (with_reducible ((with_reducible show wpAny _ _ (compareOp _ (Value.str _ _) (Value.str _ _)) _ _ _); (k_here; first | refine in_yes (by decide) ?_ | refine in_no (by first | decide | assumption) ?_))) | walk1)) | (leave1; try dsimp only) | fail "no step")
    have := hq h6 t6 tk6 F6.keep
    rw [show escdL l = fl.flatMap e1 from by unfold escdL; rw [hF]] at this
    exact this (by assumption)
end
/-! ### ReaA -/
section
open PySem.StrLaws PySem.Builtin.Str
def spec (c : Nat) : Bool := c == 38 || c == 60 || c == 62
def nm (c : Nat) : List Nat := if c = 38 then [97, 109, 112] else if c = 60 then [108, 116] else [103, 116]
def cutY : List Nat → List Nat × List (Nat × List Nat)
  | [] => ([], [])
  | a :: r => if spec a then ([], (a, (cutY r).1) :: (cutY r).2) else (a :: (cutY r).1, (cutY r).2)
def backY (ps : List (Nat × List Nat)) : List Nat := ps.flatMap fun p => p.1 :: p.2
def partY (p : Nat × List Nat) : List Nat := nm p.1 ++ 59 :: p.2
theorem cut_s {a : Nat} {r : List Nat} (h : spec a = true) : cutY (a :: r) = ([], (a, (cutY r).1) :: (cutY r).2) := by rw [cutY, if_pos h]
theorem cut_p {a : Nat} {r : List Nat} (h : ¬ spec a = true) : cutY (a :: r) = (a :: (cutY r).1, (cutY r).2) := by rw [cutY, if_neg h]
theorem cut_back : ∀ y : List Nat, (cutY y).1 ++ backY (cutY y).2 = y
  | [] => rfl
  | a :: r => by
    have ih := cut_back r
    unfold cutY
    by_cases h : spec a = true
    · rw [if_pos h]
      show a :: ((cutY r).1 ++ backY (cutY r).2) = _
      rw [ih]
    · rw [if_neg h]
      show a :: ((cutY r).1 ++ backY (cutY r).2) = _
      rw [ih]
theorem e1_spec {c : Nat} (h : spec c = true) : e1 c = 38 :: nm c ++ [59] := by
  unfold spec at h
  simp only [Bool.or_eq_true, beq_iff_eq] at h
  rcases h with (rfl | rfl) | rfl <;> rfl
theorem e1_plain {c : Nat} (h : ¬ spec c = true) : e1 c = [c] := by
  unfold spec at h
  simp only [Bool.or_eq_true, beq_iff_eq, not_or] at h
  unfold e1
  rw [if_neg h.1.1, if_neg h.1.2, if_neg h.2]
/-- the parts of a text between its signs c -/
def glue (c : Nat) : List (List Nat) → List Nat
  | [] => []
  | [x] => x
  | x :: r => x ++ c :: glue c r
theorem glue_cons (c : Nat) (x : List Nat) (r : List (List Nat)) (h : r ≠ []) : glue c (x :: r) = x ++ c :: glue c r := by
  cases r with
  | nil => exact absurd rfl h
  | cons y t => rfl
theorem cut_glue : ∀ y : List Nat, y.flatMap e1 = glue 38 ((cutY y).1 :: (cutY y).2.map partY)
  | [] => rfl
  | a :: r => by
    have ih := cut_glue r
    rw [List.flatMap_cons, ih]
    by_cases h : spec a = true
    · rw [cut_s h, e1_spec h]
      cases h2 : (cutY r).2 with
      | nil => simp [glue, partY]
      | cons p t => simp [glue, partY]
    · rw [cut_p h, e1_plain h]
      cases h2 : (cutY r).2 with
      | nil => simp [glue]
      | cons p t => simp [glue]
theorem cut_free : ∀ y : List Nat, (38 ∉ (cutY y).1) ∧ ∀ p ∈ (cutY y).2, spec p.1 = true ∧ 38 ∉ partY p
  | [] => ⟨by simp [cutY], by simp [cutY]⟩
  | a :: r => by
    have ih := cut_free r
    unfold cutY
    by_cases h : spec a = true
    · rw [if_pos h]
      refine ⟨by simp, fun p hp => ?_⟩
      rcases List.mem_cons.mp hp with rfl | hp
      · refine ⟨h, ?_⟩
        show 38 ∉ nm a ++ 59 :: (cutY r).1
        rw [List.mem_append, List.mem_cons]
        rintro (q | q | q)
        · unfold nm at q
          split at q
          · simp at q
          · split at q <;> simp at q
        · cases q
        · exact ih.1 q
      · exact ih.2 p hp
    · rw [if_neg h]
      refine ⟨?_, ih.2⟩
      rw [List.mem_cons]
      rintro (q | q)
      · subst q; exact h rfl
      · exact ih.1 q
theorem glue_head (c : Nat) {x x' r r' : List Nat} (hx : c ∉ x) (hx' : c ∉ x') (h : x ++ c :: r = x' ++ c :: r') : x = x' ∧ r = r' := by
  induction x generalizing x' with
  | nil =>
    cases x' with
    | nil => simpa using h
    | cons a t => simp at h; exact absurd (List.Mem.head _) (h.1 ▸ hx')
  | cons b t ih =>
    cases x' with
    | nil => simp at h; exact absurd (List.Mem.head _) (h.1 ▸ hx)
    | cons a t' =>
      simp only [List.cons_append, List.cons.injEq] at h
      obtain ⟨rfl, h⟩ := h
      obtain ⟨rfl, e⟩ := ih (fun q => hx (.tail _ q)) (fun q => hx' (.tail _ q)) h
      exact ⟨rfl, e⟩
theorem glue_uniq (c : Nat) : ∀ (a b : List (List Nat)), a ≠ [] → b ≠ [] → (∀ x ∈ a, c ∉ x) → (∀ x ∈ b, c ∉ x) → glue c a = glue c b → a = b
  | [], _, h, _, _, _, _ => absurd rfl h
  | _, [], _, h, _, _, _ => absurd rfl h
  | [x], [y], _, _, _, _, h => by
    have : x = y := h
    rw [this]
  | [x], y :: z :: r, _, _, hx, _, h => by
    have e : x = y ++ c :: glue c (z :: r) := h
    exact absurd (by rw [e]; simp) (hx x (.head _))
  | x :: z :: r, [y], _, _, _, hy, h => by
    have e : x ++ c :: glue c (z :: r) = y := h
    exact absurd (by rw [← e]; simp) (hy y (.head _))
  | x :: x2 :: r, y :: y2 :: t, _, _, hx, hy, h => by
    have e : x ++ c :: glue c (x2 :: r) = y ++ c :: glue c (y2 :: t) := h
    obtain ⟨rfl, e2⟩ := glue_head c (hx x (.head _)) (hy y (.head _)) e
    rw [glue_uniq c (x2 :: r) (y2 :: t) (by simp) (by simp) (fun z hz => hx z (.tail _ hz)) (fun z hz => hy z (.tail _ hz)) e2]
theorem join_glue (c : Nat) : ∀ l : List (List Nat), Str.join (S [c]) (l.map S) = S (glue c l)
  | [] => rfl
  | [x] => rfl
  | x :: y :: r => by
    show S x ++ S [c] ++ Str.join (S [c]) ((y :: r).map S) = _
    rw [join_glue c (y :: r), S_cat, S_cat, glue_cons c x (y :: r) (by simp)]
    simp
theorem map_S (l : List Str) : (l.map fun x => x.cps.toList).map S = l := by
  rw [List.map_map]
  conv => rhs; rw [← List.map_id l]
  congr 1
theorem split_ne (x y : Str) : Txt.split x y ≠ [] := by
  unfold Txt.split
  split
  · simp
  · split
    · simp
    · rw [partsBetween_eq]
      obtain ⟨p, r, e⟩ := partsFrom_ne x y.length 0 (occurrences x y 0 x.length (x.length + 1))
      rw [e]; simp
theorem split_glue (c : Nat) (l : List (List Nat)) (h0 : l ≠ []) (h : ∀ x ∈ l, c ∉ x) : Txt.split (S (glue c l)) (S [c]) = l.map S := by
  have e1 := join_split (S (glue c l)) (S [c])
  have e2 := split_free (S (glue c l)) c
  have e3 := split_ne (S (glue c l)) (S [c])
  generalize hp : Txt.split (S (glue c l)) (S [c]) = ps at e1 e3
  have e2' : ∀ p ∈ ps, c ∉ p.cps.toList := by rw [← hp]; exact e2
  rw [← map_S ps, join_glue] at e1
  have e4 := glue_uniq c _ l (by simpa using e3) h0 (fun x hx => by
    obtain ⟨p, hp', rfl⟩ := List.mem_map.mp hx
    exact e2' p hp') h (S_inj e1)
  rw [← map_S ps, e4]
theorem read_split (y : List Nat) : Txt.split (S (y.flatMap e1)) (Str.ofString "&") = S (cutY y).1 :: (cutY y).2.map fun p => S (partY p) := by
  have h := cut_free y
  have := split_glue 38 ((cutY y).1 :: (cutY y).2.map partY) (by simp) (fun x hx => by
    rcases List.mem_cons.mp hx with rfl | hx
    · exact h.1
    · obtain ⟨p, hp, rfl⟩ := List.mem_map.mp hx
      exact (h.2 p hp).2)
  rw [← cut_glue] at this
  rw [show Str.ofString "&" = S [38] from rfl, this, List.map_cons, List.map_map]
  rfl
theorem strKind_semi (x : Str) : decide (Builtin.Str.strKind x < Builtin.Str.strKind (Str.ofString ";")) = false := by
  have := strKind_pos x
  rw [show Builtin.Str.strKind (Str.ofString ";") = 1 from by decide +kernel]
  exact decide_eq_false (by omega)
theorem split_one (a b : List Nat) (h : 59 ∉ a) : Txt.splitMax (S (a ++ 59 :: b)) (Str.ofString ";") 1 = [S a, S b] := by
  have hat : ∀ k, At (S (a ++ 59 :: b)) (S [59]) (S (a ++ 59 :: b)).length k ↔ (a ++ 59 :: b)[k]? = some 59 := fun k => by
    rw [at_iff _ _ (by simp)]
    constructor
    · intro q
      have := (take1_drop (l := a ++ 59 :: b) (c := 59) (i := k)).mp (by simpa using q)
      exact this
    · intro q
      have := (take1_drop (l := a ++ 59 :: b) (c := 59) (i := k)).mpr q
      simpa using this
  have hi : (a ++ 59 :: b)[a.length]? = some 59 := by simp
  rw [show Str.ofString ";" = S [59] from rfl]
  unfold Txt.splitMax
  rw [if_neg (by
    have := strKind_semi (S (a ++ 59 :: b))
    rw [show Str.ofString ";" = S [59] from rfl] at this
    rw [this]; simp)]
  have hl : limitOf (S (a ++ 59 :: b)) 1 = 1 := rfl
  rw [hl]
  rcases occ_head (S (a ++ 59 :: b)) (S [59]) 1 (Nat.le_refl _) with ⟨_, hn⟩ | ⟨i, r, e, hA, hmin⟩
  · exact absurd ((hat _).mpr hi) (hn a.length)
  · have hr : r = [] := by
      have := occ_length_le (S (a ++ 59 :: b)) (S [59]) 0 (S (a ++ 59 :: b)).length 1
      rw [e] at this
      cases r with
      | nil => rfl
      | cons x t => simp at this
    subst hr
    have hia : i = a.length := by
      rcases Nat.lt_trichotomy i a.length with q | q | q
      · have := (hat i).mp hA
        rw [List.getElem?_append_left q] at this
        exact absurd (List.mem_of_getElem? this) h
      · exact q
      · exact absurd ((hat _).mpr hi) (hmin _ q)
    subst hia
    rw [e, if_neg (by simp), partsBetween_eq]
    show [strSub _ 0 a.length, strSub _ (a.length + 1) _] = _
    congr 1
    · apply S_ext
      rw [strSub_toList, S_list]; simp
    · congr 1
      apply S_ext
      rw [strSub_toList, S_list, S_len]
      rw [show a ++ 59 :: b = (a ++ [59]) ++ b from by simp, show a.length + 1 = (a ++ [59]).length from by simp, List.drop_left]
      exact List.take_of_length_le (by simp only [List.length_append]; omega)
theorem nm_free (c : Nat) : 59 ∉ nm c := by
  unfold nm
  split
  · simp
  · split <;> simp
def TurnEndU (h₀ : Heap) (L : Addr) (s : Shared) (own : List (Addr × Obj)) (J : (Str → Option Value) → Prop) (f : Flow) (s₂ : Shared) : Prop :=
  f = .next ∧ ∃ h' tk m', s₂ = { s with heap := h', toks := tk } ∧ Fr h₀ L h' m' ∧ News h₀ L h' own ∧ J m'
theorem loopU {prog : Program} {w : World} {A : Around} {s : Shared} {h₀ : Heap} {L a : Addr} {name : Str} {scope : Scope} {cd : Value} {I : Addr} {fp wr : List Addr} {n : Nat} {P : Nat → Value → Prop} {St : Nat → Heap → Prop} {x : Str} {body : List Stmt} {m : Str → Option Value} {Q : Flow → Shared → Prop} {E : Value → Shared → Prop}
    (W : Walks prog w A I fp wr n P St) (J : Nat → (Str → Option Value) → Prop) (hst : St 0 s.heap) (F : Fr h₀ L s.heap m) (h0 : J 0 m) (hfpL : L ∉ fp) (hwr : ∀ b ∈ wr, h₀.get? b = none)
    (step : ∀ i v m₁ (s₁ : Shared) own, i < n → P i v → J i m₁ → Fr h₀ L s₁.heap (fun y => if y = x then some v else m₁ y) → News h₀ L s₁.heap own →
      wpAny (model prog w) A (execs body (envOf name scope L a cd)) (TurnEndU h₀ L s₁ own (J (i + 1))) E s₁)
    (hR : ∀ h' tk m', J n m' → Fr h₀ L h' m' → Q .next { s with heap := h', toks := tk }) :
    LoopAtU prog w A h₀ (envOf name scope L a cd) x body Q E (.ref I) s := by
  refine ⟨I, fp, wr, n, P, St, m, [], fun i m news => news = [] ∧ J i m, rfl, W, hfpL, hwr, fun _ q => (nomatch q), hst, F, News.nil, ⟨rfl, h0⟩, ?_, fun h' tk m' news' F' N' _ hJ => hR h' tk m' hJ.2 F'⟩
  rintro i v m₁ news₁ s₁ own hi hP ⟨rfl, hJ⟩ _ _ _ _ _ F₁ N₁
  rw [List.append_nil] at N₁
  refine wpAny_mono (step i v m₁ s₁ own hi hP hJ F₁ N₁) (fun f s₂ h₂ => ?_) fun _ _ e => e
  obtain ⟨rfl, h', tk', m', rfl, F', N', hJ'⟩ := h₂
  exact ⟨rfl, h', tk', m', [], rfl, F', by rwa [List.append_nil], fun _ q => (nomatch q), rfl, hJ'⟩
end
/-! ### Rea -/
section
theorem fill_rea (P : Params) : (PySem.Challenge.rw_mj0268_01 = PySem.Challenge.rw_mj0268_01 ∧ K0 P = K0 P) := by
  k_fill
  exact ⟨rfl, rfl⟩
theorem News.headGet {h₀ h : Heap} {L a : Addr} {o : Obj} {r : List (Addr × Obj)} (N : News h₀ L h ((a, o) :: r)) : h.get? a = some o := (N _ (.head _)).1
theorem index_strs {prog : Program} {w : World} {A : Around} {E : Value → Shared → Prop} {s : Shared} {l : Addr} {vs : List Value} {ys : List Str} {n j : Nat} {k : Str} {t : Tok} {Q : Value → Shared → Prop} (ho : s.heap.get? l = some (W.listOf vs.toArray n)) (hi : StrsAre vs ys) (hj : j < vs.toArray.size) (hb : (j : Int) < 2 ^ 63 - 1)
    (h1 : isStrOf k vs.toArray[j] = true) (h2 : ∀ m (hm : m < vs.toArray.size), m < j → isStrOf k vs.toArray[m] = false) (h : Q (.int j s.toks) { s with toks := s.toks + 1 }) :
    wpAny (model prog w) A (call (.builtin "list.index") [.ref l, .str k t]) Q E s :=
  call_meets PySem.F.slot_list_index ⟨_, ho, rfl⟩ PySem.F.entry_list_index (PySem.F.args_list_index_2 _ _)
    (PySem.SeqAt.list_indexAt l vs.toArray n none #[] (.str k t) (isStrOf k) j hj hb h1 h2) ⟨ho, fun y hy => (eq_isStrOf k t hi y (by simpa using hy)).at _ _, h⟩
section
variable {prog : Program} {w : World} {A : Around} {E : Value → Shared → Prop} {s : Shared} {l : Addr} {n : Nat} {k a b c : Str} {t ta tb tc : Tok} {Q : Value → Shared → Prop} (ho : s.heap.get? l = some (W.listOf #[.str a ta, .str b tb, .str c tc] n))
include ho
theorem index0 (h1 : (a == k) = true) (h : Q (.int 0 s.toks) { s with toks := s.toks + 1 }) : wpAny (model prog w) A (call (.builtin "list.index") [.ref l, .str k t]) Q E s :=
  index_strs (vs := [.str a ta, .str b tb, .str c tc]) (ys := [a, b, c]) (j := 0) ho (.cons _ _ (.cons _ _ (.cons _ _ .nil))) (by simp) (by omega) h1 (fun m _ q => absurd q (by omega)) h
theorem index1 (h0 : (a == k) = false) (h1 : (b == k) = true) (h : Q (.int 1 s.toks) { s with toks := s.toks + 1 }) : wpAny (model prog w) A (call (.builtin "list.index") [.ref l, .str k t]) Q E s :=
  index_strs (vs := [.str a ta, .str b tb, .str c tc]) (ys := [a, b, c]) (j := 1) ho (.cons _ _ (.cons _ _ (.cons _ _ .nil))) (by simp) (by omega) h1 (fun m _ q => by
    obtain rfl : m = 0 := by omega
    exact h0) h
theorem index2 (h0 : (a == k) = false) (h1 : (b == k) = false) (h2 : (c == k) = true) (h : Q (.int 2 s.toks) { s with toks := s.toks + 1 }) : wpAny (model prog w) A (call (.builtin "list.index") [.ref l, .str k t]) Q E s :=
  index_strs (vs := [.str a ta, .str b tb, .str c tc]) (ys := [a, b, c]) (j := 2) ho (.cons _ _ (.cons _ _ (.cons _ _ .nil))) (by simp) (by omega) h2 (fun m _ q => by
    have : m = 0 ∨ m = 1 := by omega
    rcases this with rfl | rfl
    · exact h0
    · exact h1) h
end
def mR (tv : Value) (pv nv rv : Option Value) (pa : Addr) (x : Value) : Str → Option Value := fun y => if y = Str.ofString "told" then some tv else if y = Str.ofString "part" then pv else if y = Str.ofString "name" then nv else if y = Str.ofString "rest" then rv else if y = Str.ofString "parts" then some (.ref pa) else List.lookup y [(Str.ofString "text", x)].reverse
theorem mR_p (tv : Value) (pv nv rv : Option Value) (pa : Addr) (x v : Value) : (fun y => if y = Str.ofString "part" then some v else mR tv pv nv rv pa x y) = mR tv (some v) nv rv pa x := by
  funext y
  unfold mR
  by_cases e1 : y = Str.ofString "part"
  · subst e1; rfl
  · rw [if_neg e1, if_neg e1, if_neg e1]
theorem mR_t (tv : Value) (pv nv rv : Option Value) (pa : Addr) (x v : Value) : (fun y => if y = Str.ofString "told" then some v else mR tv pv nv rv pa x y) = mR v pv nv rv pa x := by
  funext y
  unfold mR
  by_cases e1 : y = Str.ofString "told"
  · subst e1; rfl
  · rw [if_neg e1, if_neg e1, if_neg e1]
theorem mR_nr (tv : Value) (pv nv rv : Option Value) (pa : Addr) (x v u : Value) : (fun y => if y = Str.ofString "rest" then some u else if y = Str.ofString "name" then some v else mR tv pv nv rv pa x y) = mR tv pv (some v) (some u) pa x := by
  funext y
  unfold mR
  by_cases e1 : y = Str.ofString "rest"
  · subst e1; rfl
  · rw [if_neg e1, if_neg e1, if_neg e1]
    by_cases e2 : y = Str.ofString "name"
    · subst e2; rfl
    · rw [if_neg e2, if_neg e2, if_neg e2]
theorem mR_all (tv : Value) (pv nv rv : Option Value) (pa : Addr) (x v u z : Value) : (fun y => if y = Str.ofString "told" then some z else if y = Str.ofString "rest" then some u else if y = Str.ofString "name" then some v else mR tv pv nv rv pa x y) = mR z pv (some v) (some u) pa x := by
  funext y
  unfold mR
  by_cases e0 : y = Str.ofString "told"
  · rw [if_pos e0, if_pos e0]
  · rw [if_neg e0, if_neg e0, if_neg e0]
    by_cases e1 : y = Str.ofString "rest"
    · subst e1; rfl
    · rw [if_neg e1, if_neg e1, if_neg e1]
      by_cases e2 : y = Str.ofString "name"
      · subst e2; rfl
      · rw [if_neg e2, if_neg e2, if_neg e2]
theorem rea_call {prog : Program} {w : World} {lo : Program × List Str} {mg mb : Str → Option Value} {A : Around} {s : Shared} {y : List Nat} {tk : Tok} {Q E : Value → Shared → Prop}
    (Z : Site w lo mg mb 4 20 A s) (hl : y.length ≤ 1000)
    (hq : ∀ h' t tk', (∀ b o, s.heap.get? b = some o → h'.get? b = some o) → s.toks ≤ tk' → Q (.str (S y) t) { s with heap := h', toks := tk' }) :
    wpAny (model prog w) A (call (.ref 797) [.str (S (y.flatMap e1)) tk]) Q E s := by
  obtain ⟨hh, hdp, hun, X', T', C', M'⟩ := Z
  have hSl : (S (y.flatMap e1)).length ≤ 5000 := by have := flat_len y; rw [S_len]; omega
  refine wpAny_with_toks (n := s.toks) (Nat.le_refl _) (wpAny_call ?_)
  refine enterP ⟨hh, by omega, by omega, X', T', C', M'⟩ (by k_is) (by k_is) (binds := [(Str.ofString "text", .str (S (y.flatMap e1)) tk)]) (BindsTo.of_eq rfl) (locs rfl) rfl rfl rfl (by decide) ?_
  intro L' h₁ F' N'
  try dsimp only
  try k_fold
  repeat' (first | (k_unfold; (try dsimp only)) | (k_end; wrow_close) | (first | (with_reducible ((with_reducible show wpAny _ _ (call (Value.builtin "list.index") _) _ _ _); (k_here; first | refine index0 (News.headGet (by k_asm)) (by decide) ?_ | refine index1 (News.headGet (by k_asm)) (by decide) (by decide) ?_ | refine index2 (News.headGet (by k_asm)) (by decide) (by decide) (by decide) ?_))) | walk1) | (dsimp only; (first | (with_reducible ((with_reducible show wpAny _ _ (call (Value.builtin "list.index") _) _ _ _); (k_here; first | refine index0 (News.headGet (by k_asm)) (by decide) ?_ | refine index1 (News.headGet (by k_asm)) (by decide) (by decide) ?_ | refine index2 (News.headGet (by k_asm)) (by decide) (by decide) (by decide) ?_))) | walk1)) | (leave1; try dsimp only) | fail "no step")
  rename_i l h3 k hlook hstrs hlens hlist h4 tk1 hTk1 y0 t0 hy0 h5 F5 N5 tk0 hTk0 hpl h6 F6 N6
  clear hlens hlist F5 N5
  dsimp only at F6 N6 ⊢
  rw [read_split] at hlook
  have ey0 : y0 = S (cutY y).1 := by
    rw [hlook] at hy0
    exact (Option.some.inj hy0).symm
  subst ey0
  have hll : l.length = (cutY y).2.length + 1 := by
    have := congrArg List.length hlook
    simpa using this
  have hsl : slicePick (strValues l).toArray (some 1) none none = ((strValues l).drop 1).toArray := by
    have := slicePick_from (strValues l).toArray 1 (by simp [strValues, hll])
    simpa using this
  rw [hsl] at N6
  have hL6 : h6.IsList (h5.objs.size + 1) ((strValues l).drop 1).toArray := PySem.IsL.isList (n := 0) (N6 _ (.head _)).1
  have ltL : L' < h6.objs.size := F6.ns.lt
  have ltD : @LT.lt Nat _ (h5.objs.size + 1) h6.objs.size := Heap.lt_size (N6 _ (.head _)).1
  have hDL : h5.objs.size + 1 ≠ L' := (N6 _ (.head _)).2.1
  have hback : (cutY y).1.length + (backY (cutY y).2).length = y.length := by
    have := congrArg List.length (cut_back y)
    rwa [List.length_append] at this
  refine wpAny_pyIter_list hL6 ?_
  refine loopU (Walks.list (A := A.deeper _) hh h6.objs.size (h5.objs.size + 1) (ne_ (by omega)) ((strValues l).drop 1).toArray) (fun i m => ∃ t pv nv rv, m = mR (.str (S ((cutY y).1 ++ backY ((cutY y).2.take i))) t) pv nv rv h₁.objs.size (.str (S (y.flatMap e1)) tk)) ?_ (Fr.grow F6 fun b o e => Heap.get?_push_of_some _ e) ⟨t0, none, none, none, ?_⟩ ?_ ?_ ?_ ?_
  · exact ⟨⟨_, Heap.get?_push_size _ rfl, rfl, rfl⟩, hL6.push _⟩
  · funext z
    unfold mR
    by_cases e1 : z = Str.ofString "told"
    · subst e1; simp [backY]
    · rw [if_neg e1, if_neg e1]
      by_cases e2 : z = Str.ofString "part"
      · subst e2; rfl
      · rw [if_neg e2]
        by_cases e3 : z = Str.ofString "name"
        · subst e3; rfl
        · rw [if_neg e3]
          by_cases e4 : z = Str.ofString "rest"
          · subst e4; rfl
          · rw [if_neg e4]
  · intro hm
    rcases List.mem_cons.mp hm with q | hm
    · exact Nat.lt_irrefl _ (q ▸ ltL)
    · rw [List.mem_singleton] at hm
      exact hDL hm.symm
  · intro b hb
    rw [List.mem_singleton] at hb
    subst hb
    cases q : s.heap.get? h6.objs.size with
    | none => rfl
    | some o => exact absurd (Heap.lt_size (F6.keep _ _ q)) (Nat.lt_irrefl _)
  · rintro i v m₁ s₁ own hi hP ⟨t, pv, nv, rv, rfl⟩ F7 N7
    obtain ⟨h7, g7, d7, k7, o7⟩ := s₁
    dsimp only at F7 N7
    rw [mR_p] at F7
    have hi' : i < (cutY y).2.length := by simp [strValues, hll] at hi; omega
    obtain ⟨c, r, hcr⟩ : ∃ c r, (cutY y).2[i] = (c, r) := ⟨_, _, rfl⟩
    have hcr' : (cutY y).2[i]? = some (c, r) := by rw [List.getElem?_eq_getElem hi', hcr]
    have hsp := ((cut_free y).2 (c, r) (hcr ▸ List.getElem_mem hi')).1
    obtain ⟨tv, rfl⟩ : ∃ tv, v = .str (S (partY (c, r))) tv := by
      have q : ((strValues l).drop 1)[i]? = some v := by simpa using hP
      rw [List.getElem?_drop] at q
      obtain ⟨z, t, rfl, hz⟩ := StrsAre.item hstrs _ _ q
      rw [hlook, Nat.add_comm, List.getElem?_cons_succ, List.getElem?_map, hcr'] at hz
      exact ⟨t, by rw [← Option.some.inj hz]⟩
    have hnx : (cutY y).1 ++ backY ((cutY y).2.take (i + 1)) = (cutY y).1 ++ backY ((cutY y).2.take i) ++ [c] ++ r := by
      rw [List.take_add_one, hcr']
      unfold backY
      rw [List.flatMap_append]
      simp
    have hlen : ((cutY y).1 ++ backY ((cutY y).2.take i) ++ [c] ++ r).length ≤ 1000 := by
      rw [← hnx, List.length_append]
      have e : backY (cutY y).2 = backY ((cutY y).2.take (i + 1)) ++ backY ((cutY y).2.drop (i + 1)) := by
        unfold backY
        rw [← List.flatMap_append, List.take_append_drop]
      have := congrArg List.length e
      rw [List.length_append] at this
      omega
    have hlen1 : (S ((cutY y).1 ++ backY ((cutY y).2.take i))).length ≤ 1000 := by simp at hlen ⊢; omega
    have hlen2 : (S r).length ≤ 1000 := by simp at hlen ⊢; omega
    have hlen3 : (S (partY (c, r))).length ≤ 2000 := by
      rw [S_len]
      unfold partY nm
      simp at hlen2
      split
      · simp; omega
      · split <;> (simp; omega)
    try k_fold
    repeat' (first | (k_unfold; (try dsimp only)) | (k_end; wrow_close) | (first | (with_reducible ((with_reducible show wpAny _ _ (call (Value.builtin "list.index") _) _ _ _); (k_here; first | refine index0 (News.headGet (by k_asm)) (by decide) ?_ | refine index1 (News.headGet (by k_asm)) (by decide) (by decide) ?_ | refine index2 (News.headGet (by k_asm)) (by decide) (by decide) (by decide) ?_))) | walk1) | (dsimp only; (first | (with_reducible ((with_reducible show wpAny _ _ (call (Value.builtin "list.index") _) _ _ _); (k_here; first | refine index0 (News.headGet (by k_asm)) (by decide) ?_ | refine index1 (News.headGet (by k_asm)) (by decide) (by decide) ?_ | refine index2 (News.headGet (by k_asm)) (by decide) (by decide) (by decide) ?_))) | walk1)) | (leave1; try dsimp only) | fail "no step")
    rename_i l8 h8 k8 hl8 hs8 hn8 hL8 F8 N8
    rw [show S (partY (c, r)) = S (nm c ++ 59 :: r) from rfl, split_one _ _ (nm_free c)] at hl8
    obtain ⟨ta, tb, rfl⟩ : ∃ ta tb, l8 = [(S (nm c), ta), (S r, tb)] := by
      match l8, hl8 with
      | [(a, ta), (b, tb)], hl8 =>
        simp only [List.map_cons, List.map_nil, List.cons.injEq, and_true] at hl8
        exact ⟨ta, tb, by rw [hl8.1, hl8.2]⟩
    clear hl8 hs8 hn8 hL8
    dsimp only at F8 N8 ⊢
    replace N8 : News s.heap L' h8 ((h7.objs.size, W.listOf #[.str (S (nm c)) ta, .str (S r) tb] 0) :: own) := N8
    refine kun_list F8 N8 (PySem.IsL.isList (n := 0) (N8 _ (.head _)).1) hh ?_ ?_ ?_
    · rfl
    · rfl
    intro h9 F9 N9
    dsimp only
    have hc3 : c = 38 ∨ c = 60 ∨ c = 62 := by
      unfold spec at hsp
      simp only [Bool.or_eq_true, beq_iff_eq] at hsp
      rcases hsp with (q | q) | q <;> simp [q]
    rcases hc3 with rfl | rfl | rfl
    · rw [show S (nm 38) = Str.ofString "amp" from rfl] at N9 ⊢
      repeat' (first | (k_unfold; (try dsimp only)) | (k_end; wrow_close) | (first | (with_reducible ((with_reducible show wpAny _ _ (call (Value.builtin "list.index") _) _ _ _); (k_here; first | refine index0 (News.headGet (by k_asm)) (by decide) ?_ | refine index1 (News.headGet (by k_asm)) (by decide) (by decide) ?_ | refine index2 (News.headGet (by k_asm)) (by decide) (by decide) (by decide) ?_))) | walk1) | (dsimp only; (first | (with_reducible ((with_reducible show wpAny _ _ (call (Value.builtin "list.index") _) _ _ _); (k_here; first | refine index0 (News.headGet (by k_asm)) (by decide) ?_ | refine index1 (News.headGet (by k_asm)) (by decide) (by decide) ?_ | refine index2 (News.headGet (by k_asm)) (by decide) (by decide) (by decide) ?_))) | walk1)) | (leave1; try dsimp only) | fail "no step")
      rename_i hA FA NA
      rw [mR_all, show Str.ofString "&" = S [38] from rfl, S_cat, S_cat, ← hnx] at FA
      exact ⟨rfl, hA, _, _, rfl, FA, fun p hp => NA p (.tail _ (.tail _ hp)), _, _, _, _, rfl⟩
    · rw [show S (nm 60) = Str.ofString "lt" from rfl] at N9 ⊢
      repeat' (first | (k_unfold; (try dsimp only)) | (k_end; wrow_close) | (first | (with_reducible ((with_reducible show wpAny _ _ (call (Value.builtin "list.index") _) _ _ _); (k_here; first | refine index0 (News.headGet (by k_asm)) (by decide) ?_ | refine index1 (News.headGet (by k_asm)) (by decide) (by decide) ?_ | refine index2 (News.headGet (by k_asm)) (by decide) (by decide) (by decide) ?_))) | walk1) | (dsimp only; (first | (with_reducible ((with_reducible show wpAny _ _ (call (Value.builtin "list.index") _) _ _ _); (k_here; first | refine index0 (News.headGet (by k_asm)) (by decide) ?_ | refine index1 (News.headGet (by k_asm)) (by decide) (by decide) ?_ | refine index2 (News.headGet (by k_asm)) (by decide) (by decide) (by decide) ?_))) | walk1)) | (leave1; try dsimp only) | fail "no step")
      rename_i hA FA NA
      rw [mR_all, show Str.ofString "<" = S [60] from rfl, S_cat, S_cat, ← hnx] at FA
      exact ⟨rfl, hA, _, _, rfl, FA, fun p hp => NA p (.tail _ (.tail _ hp)), _, _, _, _, rfl⟩
    · rw [show S (nm 62) = Str.ofString "gt" from rfl] at N9 ⊢
      repeat' (first | (k_unfold; (try dsimp only)) | (k_end; wrow_close) | (first | (with_reducible ((with_reducible show wpAny _ _ (call (Value.builtin "list.index") _) _ _ _); (k_here; first | refine index0 (News.headGet (by k_asm)) (by decide) ?_ | refine index1 (News.headGet (by k_asm)) (by decide) (by decide) ?_ | refine index2 (News.headGet (by k_asm)) (by decide) (by decide) (by decide) ?_))) | walk1) | (dsimp only; (first | (with_reducible ((with_reducible show wpAny _ _ (call (Value.builtin "list.index") _) _ _ _); (k_here; first | refine index0 (News.headGet (by k_asm)) (by decide) ?_ | refine index1 (News.headGet (by k_asm)) (by decide) (by decide) ?_ | refine index2 (News.headGet (by k_asm)) (by decide) (by decide) (by decide) ?_))) | walk1)) | (leave1; try dsimp only) | fail "no step")
      rename_i hA FA NA
      rw [mR_all, show Str.ofString ">" = S [62] from rfl, S_cat, S_cat, ← hnx] at FA
      exact ⟨rfl, hA, _, _, rfl, FA, fun p hp => NA p (.tail _ (.tail _ hp)), _, _, _, _, rfl⟩
  · rintro hB tkB mB ⟨tB, pvB, nvB, rvB, rfl⟩ FB
    rw [show ((strValues l).drop 1).toArray.size = (cutY y).2.length from by simp [strValues, hll], List.take_length, cut_back] at FB
    repeat' (first | (k_unfold; (try dsimp only)) | (k_end; wrow_close) | (first | (with_reducible ((with_reducible show wpAny _ _ (call (Value.builtin "list.index") _) _ _ _); (k_here; first | refine index0 (News.headGet (by k_asm)) (by decide) ?_ | refine index1 (News.headGet (by k_asm)) (by decide) (by decide) ?_ | refine index2 (News.headGet (by k_asm)) (by decide) (by decide) (by decide) ?_))) | walk1) | (dsimp only; (first | (with_reducible ((with_reducible show wpAny _ _ (call (Value.builtin "list.index") _) _ _ _); (k_here; first | refine index0 (News.headGet (by k_asm)) (by decide) ?_ | refine index1 (News.headGet (by k_asm)) (by decide) (by decide) ?_ | refine index2 (News.headGet (by k_asm)) (by decide) (by decide) (by decide) ?_))) | walk1)) | (leave1; try dsimp only) | fail "no step")
    exact hq hB tB tkB FB.keep (by assumption)
end
/-! ### Io2 -/
section
theorem fill_io2 (P : Params) : (PySem.Challenge.rw_mj0268_01 = PySem.Challenge.rw_mj0268_01 ∧ K0 P = K0 P) := by
  k_fill
  exact ⟨rfl, rfl⟩
/-- IOBase.__new__(StringIO, v) -/
theorem io_new {prog : Program} {w : World} {A₀ A : Around} {s : Shared} {base h₀ : Heap} {L : Addr} {m : Str → Option Value} {news : List (Addr × Obj)} {lo : Program × List Str} {mg mb : Str → Option Value} {env : Env} {outer : List Env} {R : Result → Shared → Prop} {v : Value}
    (B : Below A₀ base outer h₀) (F : Fr h₀ L s.heap m) (X₀ : (K0 w.params).In h₀) (N : News h₀ L s.heap news) (T : TopRead lo.1 lo.2 mg mb h₀) (hA : A.frames = some (env :: outer)) (hf : env.frame = some L) (hke : env.scope.kind = .function) (hh : A.handled = none)
    (hroom : A.depth + 2 < 1000)
    (h : ∀ (x dx : Nat) h' tk, Fr h₀ L h' m → News h₀ L h' ((x, instObj 609 dx) :: (dx, dictOf [] 0) :: news) → (∀ p ∈ news, @LT.lt Nat _ p.1 dx) → dx < x → R (.ok (.ret (.ref x))) { s with heap := h', toks := tk }) :
    codeAny (model prog w) A (.call (.ref 102) ⟨[.ref 609, v], []⟩) R s := by
  have X := X₀.keeps F.keep
  refine codeAny_call_function (by unfold recursionLimit; omega) (X 102 _ rfl) rfl rfl rfl rfl (codeRec_of X (by k_is)) ?_
  refine wp_of_peekA (o := ({ cls := .type "tuple", data := .seq #[v] } : Obj)) F N X rfl _ _ (by rfl) fun h1 F1 N1 l1 => ?_
  refine wp_of_peekA (s := { s with heap := h1 }) (o := dictOf [] 0) F1 N1 (X₀.keeps F1.keep) rfl _ _ (by rfl) fun h2 F2 N2 l2 => ?_
  dsimp only at N2 l2 ⊢
  refine wpAny_of_eq (a := [(Str.ofString "cls", .ref 609), (Str.ofString "args", .ref s.heap.objs.size), (Str.ofString "kwargs", .ref h1.objs.size)]) (by rfl) ?_
  refine kp_frame (cl := []) (s := { s with heap := h2 }) B F2 N2 T.nolimit hA hf hke (locs rfl) (fun g L' h3 FG F' N' B' st => ?_) (by decide) rfl
  have X' := X₀.keeps st
  have T' := T.keeps st
  dsimp only
  try k_fold
  k_steps
  refine wpAny_call (new609 (X'.keeps F'.keep) ?_)
  have F4 := F'.push emptyDict
  have N4 := News.push F' N' emptyDict rfl
  have F5 := F4.push (instObj 609 h3.objs.size)
  have N5 := News.push F4 N4 (instObj 609 h3.objs.size) rfl
  rw [Heap.size_push] at N5
  refine leaveK_ F5 N5 fun F6 N6 => ?_
  refine h _ h3.objs.size _ _ F6 (fun p hp => N6 p ?_) (fun p hp => ?_) (Nat.lt_succ_self _)
  · rcases List.mem_cons.mp hp with rfl | hp
    · exact .head _
    · rcases List.mem_cons.mp hp with rfl | hp
      · exact .tail _ (.head _)
      · exact .tail _ (.tail _ (.tail _ (.tail _ hp)))
  · exact Heap.lt_size (N' p (.tail _ (.tail _ hp))).1
end
/-! ### SplA -/
section
section
variable {prog : Program} {w : World} {A : Around} {E : Value → Shared → Prop} {s : Shared} {h₀ : Heap} {L : Addr} {m : Str → Option Value} {news : List (Addr × Obj)}
theorem deque_K {Q : Value → Shared → Prop} (F : Fr h₀ L s.heap m) (N : News h₀ L s.heap news)
    (h : ∀ D h', Fr h₀ L h' m → News h₀ L h' ((D, deqObj) :: news) → (∀ p ∈ news, p.1 < D) → Q (.ref D) { s with heap := h' }) : wpAny (model prog w) A (call (.type "collections.deque") []) Q E s := by
  refine deque_call fun h' hk hD => ?_
  obtain ⟨F', N'⟩ : Fr h₀ L h' m ∧ News h₀ L h' ((s.heap.objs.size, deqObj) :: news) := by
    refine ⟨Fr.grow F hk, fun p hp => ?_⟩
    rcases List.mem_cons.mp hp with rfl | hp
    · refine ⟨hD, fun q => ?_, ?_⟩
      · have := F.ns.lt
        exact Nat.lt_irrefl _ (q ▸ this)
      · cases q : h₀.get? s.heap.objs.size with
        | none => rfl
        | some o => exact absurd (Heap.lt_size (F.keep _ _ q)) (Nat.lt_irrefl _)
    · exact News.grow N hk p hp
  exact h _ h' F' N' fun p hp => Heap.lt_size (N p hp).1
theorem truthy_dequeN {a : Addr} {Q : Bool → Shared → Prop} (N : News h₀ L s.heap news) (hm : (a, deqObj) ∈ news) (h : Q false { s with toks := s.toks + 1 + 1 }) : wpAny (model prog w) A (truthy (.ref a)) Q E s := truthy_deque (N _ hm).1 h
end
end
/-! ### LexA -/
section
abbrev kE (P : Params) (n : String) (t : Tok) (v : Value) : DictEntry := ⟨PyData.keyHash P (Str.ofString n), .str (Str.ofString n) t, v⟩
/-- the dict of the reader: its text and its place -/
abbrev ioE (P : Params) (kt vt : Nat → Tok) (l : List Nat) (i : Int) (ti : Tok) : List DictEntry :=
  [kE P "_StringIO__newline" (kt 20) (.str (Str.ofString "\n") (vt 20)), kE P "_StringIO__buf" (kt 21) (.str (S l) (vt 21)), kE P "_StringIO__pos" (kt 22) (.int i ti)]
abbrev wchars : Str := Str.ofString "abcdfeghijklmnopqrstuvwxyzABCDEFGHIJKLMNOPQRSTUVWXYZ0123456789_ßàáâãäåæçèéêëìíîïðñòóôõöøùúûüýþÿÀÁÂÃÄÅÆÇÈÉÊËÌÍÎÏÐÑÒÓÔÕÖØÙÚÛÜÝÞ"
abbrev lxE (P : Params) (kt vt : Nat → Tok) (xi D1 D2 : Addr) (stv tokv lnv : Value) : List DictEntry :=
  [kE P "instream" (kt 0) (.ref xi), kE P "infile" (kt 1) .none, kE P "posix" (kt 2) (.bool true), kE P "eof" (kt 3) .none, kE P "commenters" (kt 4) (.str (Str.ofString "") (vt 4)),
    kE P "wordchars" (kt 5) (.str wchars (vt 5)), kE P "whitespace" (kt 6) (.str (Str.ofString " \t\x0d\n") (vt 6)), kE P "whitespace_split" (kt 7) (.bool true), kE P "quotes" (kt 8) (.str (Str.ofString "'\"") (vt 8)),
    kE P "escape" (kt 9) (.str (Str.ofString "\\") (vt 9)), kE P "escapedquotes" (kt 10) (.str (Str.ofString "\"") (vt 10)), kE P "state" (kt 11) stv, kE P "pushback" (kt 12) (.ref D1), kE P "lineno" (kt 13) lnv,
    kE P "debug" (kt 14) (.int 0 (vt 14)), kE P "token" (kt 15) tokv, kE P "filestack" (kt 16) (.ref D2), kE P "source" (kt 17) .none, kE P "_punctuation_chars" (kt 18) (.str (Str.ofString "") (vt 18))]
abbrev led (P : Params) (kt vt : Nat → Tok) (x d xi di D1 D2 : Addr) (l : List Nat) (i : Int) (ti : Tok) (stv tokv lnv : Value) : List (Addr × Obj) :=
  [(D2, deqObj), (D1, deqObj), (xi, instObj 609 di), (di, dictOf (ioE P kt vt l i ti) 3), (x, instObj 744 d), (d, dictOf (lxE P kt vt xi D1 D2 stv tokv lnv) 19)]
/-- the ledger's places differ -/
structure Ord (x d xi di D1 D2 : Addr) : Prop where
  a : @LT.lt Nat _ d x
  b : @LT.lt Nat _ x di
  c : @LT.lt Nat _ di xi
  e : @LT.lt Nat _ xi D1
  f : @LT.lt Nat _ D1 D2
end
/-! ### Rd -/
section
theorem fill_rd (P : Params) : (PySem.Challenge.rw_mj0268_01 = PySem.Challenge.rw_mj0268_01 ∧ K0 P = K0 P) := by
  k_fill
  exact ⟨rfl, rfl⟩
theorem slice_one {l : List Nat} {i c : Nat} (hc : l[i]? = some c) : Txt.slice (S l) (some (i : Int)) (some ((i : Int) + 1)) = S [c] := by
  have hi : i < l.length := (List.getElem?_eq_some_iff.mp hc).1
  have e := PySem.StrLaws.sliceText_nat (S l) (a := i) (b := i + 1) (by omega) (by rw [S_len]; omega)
  have e2 : Txt.slice (S l) (some (i : Int)) (some ((i : Int) + 1)) = PySem.StrLaws.sliceText (S l) (some (i : Int)) (some ((i + 1 : Nat) : Int)) := rfl
  rw [e2, e]
  apply S_ext
  show ((S l).cps.toList.drop i).take (i + 1 - i) = [c]
  rw [S_list, show i + 1 - i = 1 from by omega]
  exact beq_iff_eq.mp (PySem.StrLaws.take1_drop.mpr hc)
/-- read(1): the sign at the place, and the place one on; or the end -/
theorem rd_any {prog : Program} {w : World} {lo : Program × List Str} {mg mb : Str → Option Value} {A₀ : Around} {dp un : Nat} {outer : List Env} {gd : Option (List Code)} {env : Env} {h : Heap} {gs : Array GenState} {dr : Drawn} {t0 : Nat} {os : OsState} {base h₀ : Heap} {L : Addr} {m : Str → Option Value} {kt vt : Nat → Tok} {x d xi di D1 D2 : Addr} {l : List Nat} {i : Nat} {ti t1 : Tok} {stv tokv lnv : Value} {Q E : Value → Shared → Prop}
    (B : Below A₀ base outer h₀) (F : Fr h₀ L h m) (X : (K0 w.params).In h₀) (N : News h₀ L h (led w.params kt vt x d xi di D1 D2 l i ti stv tokv lnv)) (O : Ord x d xi di D1 D2) (T : TopRead lo.1 lo.2 mg mb h₀)
    (hf : env.frame = some L) (hke : env.scope.kind = .function) (hdp : dp + 3 < 1000) (hl : l.length ≤ 1000) (hi : i ≤ l.length)
    (hq : ∀ c, l[i]? = some c → ∀ h' ti' t' tk', Fr h₀ L h' m → News h₀ L h' (led w.params kt vt x d xi di D1 D2 l ((i : Int) + 1) ti' stv tokv lnv) → Q (.str (S [c]) t') ⟨h', gs, dr, tk', os⟩)
    (hq0 : i = l.length → ∀ h' ti' t' tk', Fr h₀ L h' m → News h₀ L h' (led w.params kt vt x d xi di D1 D2 l i ti' stv tokv lnv) → Q (.str (Str.ofString "") t') ⟨h', gs, dr, tk', os⟩) :
    wpAny (model prog w) ⟨none, dp, some (env :: outer), gd, un⟩ (call (.ref 555) [.ref xi, .int 1 t1]) Q E ⟨h, gs, dr, t0, os⟩ := by
  have hSl : (S l).length ≤ 1000 := by rw [S_len]; exact hl
  have hlen : (S l).length = l.length := S_len l
  obtain ⟨o1, o2, o3, o4, o5⟩ := O
  dsimp only [led, lxE, ioE, kE] at N
  refine wpAny_call ?_
  (refine' code_defR ?k1 ?k2 ?k3 ?k4 ?k5 ?kA ?kF ?kK ?k6 ?k7 ?k8 ?k9 ?kB ?_ ?c2 ?c3 ?c4 ?c5; (case kA => exact rfl); (case kF => first | exact rfl | assumption); (case kK => first | exact rfl | assumption); (case k1 => k_asm); (case k2 => k_asm); (case k3 => k_asm); (case k4 => k_asm); (case k5 => k_asm); (case k6 => k_is); (case k7 => k_is); (case k8 => k_room); (case k9 => first | exact BindsTo.of_eq rfl | exact binds_K (by k_in) rfl (by k_is) rfl rfl rfl | fail "k_enter: no rule for these arguments"); (case c5 => decide); (case kB => exact locs rfl); (case c2 => exact rfl); (case c3 => exact rfl); (case c4 => exact rfl); k_whole; intro g' L' h' FG' F' N' B' X' T'; (try dsimp only); (try k_lift B'); (try k_fold))
  repeat' (first
    | (k_unfold; (try dsimp only)) | (k_end; wrow_close) | walk1 | (dsimp only; walk1) | (leave1; try dsimp only)
    | (refine wpAny_call ?_; (refine' code_defR ?k1 ?k2 ?k3 ?k4 ?k5 ?kA ?kF ?kK ?k6 ?k7 ?k8 ?k9 ?kB ?_ ?c2 ?c3 ?c4 ?c5; (case kA => exact rfl); (case kF => first | exact rfl | assumption); (case kK => first | exact rfl | assumption); (case k1 => k_asm); (case k2 => k_asm); (case k3 => k_asm); (case k4 => k_asm); (case k5 => k_asm); (case k6 => k_is); (case k7 => k_is); (case k8 => k_room); (case k9 => first | exact BindsTo.of_eq rfl | exact binds_K (by k_in) rfl (by k_is) rfl rfl rfl | fail "k_enter: no rule for these arguments"); (case c5 => decide); (case kB => exact locs rfl); (case c2 => exact rfl); (case c3 => exact rfl); (case c4 => exact rfl); k_whole; intro g' L' h' FG' F' N' B' X' T'; (try dsimp only); (try k_lift B'); (try k_fold)))
    | (refine' call_meth ?k1 ?k2 ?_; (case k1 => k_asm); (case k2 => k_mem); k_whole; (refine' code_defR ?k1 ?k2 ?k3 ?k4 ?k5 ?kA ?kF ?kK ?k6 ?k7 ?k8 ?k9 ?kB ?_ ?c2 ?c3 ?c4 ?c5; (case kA => exact rfl); (case kF => first | exact rfl | assumption); (case kK => first | exact rfl | assumption); (case k1 => k_asm); (case k2 => k_asm); (case k3 => k_asm); (case k4 => k_asm); (case k5 => k_asm); (case k6 => k_is); (case k7 => k_is); (case k8 => k_room); (case k9 => first | exact BindsTo.of_eq rfl | exact binds_K (by k_in) rfl (by k_is) rfl rfl rfl | fail "k_enter: no rule for these arguments"); (case c5 => decide); (case kB => exact locs rfl); (case c2 => exact rfl); (case c3 => exact rfl); (case c4 => exact rfl); k_whole; intro g' L' h' FG' F' N' B' X' T'; (try dsimp only); (try k_lift B'); (try k_fold))))
  · (rename Fr _ _ _ _ => kF); (rename News _ _ _ _ => kN)
    exact hq0 (by omega) _ _ _ _ kF kN
  · (rename Fr _ _ _ _ => kF); (rename News _ _ _ _ => kN)
    have hc : l[i]? = some (l[i]'(by omega)) := List.getElem?_eq_getElem _
    rw [slice_one hc]
    exact hq _ hc _ _ _ _ kF kN
  · (rename Fr _ _ _ _ => kF); (rename News _ _ _ _ => kN)
    have hc : l[i]? = some (l[i]'(by omega)) := List.getElem?_eq_getElem _
    have e : ((S l).length : Int) = (i : Int) + 1 := by omega
    rw [e] at kN ⊢
    rw [slice_one hc]
    exact hq _ hc _ _ _ _ kF kN
theorem rd_call {prog : Program} {w : World} {lo : Program × List Str} {mg mb : Str → Option Value} {A₀ : Around} {dp un : Nat} {outer : List Env} {gd : Option (List Code)} {env : Env} {h : Heap} {gs : Array GenState} {dr : Drawn} {t0 : Nat} {os : OsState} {base h₀ : Heap} {L : Addr} {m : Str → Option Value} {kt vt : Nat → Tok} {x d xi di D1 D2 : Addr} {l : List Nat} {i : Nat} {ti t1 : Tok} {stv tokv lnv : Value} {Q E : Value → Shared → Prop}
    (B : Below A₀ base outer h₀) (F : Fr h₀ L h m) (X : (K0 w.params).In h₀) (N : News h₀ L h (led w.params kt vt x d xi di D1 D2 l i ti stv tokv lnv)) (O : Ord x d xi di D1 D2) (T : TopRead lo.1 lo.2 mg mb h₀)
    (hf : env.frame = some L) (hke : env.scope.kind = .function) (hdp : dp + 3 < 1000) (hl : l.length ≤ 1000) {c : Nat} (hc : l[i]? = some c)
    (hq : ∀ h' ti' t' tk', Fr h₀ L h' m → News h₀ L h' (led w.params kt vt x d xi di D1 D2 l ((i : Int) + 1) ti' stv tokv lnv) → Q (.str (S [c]) t') ⟨h', gs, dr, tk', os⟩) :
    wpAny (model prog w) ⟨none, dp, some (env :: outer), gd, un⟩ (call (.ref 555) [.ref xi, .int 1 t1]) Q E ⟨h, gs, dr, t0, os⟩ := by
  have hi : i < l.length := (List.getElem?_eq_some_iff.mp hc).1
  refine rd_any B F X N O T hf hke hdp hl (Nat.le_of_lt hi) (fun c' e => ?_) (fun e => absurd e (Nat.ne_of_lt hi))
  rw [hc] at e
  cases e
  exact hq
/-- read(1) at the end -/
theorem rd_end {prog : Program} {w : World} {lo : Program × List Str} {mg mb : Str → Option Value} {A₀ : Around} {dp un : Nat} {outer : List Env} {gd : Option (List Code)} {env : Env} {h : Heap} {gs : Array GenState} {dr : Drawn} {t0 : Nat} {os : OsState} {base h₀ : Heap} {L : Addr} {m : Str → Option Value} {kt vt : Nat → Tok} {x d xi di D1 D2 : Addr} {l : List Nat} {i : Nat} {ti t1 : Tok} {stv tokv lnv : Value} {Q E : Value → Shared → Prop}
    (B : Below A₀ base outer h₀) (F : Fr h₀ L h m) (X : (K0 w.params).In h₀) (N : News h₀ L h (led w.params kt vt x d xi di D1 D2 l i ti stv tokv lnv)) (O : Ord x d xi di D1 D2) (T : TopRead lo.1 lo.2 mg mb h₀)
    (hf : env.frame = some L) (hke : env.scope.kind = .function) (hdp : dp + 3 < 1000) (hl : l.length ≤ 1000) (hc : i = l.length)
    (hq : ∀ h' ti' t' tk', Fr h₀ L h' m → News h₀ L h' (led w.params kt vt x d xi di D1 D2 l i ti' stv tokv lnv) → Q (.str (Str.ofString "") t') ⟨h', gs, dr, tk', os⟩) :
    wpAny (model prog w) ⟨none, dp, some (env :: outer), gd, un⟩ (call (.ref 555) [.ref xi, .int 1 t1]) Q E ⟨h, gs, dr, t0, os⟩ := by
  refine rd_any B F X N O T hf hke hdp hl (Nat.le_of_eq hc) (fun c' e => ?_) fun _ => hq
  have := (List.getElem?_eq_some_iff.mp e).1
  omega
end
/-! ### Rt -/
section
theorem fill_rt (P : Params) : (PySem.Challenge.rw_mj0268_01 = PySem.Challenge.rw_mj0268_01 ∧ K0 P = K0 P) := by
  k_fill
  exact ⟨rfl, rfl⟩
local macro_rules | `(tactic| walk_at "execs cons") => `(tactic| (k_here; (with_reducible show wpAny _ _ _ _ _ (Shared.mk _ _ _ (_ + _) _)); (try k_fold); refine gentoks ?_; intro tk hTk; (try dsimp only at hTk)))
/-- one sign met in a state: go on or not, the state, the token, quoted -/
def lstep : Option Nat → List Nat → Bool → Option Nat → Bool × Option Nat × List Nat × Bool
  | none, _, q, _ => (false, none, [], q)
  | some _, tok, q, none => (false, none, tok, q)
  | some k, tok, q, some c =>
    if k = 32 then (if c = 39 then (true, some 39, tok, q) else (true, some 97, [c], q))
    else if k = 97 then (if c = 32 then (false, some 32, tok, q) else if c = 39 ∨ c = 34 then (true, some c, tok, q) else (true, some 97, tok ++ [c], q))
    else if c = k then (true, some 97, tok, true) else (true, some k, tok ++ [c], true)
/-- the turns that are met -/
def lok : Option Nat → List Nat → Bool → Option Nat → Bool
  | none, _, _, c => c == none
  | some k, tok, q, none => k == 32 || k == 97
  | some k, tok, q, some c =>
    if k = 32 then c == 39 || c == 97
    else if k = 97 then (c == 32 && (q || !tok.isEmpty)) || c == 39 || c == 34 || c == 97
    else if k = 34 then c == 34 || c == 39 else k == 39 && c != 92
def lrun : Option Nat → List Nat → Bool → List Nat → Option (Option Nat × List Nat × Bool × List Nat)
  | st, tok, q, [] => if lok st tok q none then let r := lstep st tok q none; some (r.2.1, r.2.2.1, r.2.2.2, []) else none
  | st, tok, q, c :: t => if lok st tok q (some c) then let r := lstep st tok q (some c); if r.1 then lrun r.2.1 r.2.2.1 r.2.2.2 t else some (r.2.1, r.2.2.1, r.2.2.2, t) else none
def stV (st : Option Nat) (t : Tok) : Value := match st with | none => .none | some c => .str (S [c]) t
def mT (x : Addr) (q : Bool) (ev nv : Option Value) : Str → Option Value := fun y => if y = Str.ofString "nextchar" then nv else if y = Str.ofString "escapedstate" then ev else if y = Str.ofString "quoted" then some (.bool q) else List.lookup y [(Str.ofString "self", Value.ref x)].reverse
/-- where a turn of read_token's loop has left things -/
def RtEnd (P : Params) (g : Heap) (L : Addr) (gs : Array GenState) (dr : Drawn) (os : OsState) (kt vt : Nat → Tok) (x d xi di D1 D2 : Addr) (l : List Nat) (res : Option Nat × List Nat × Bool × List Nat) (i0 : Nat) (f : Flow) (s : Shared) : Prop :=
  ∃ (h : Heap) (tk : Nat) (st : Option Nat) (tok : List Nat) (q : Bool) (i : Nat) (ti ts tt : Tok) (ln : Int) (tl : Tok) (ev nv : Option Value), s = ⟨h, gs, dr, tk, os⟩ ∧ Fr g L h (mT x q ev nv) ∧
    News g L h (led P kt vt x d xi di D1 D2 l i ti (stV st ts) (.str (S tok) tt) (.int ln tl)) ∧ i ≤ l.length ∧ tok.length ≤ i ∧
    (((f = .next ∨ f = .cont) ∧ i0 < i ∧ lrun st tok q (l.drop i) = some res) ∨ (f = .brk ∧ (st, tok, q, l.drop i) = res))
theorem RtEnd.go {P : Params} {g h : Heap} {L : Addr} {gs : Array GenState} {dr : Drawn} {os : OsState} {kt vt : Nat → Tok} {x d xi di D1 D2 : Addr} {l : List Nat} {res : Option Nat × List Nat × Bool × List Nat} {i0 i tk : Nat} {tok : List Nat} {q : Bool} {ti ts tt tl : Tok} {ln : Int} {ev nv : Option Value} {R : Flow → Shared → Prop} (e : R = RtEnd P g L gs dr os kt vt x d xi di D1 D2 l res i0) (st : Option Nat)
    (F : Fr g L h (mT x q ev nv)) (N : News g L h (led P kt vt x d xi di D1 D2 l i ti (stV st ts) (.str (S tok) tt) (.int ln tl))) (hi : i ≤ l.length) (ht : tok.length ≤ i) (h0 : i0 < i) (hr : lrun st tok q (l.drop i) = some res) : R .next ⟨h, gs, dr, tk, os⟩ := by
  rw [e]; exact ⟨h, tk, st, tok, q, i, ti, ts, tt, ln, tl, ev, nv, rfl, F, N, hi, ht, .inl ⟨.inl rfl, h0, hr⟩⟩
theorem RtEnd.fin {P : Params} {g h : Heap} {L : Addr} {gs : Array GenState} {dr : Drawn} {os : OsState} {kt vt : Nat → Tok} {x d xi di D1 D2 : Addr} {l : List Nat} {res : Option Nat × List Nat × Bool × List Nat} {i0 i tk : Nat} {tok : List Nat} {q : Bool} {ti ts tt tl : Tok} {ln : Int} {ev nv : Option Value} {R : Flow → Shared → Prop} (e : R = RtEnd P g L gs dr os kt vt x d xi di D1 D2 l res i0) (st : Option Nat)
    (F : Fr g L h (mT x q ev nv)) (N : News g L h (led P kt vt x d xi di D1 D2 l i ti (stV st ts) (.str (S tok) tt) (.int ln tl))) (hi : i ≤ l.length) (ht : tok.length ≤ i) (hr : (st, tok, q, l.drop i) = res) : R .brk ⟨h, gs, dr, tk, os⟩ := by
  rw [e]; exact ⟨h, tk, st, tok, q, i, ti, ts, tt, ln, tl, ev, nv, rfl, F, N, hi, ht, .inr ⟨rfl, hr⟩⟩
/-- what stands between the turns -/
def RtInv (P : Params) (g : Heap) (L : Addr) (gs : Array GenState) (dr : Drawn) (os : OsState) (kt vt : Nat → Tok) (x d xi di D1 D2 : Addr) (l : List Nat) (res : Option Nat × List Nat × Bool × List Nat) (n : Nat) (s : Shared) : Prop :=
  ∃ (h : Heap) (tk : Nat) (st : Option Nat) (tok : List Nat) (q : Bool) (i : Nat) (ti ts tt : Tok) (ln : Int) (tl : Tok) (ev nv : Option Value), s = ⟨h, gs, dr, tk, os⟩ ∧ Fr g L h (mT x q ev nv) ∧
    News g L h (led P kt vt x d xi di D1 D2 l i ti (stV st ts) (.str (S tok) tt) (.int ln tl)) ∧ i ≤ l.length ∧ tok.length ≤ i ∧ lrun st tok q (l.drop i) = some res ∧ n = l.length + 1 - i
theorem S39 : S [39] = Str.ofString "'" := rfl
theorem S34 : S [34] = Str.ofString "\"" := rfl
theorem S97 : S [97] = Str.ofString "a" := rfl
theorem S32 : S [32] = Str.ofString " " := rfl
theorem S10 : S [10] = Str.ofString "\n" := rfl
theorem truthyS {prog : Program} {w : World} {A : Around} {E : Value → Shared → Prop} {s : Shared} {a : Nat} {t : Tok} {Q : Bool → Shared → Prop} (h : Q true { s with toks := s.toks + 1 + 1 }) : wpAny (model prog w) A (truthy (.str (S [a]) t)) Q E s := by
  refine P.truthy_str (by rw [S_len]; show ¬ ((1 : Int) ≥ 2 ^ 63); decide) ?_
  rw [S_len]; exact h
theorem inS_no {prog : Program} {w : World} {A : Around} {E : Value → Shared → Prop} {s : Shared} {x : Str} {c : Nat} {t u : Tok} {Q : Value → Shared → Prop} (h : c ∉ x.cps.toList) (q : Q (.bool false) s) : wpAny (model prog w) A (compareOp .In (.str (S [c]) u) (.str x t)) Q E s :=
  P.in_str (by rw [show S [c] = ⟨#[c]⟩ from rfl, PySem.StrLaws.found_one, decide_eq_false h]; exact q)
theorem eqS_no {prog : Program} {w : World} {A : Around} {E : Value → Shared → Prop} {s : Shared} {x : Str} {c : Nat} {t u : Tok} {Q : Value → Shared → Prop} (h : S [c] ≠ x) (q : Q (.bool false) s) : wpAny (model prog w) A (compareOp .Eq (.str (S [c]) u) (.str x t)) Q E s := by
  refine P.eq_str ?_
  have : ((S [c]).cps.toList == x.cps.toList) = false := by
    rw [beq_eq_false_iff_ne]
    exact fun e => h ((S_ext rfl).trans (congrArg S e) |>.trans (S_ext rfl).symm)
  rw [this]; exact q
section
variable {prog : Program} {w : World} {A : Around} {E : Value → Shared → Prop} {s : Shared} {x y : Str} {t u : Tok}
theorem eqW_t {Q : Value → Shared → Prop} (h : (x.cps.toList == y.cps.toList) = true) (q : Q (.bool true) s) : wpAny (model prog w) A (compareOp .Eq (.str x t) (.str y u)) Q E s := P.eq_str (by rw [h]; exact q)
theorem eqW_f {Q : Value → Shared → Prop} (h : (x.cps.toList == y.cps.toList) = false) (q : Q (.bool false) s) : wpAny (model prog w) A (compareOp .Eq (.str x t) (.str y u)) Q E s := P.eq_str (by rw [h]; exact q)
theorem inW_t {Q : Value → Shared → Prop} (h : (!(Builtin.Str.occurrences x y 0 x.length 1).isEmpty) = true) (q : Q (.bool true) s) : wpAny (model prog w) A (compareOp .In (.str y u) (.str x t)) Q E s := P.in_str (by rw [h]; exact q)
theorem inW_f {Q : Value → Shared → Prop} (h : (!(Builtin.Str.occurrences x y 0 x.length 1).isEmpty) = false) (q : Q (.bool false) s) : wpAny (model prog w) A (compareOp .In (.str y u) (.str x t)) Q E s := P.in_str (by rw [h]; exact q)
theorem trW_t {Q : Bool → Shared → Prop} (h0 : ¬ (x.length : Int) ≥ 2 ^ 63) (h : ((x.length : Int) != 0) = true) (q : Q true { s with toks := s.toks + 1 + 1 }) : wpAny (model prog w) A (truthy (.str x t)) Q E s := P.truthy_str h0 (by rw [h]; exact q)
theorem trW_f {Q : Bool → Shared → Prop} (h0 : ¬ (x.length : Int) ≥ 2 ^ 63) (h : ((x.length : Int) != 0) = false) (q : Q false { s with toks := s.toks + 1 + 1 }) : wpAny (model prog w) A (truthy (.str x t)) Q E s := P.truthy_str h0 (by rw [h]; exact q)
end
theorem truthyL {prog : Program} {w : World} {A : Around} {E : Value → Shared → Prop} {s : Shared} {a : Nat} {r : List Nat} {t : Tok} {Q : Bool → Shared → Prop} (hl : (S (a :: r)).length ≤ 1000) (h : Q true { s with toks := s.toks + 1 + 1 }) : wpAny (model prog w) A (truthy (.str (S (a :: r)) t)) Q E s := by
  refine P.truthy_str (by omega) ?_
  rw [S_len, show (((a :: r).length : Int) != 0) = true from by simp; omega]; exact h
theorem mT_n (x : Addr) (q : Bool) (ev nv : Option Value) (v : Value) : (fun y => if y = Str.ofString "nextchar" then some v else mT x q ev nv y) = mT x q ev (some v) := by
  funext y
  unfold mT
  by_cases e1 : y = Str.ofString "nextchar"
  · rw [if_pos e1, if_pos e1]
  · rw [if_neg e1, if_neg e1, if_neg e1]
theorem mT_nq (x : Addr) (q q' : Bool) (ev nv : Option Value) (v : Value) : (fun y => if y = Str.ofString "quoted" then some (.bool q') else if y = Str.ofString "nextchar" then some v else mT x q ev nv y) = mT x q' ev (some v) := by
  funext y
  unfold mT
  by_cases e1 : y = Str.ofString "quoted"
  · subst e1; rfl
  · rw [if_neg e1]
    by_cases e2 : y = Str.ofString "nextchar"
    · rw [if_pos e2, if_pos e2]
    · rw [if_neg e2, if_neg e2, if_neg e2]
      by_cases e3 : y = Str.ofString "escapedstate"
      · rw [if_pos e3, if_pos e3]
      · rw [if_neg e3, if_neg e3, if_neg e1, if_neg e1]
theorem mT_0 (x : Addr) (v : Value) : (fun y => if y = Str.ofString "escapedstate" then some v else if y = Str.ofString "quoted" then some (Value.bool false) else List.lookup y [(Str.ofString "self", Value.ref x)].reverse) = mT x false (some v) none := by
  funext y
  unfold mT
  by_cases e1 : y = Str.ofString "nextchar"
  · subst e1; rfl
  · rw [if_neg e1]
theorem rt_call {prog : Program} {w : World} {lo : Program × List Str} {mg mb : Str → Option Value} {A₀ : Around} {dp un : Nat} {outer : List Env} {gd : Option (List Code)} {env : Env} {h : Heap} {gs : Array GenState} {dr : Drawn} {t0 : Nat} {os : OsState} {base h₀ : Heap} {L : Addr} {m : Str → Option Value} {kt vt : Nat → Tok} {x d xi di D1 D2 : Addr} {l : List Nat} {i : Nat} {ti : Tok} {st : Option Nat} {ts tt tl : Tok} {ln : Int} {res : Option Nat × List Nat × Bool × List Nat} {Q E : Value → Shared → Prop}
    (B : Below A₀ base outer h₀) (F : Fr h₀ L h m) (X : (K0 w.params).In h₀) (N : News h₀ L h (led w.params kt vt x d xi di D1 D2 l i ti (stV st ts) (.str (S []) tt) (.int ln tl))) (O : Ord x d xi di D1 D2) (T : TopRead lo.1 lo.2 mg mb h₀)
    (hf : env.frame = some L) (hke : env.scope.kind = .function) (hdp : dp + 6 < 1000) (hl : l.length ≤ 1000) (hi : i ≤ l.length) (hr : lrun st [] false (l.drop i) = some res)
    (hq : ∀ h' (i' : Nat) ti' ts' tt' ln' tl' tk' v, i' ≤ l.length → l.drop i' = res.2.2.2 → ((v = .none ∧ res.2.1 = [] ∧ res.2.2.1 = false) ∨ (∃ t, v = .str (S res.2.1) t ∧ (res.2.1 ≠ [] ∨ res.2.2.1 = true))) → Fr h₀ L h' m →
      News h₀ L h' (led w.params kt vt x d xi di D1 D2 l i' ti' (stV res.1 ts') (.str (S []) tt') (.int ln' tl')) → Q v ⟨h', gs, dr, tk', os⟩) :
    wpAny (model prog w) ⟨none, dp, some (env :: outer), gd, un⟩ (call (.ref 712) [.ref x]) Q E ⟨h, gs, dr, t0, os⟩ := by
  have hSl : (S l).length ≤ 1000 := by rw [S_len]; exact hl
  have hlen : (S l).length = l.length := S_len l
  have O' := O
  obtain ⟨o1, o2, o3, o4, o5⟩ := O'
  refine wpAny_call ?_
  refine code_defR (binds := [(Str.ofString "self", .ref x)]) B F X N T rfl hf hke (by k_is) (by k_is) (by k_room) (BindsTo.of_eq rfl) (locs rfl) ?_ rfl rfl rfl (by decide)
  intro g L1 h1 FG F1 N1 B1 X1 T1
  dsimp only
  k_fold
  iterate 11 (first | walk1 | (dsimp only; walk1))
  rename_i ha tkb hTkb hb Fb Nb tkc hTkc
  try dsimp only
  refine wpAny_While (codeAny_whileLoop (RtInv w.params g L1 gs dr os kt vt x d xi di D1 D2 l res) ?_ (l.length + 1 - i) ?_)
  · rintro n s ⟨h3, tk3, st, tok, q, i, ti, ts, tt, ln, tl, ev, nv, rfl, F3, N3, hi, hti, hr, rfl⟩
    clear Nb Fb
    iterate 4 (first | walk1 | (dsimp only; walk1))
    obtain ⟨RE, hRE⟩ : ∃ R, R = RtEnd w.params g L1 gs dr os kt vt x d xi di D1 D2 l res i := ⟨_, rfl⟩
    refine wpAny_mono (Q := RE) ?_ (fun f s₃ h₃ => ?_) (fun _ _ e => e)
    · have hSt : (S tok).length ≤ 1000 := by rw [S_len]; omega
      try k_fold
      iterate 29 (first | (k_unfold; (try dsimp only)) | (first | (with_reducible (k_here; (with_reducible show wpAny _ _ (truthy (Value.str (Str.ofString _) _)) _ _ _); first | refine trW_t (by decide) (by decide) ?_ | refine trW_f (by decide) (by decide) ?_)) | (with_reducible ((with_reducible show LeaveK _ _ _ _ _ _ _); (k_dflt (refine' leaveT ?k1 ?k2 ?_; (case k1 => k_asm); (case k2 => k_asm); k_whole); intro tkL kF kN; ground_anew kF; (have kX := kFor kF (by k_asm)); (try refine ⟨rfl, ?_⟩); (try (refine ⟨⟨by omega, by omega⟩, ?_⟩)); (try (refine handed_on rfl ?_; try dsimp only))))) | walk1) | (dsimp only; (first | (with_reducible (k_here; (with_reducible show wpAny _ _ (truthy (Value.str (Str.ofString _) _)) _ _ _); first | refine trW_t (by decide) (by decide) ?_ | refine trW_f (by decide) (by decide) ?_)) | (with_reducible ((with_reducible show LeaveK _ _ _ _ _ _ _); (k_dflt (refine' leaveT ?k1 ?k2 ?_; (case k1 => k_asm); (case k2 => k_asm); k_whole); intro tkL kF kN; ground_anew kF; (have kX := kFor kF (by k_asm)); (try refine ⟨rfl, ?_⟩); (try (refine ⟨⟨by omega, by omega⟩, ?_⟩)); (try (refine handed_on rfl ?_; try dsimp only))))) | walk1)) | (k_here; (refine' get_prop ?k1 ?k2 ?k3 ?k4 ?k5 ?k6 ?k7 ?k8 ?k9 ?_; (case k1 => k_asm); (case k2 => k_asm); (case k3 => k_inst); (case k4 => k_is); (case k5 => k_is); (case k6 => k_is); (case k7 => k_is); (case k8 => k_is); (case k9 => k_is); k_whole; (refine' code_def1 ?k1 ?k2 ?k3 ?k4 ?k5 ?kA ?kF ?kK ?k6 ?k7 ?k8 ?k9 ?kB ?_ ?c2 ?c3 ?c4 ?c5; (case kA => exact rfl); (case kF => first | exact rfl | assumption); (case kK => first | exact rfl | assumption); (case k1 => k_asm); (case k2 => k_asm); (case k3 => k_asm); (case k4 => k_asm); (case k5 => k_asm); (case k6 => k_is); (case k7 => k_is); (case k8 => k_room); (case k9 => first | exact BindsTo.of_eq rfl | exact binds_K (by k_in) rfl (by k_is) rfl rfl rfl | fail "k_enter: no rule for these arguments"); (case c5 => decide); (case kB => exact locs rfl); (case c2 => exact rfl); (case c3 => exact rfl); (case c4 => exact rfl); k_whole; intro g' L' h' tkE' FG' F' N' B' X' T'; (try dsimp only); (try k_lift B'); (try k_fold)))))
      (rename Fr _ _ _ _ => F3); (rename News _ _ _ _ => N3)
      try dsimp only at F3 N3
      cases hdr : l.drop i with
      | nil =>
        have hil : i = l.length := by
          have := congrArg List.length hdr
          rw [List.length_drop, List.length_nil] at this
          omega
        rw [hdr] at hr
        cases st with
        | none =>
          have hr' : (none, [], q, l.drop i) = res := by
            rw [hdr]
            simpa [lrun, lok, lstep] using hr
          rw [show stV none ts = .none from rfl] at N3
          repeat' (first | (k_unfold; (try dsimp only)) | (k_end; wrow_close) | (first | (with_reducible ((with_reducible show wpAny _ _ (call (Value.ref _) [_, _]) _ _ _); (k_here; (try dsimp only); (with_reducible show wpAny _ _ (call (Value.ref 555) [Value.ref _, Value.int 1 _]) _ _ _); first | (k_dflt (refine rd_call (by k_asm) (by k_asm) (by k_asm) (by k_asm) (by assumption) (by k_asm) rfl rfl (by k_room) (by assumption) (by assumption) ?_); intro h' ti' t' tk' F' N'; (try simp only [S39, S34, S97, S32, S10]); dsimp only [led, lxE, ioE, kE] at N') | (k_dflt (refine rd_end (by k_asm) (by k_asm) (by k_asm) (by k_asm) (by assumption) (by k_asm) rfl rfl (by k_room) (by assumption) (by assumption) ?_); intro h' ti' t' tk' F' N'; (try simp only [S39, S34, S97, S32, S10]); dsimp only [led, lxE, ioE, kE] at N')))) | (with_reducible (k_here; (with_reducible show wpAny _ _ (compareOp _ (Value.str (Str.ofString _) _) (Value.str (Str.ofString _) _)) _ _ _); first | refine eqW_t (by decide +kernel) ?_ | refine eqW_f (by decide +kernel) ?_)) | walk1) | (dsimp only; (first | (with_reducible ((with_reducible show wpAny _ _ (call (Value.ref _) [_, _]) _ _ _); (k_here; (try dsimp only); (with_reducible show wpAny _ _ (call (Value.ref 555) [Value.ref _, Value.int 1 _]) _ _ _); first | (k_dflt (refine rd_call (by k_asm) (by k_asm) (by k_asm) (by k_asm) (by assumption) (by k_asm) rfl rfl (by k_room) (by assumption) (by assumption) ?_); intro h' ti' t' tk' F' N'; (try simp only [S39, S34, S97, S32, S10]); dsimp only [led, lxE, ioE, kE] at N') | (k_dflt (refine rd_end (by k_asm) (by k_asm) (by k_asm) (by k_asm) (by assumption) (by k_asm) rfl rfl (by k_room) (by assumption) (by assumption) ?_); intro h' ti' t' tk' F' N'; (try simp only [S39, S34, S97, S32, S10]); dsimp only [led, lxE, ioE, kE] at N')))) | (with_reducible (k_here; (with_reducible show wpAny _ _ (compareOp _ (Value.str (Str.ofString _) _) (Value.str (Str.ofString _) _)) _ _ _); first | refine eqW_t (by decide +kernel) ?_ | refine eqW_f (by decide +kernel) ?_)) | walk1)) | (leave1; try dsimp only))
          all_goals (
            (rename Fr _ _ _ _ => FE); (rename News _ _ _ _ => NE)
            rw [mT_n] at FE
            exact RtEnd.fin (ts := ts) hRE (none) FE (NE) hi (Nat.zero_le _) hr')
        | some k =>
          have hr' : (none, tok, q, l.drop i) = res := by
            rw [hdr]
            by_cases hk : k = 32 ∨ k = 97
            · rcases hk with rfl | rfl <;> simpa [lrun, lok, lstep] using hr
            · simp only [not_or] at hk
              simp [lrun, lok, hk.1, hk.2] at hr
          by_cases hk : k = 32
          · subst hk
            rw [show stV (some 32) ts = .str (Str.ofString " ") ts from rfl] at N3
            repeat' (first | (k_unfold; (try dsimp only)) | (k_end; wrow_close) | (first | (with_reducible ((with_reducible show wpAny _ _ (call (Value.ref _) [_, _]) _ _ _); (k_here; (try dsimp only); (with_reducible show wpAny _ _ (call (Value.ref 555) [Value.ref _, Value.int 1 _]) _ _ _); first | (k_dflt (refine rd_call (by k_asm) (by k_asm) (by k_asm) (by k_asm) (by assumption) (by k_asm) rfl rfl (by k_room) (by assumption) (by assumption) ?_); intro h' ti' t' tk' F' N'; (try simp only [S39, S34, S97, S32, S10]); dsimp only [led, lxE, ioE, kE] at N') | (k_dflt (refine rd_end (by k_asm) (by k_asm) (by k_asm) (by k_asm) (by assumption) (by k_asm) rfl rfl (by k_room) (by assumption) (by assumption) ?_); intro h' ti' t' tk' F' N'; (try simp only [S39, S34, S97, S32, S10]); dsimp only [led, lxE, ioE, kE] at N')))) | (with_reducible (k_here; (with_reducible show wpAny _ _ (compareOp _ (Value.str (Str.ofString _) _) (Value.str (Str.ofString _) _)) _ _ _); first | refine eqW_t (by decide +kernel) ?_ | refine eqW_f (by decide +kernel) ?_)) | (with_reducible (k_here; (with_reducible show wpAny _ _ (truthy (Value.str (Str.ofString _) _)) _ _ _); first | refine trW_t (by decide) (by decide) ?_ | refine trW_f (by decide) (by decide) ?_)) | walk1) | (dsimp only; (first | (with_reducible ((with_reducible show wpAny _ _ (call (Value.ref _) [_, _]) _ _ _); (k_here; (try dsimp only); (with_reducible show wpAny _ _ (call (Value.ref 555) [Value.ref _, Value.int 1 _]) _ _ _); first | (k_dflt (refine rd_call (by k_asm) (by k_asm) (by k_asm) (by k_asm) (by assumption) (by k_asm) rfl rfl (by k_room) (by assumption) (by assumption) ?_); intro h' ti' t' tk' F' N'; (try simp only [S39, S34, S97, S32, S10]); dsimp only [led, lxE, ioE, kE] at N') | (k_dflt (refine rd_end (by k_asm) (by k_asm) (by k_asm) (by k_asm) (by assumption) (by k_asm) rfl rfl (by k_room) (by assumption) (by assumption) ?_); intro h' ti' t' tk' F' N'; (try simp only [S39, S34, S97, S32, S10]); dsimp only [led, lxE, ioE, kE] at N')))) | (with_reducible (k_here; (with_reducible show wpAny _ _ (compareOp _ (Value.str (Str.ofString _) _) (Value.str (Str.ofString _) _)) _ _ _); first | refine eqW_t (by decide +kernel) ?_ | refine eqW_f (by decide +kernel) ?_)) | (with_reducible (k_here; (with_reducible show wpAny _ _ (truthy (Value.str (Str.ofString _) _)) _ _ _); first | refine trW_t (by decide) (by decide) ?_ | refine trW_f (by decide) (by decide) ?_)) | walk1)) | (leave1; try dsimp only))
            all_goals (
              (rename Fr _ _ _ _ => FE); (rename News _ _ _ _ => NE)
              rw [mT_n] at FE
              exact RtEnd.fin (ts := ts) hRE (none) FE (NE) hi (hti) hr')
          · have hk : k = 97 := by
              by_cases q97 : k = 97
              · exact q97
              · simp [lrun, lok, hk, q97] at hr
            subst hk
            rw [show stV (some 97) ts = .str (Str.ofString "a") ts from rfl] at N3
            repeat' (first | (k_unfold; (try dsimp only)) | (k_end; wrow_close) | (first | (with_reducible ((with_reducible show wpAny _ _ (call (Value.ref _) [_, _]) _ _ _); (k_here; (try dsimp only); (with_reducible show wpAny _ _ (call (Value.ref 555) [Value.ref _, Value.int 1 _]) _ _ _); first | (k_dflt (refine rd_call (by k_asm) (by k_asm) (by k_asm) (by k_asm) (by assumption) (by k_asm) rfl rfl (by k_room) (by assumption) (by assumption) ?_); intro h' ti' t' tk' F' N'; (try simp only [S39, S34, S97, S32, S10]); dsimp only [led, lxE, ioE, kE] at N') | (k_dflt (refine rd_end (by k_asm) (by k_asm) (by k_asm) (by k_asm) (by assumption) (by k_asm) rfl rfl (by k_room) (by assumption) (by assumption) ?_); intro h' ti' t' tk' F' N'; (try simp only [S39, S34, S97, S32, S10]); dsimp only [led, lxE, ioE, kE] at N')))) | (with_reducible (k_here; (with_reducible show wpAny _ _ (compareOp _ (Value.str (Str.ofString _) _) (Value.str (Str.ofString _) _)) _ _ _); first | refine eqW_t (by decide +kernel) ?_ | refine eqW_f (by decide +kernel) ?_)) | (with_reducible (k_here; (with_reducible show wpAny _ _ (compareOp _ (Value.str (Str.ofString _) _) (Value.str (Str.ofString _) _)) _ _ _); first | refine inW_t (by decide +kernel) ?_ | refine inW_f (by decide +kernel) ?_)) | (with_reducible (k_here; (with_reducible show wpAny _ _ (truthy (Value.str (Str.ofString _) _)) _ _ _); first | refine trW_t (by decide) (by decide) ?_ | refine trW_f (by decide) (by decide) ?_)) | walk1) | (dsimp only; (first | (with_reducible ((with_reducible show wpAny _ _ (call (Value.ref _) [_, _]) _ _ _); (k_here; (try dsimp only); (with_reducible show wpAny _ _ (call (Value.ref 555) [Value.ref _, Value.int 1 _]) _ _ _); first | (k_dflt (refine rd_call (by k_asm) (by k_asm) (by k_asm) (by k_asm) (by assumption) (by k_asm) rfl rfl (by k_room) (by assumption) (by assumption) ?_); intro h' ti' t' tk' F' N'; (try simp only [S39, S34, S97, S32, S10]); dsimp only [led, lxE, ioE, kE] at N') | (k_dflt (refine rd_end (by k_asm) (by k_asm) (by k_asm) (by k_asm) (by assumption) (by k_asm) rfl rfl (by k_room) (by assumption) (by assumption) ?_); intro h' ti' t' tk' F' N'; (try simp only [S39, S34, S97, S32, S10]); dsimp only [led, lxE, ioE, kE] at N')))) | (with_reducible (k_here; (with_reducible show wpAny _ _ (compareOp _ (Value.str (Str.ofString _) _) (Value.str (Str.ofString _) _)) _ _ _); first | refine eqW_t (by decide +kernel) ?_ | refine eqW_f (by decide +kernel) ?_)) | (with_reducible (k_here; (with_reducible show wpAny _ _ (compareOp _ (Value.str (Str.ofString _) _) (Value.str (Str.ofString _) _)) _ _ _); first | refine inW_t (by decide +kernel) ?_ | refine inW_f (by decide +kernel) ?_)) | (with_reducible (k_here; (with_reducible show wpAny _ _ (truthy (Value.str (Str.ofString _) _)) _ _ _); first | refine trW_t (by decide) (by decide) ?_ | refine trW_f (by decide) (by decide) ?_)) | walk1)) | (leave1; try dsimp only))
            all_goals (
              (rename Fr _ _ _ _ => FE); (rename News _ _ _ _ => NE)
              rw [mT_n] at FE
              exact RtEnd.fin (ts := ts) hRE (none) FE (fun p hp => NE p (.tail _ hp)) hi (hti) hr')
      | cons c t =>
        have hci : l[i]? = some c := by
          have := congrArg (fun z => z[0]?) hdr
          simpa [List.getElem?_drop] using this
        have hdr1 : l.drop (i + 1) = t := by
          have := congrArg (List.drop 1) hdr
          simpa [List.drop_drop] using this
        have hil : i < l.length := (List.getElem?_eq_some_iff.mp hci).1
        rw [hdr] at hr
        cases st with
        | none => simp [lrun, lok] at hr
        | some k =>
          by_cases c10 : c = 10
          · have hk : k = 39 := by
              subst c10
              by_cases q39 : k = 39
              · exact q39
              · by_cases q34 : k = 34 <;> by_cases q32 : k = 32 <;> by_cases q97 : k = 97 <;> simp [lrun, lok, *] at hr
            subst hk c10
            have hr' : lrun (some 39) (tok ++ [10]) true (l.drop (i + 1)) = some res := by
              rw [hdr1]
              simpa [lrun, lok, lstep] using hr
            rw [show stV (some 39) ts = .str (Str.ofString "'") ts from rfl] at N3
            repeat' (first | (k_unfold; (try dsimp only)) | (k_end; wrow_close) | (first | (with_reducible ((with_reducible show wpAny _ _ (call (Value.ref _) [_, _]) _ _ _); (k_here; (try dsimp only); (with_reducible show wpAny _ _ (call (Value.ref 555) [Value.ref _, Value.int 1 _]) _ _ _); first | (k_dflt (refine rd_call (by k_asm) (by k_asm) (by k_asm) (by k_asm) (by assumption) (by k_asm) rfl rfl (by k_room) (by assumption) (by assumption) ?_); intro h' ti' t' tk' F' N'; (try simp only [S39, S34, S97, S32, S10]); dsimp only [led, lxE, ioE, kE] at N') | (k_dflt (refine rd_end (by k_asm) (by k_asm) (by k_asm) (by k_asm) (by assumption) (by k_asm) rfl rfl (by k_room) (by assumption) (by assumption) ?_); intro h' ti' t' tk' F' N'; (try simp only [S39, S34, S97, S32, S10]); dsimp only [led, lxE, ioE, kE] at N')))) | (with_reducible (k_here; (with_reducible show wpAny _ _ (compareOp _ (Value.str (Str.ofString _) _) (Value.str (Str.ofString _) _)) _ _ _); first | refine eqW_t (by decide +kernel) ?_ | refine eqW_f (by decide +kernel) ?_)) | (with_reducible (k_here; (with_reducible show wpAny _ _ (compareOp _ (Value.str (Str.ofString _) _) (Value.str (Str.ofString _) _)) _ _ _); first | refine inW_t (by decide +kernel) ?_ | refine inW_f (by decide +kernel) ?_)) | (with_reducible (k_here; (with_reducible show wpAny _ _ (truthy (Value.str (Str.ofString _) _)) _ _ _); first | refine trW_t (by decide) (by decide) ?_ | refine trW_f (by decide) (by decide) ?_)) | walk1) | (dsimp only; (first | (with_reducible ((with_reducible show wpAny _ _ (call (Value.ref _) [_, _]) _ _ _); (k_here; (try dsimp only); (with_reducible show wpAny _ _ (call (Value.ref 555) [Value.ref _, Value.int 1 _]) _ _ _); first | (k_dflt (refine rd_call (by k_asm) (by k_asm) (by k_asm) (by k_asm) (by assumption) (by k_asm) rfl rfl (by k_room) (by assumption) (by assumption) ?_); intro h' ti' t' tk' F' N'; (try simp only [S39, S34, S97, S32, S10]); dsimp only [led, lxE, ioE, kE] at N') | (k_dflt (refine rd_end (by k_asm) (by k_asm) (by k_asm) (by k_asm) (by assumption) (by k_asm) rfl rfl (by k_room) (by assumption) (by assumption) ?_); intro h' ti' t' tk' F' N'; (try simp only [S39, S34, S97, S32, S10]); dsimp only [led, lxE, ioE, kE] at N')))) | (with_reducible (k_here; (with_reducible show wpAny _ _ (compareOp _ (Value.str (Str.ofString _) _) (Value.str (Str.ofString _) _)) _ _ _); first | refine eqW_t (by decide +kernel) ?_ | refine eqW_f (by decide +kernel) ?_)) | (with_reducible (k_here; (with_reducible show wpAny _ _ (compareOp _ (Value.str (Str.ofString _) _) (Value.str (Str.ofString _) _)) _ _ _); first | refine inW_t (by decide +kernel) ?_ | refine inW_f (by decide +kernel) ?_)) | (with_reducible (k_here; (with_reducible show wpAny _ _ (truthy (Value.str (Str.ofString _) _)) _ _ _); first | refine trW_t (by decide) (by decide) ?_ | refine trW_f (by decide) (by decide) ?_)) | walk1)) | (leave1; try dsimp only))
            all_goals (
              (rename Fr _ _ _ _ => FE); (rename News _ _ _ _ => NE)
              rw [mT_nq] at FE
              rw [← S10, S_cat] at NE
              exact RtEnd.go hRE (some 39) FE (NE) hil (by rw [List.length_append]; show tok.length + 1 ≤ i + 1; omega) (Nat.lt_succ_self _) hr')
          · have nl : S [c] ≠ Str.ofString "\n" := fun e => c10 (by have := S_inj (e.trans S10.symm); simpa using this)
            rw [show stV (some k) ts = .str (S [k]) ts from rfl] at N3
            iterate 37 (first | (k_unfold; (try dsimp only)) | (first | (with_reducible ((with_reducible show wpAny _ _ (call (Value.ref _) [_, _]) _ _ _); (k_here; (try dsimp only); (with_reducible show wpAny _ _ (call (Value.ref 555) [Value.ref _, Value.int 1 _]) _ _ _); first | (k_dflt (refine rd_call (by k_asm) (by k_asm) (by k_asm) (by k_asm) (by assumption) (by k_asm) rfl rfl (by k_room) (by assumption) (by assumption) ?_); intro h' ti' t' tk' F' N'; (try simp only [S39, S34, S97, S32, S10]); dsimp only [led, lxE, ioE, kE] at N') | (k_dflt (refine rd_end (by k_asm) (by k_asm) (by k_asm) (by k_asm) (by assumption) (by k_asm) rfl rfl (by k_room) (by assumption) (by assumption) ?_); intro h' ti' t' tk' F' N'; (try simp only [S39, S34, S97, S32, S10]); dsimp only [led, lxE, ioE, kE] at N')))) | (with_reducible (k_here; (with_reducible show wpAny _ _ (compareOp _ (Value.str (S [_]) _) (Value.str _ _)) _ _ _); refine eqS_no (by assumption) ?_)) | walk1) | (dsimp only; (first | (with_reducible ((with_reducible show wpAny _ _ (call (Value.ref _) [_, _]) _ _ _); (k_here; (try dsimp only); (with_reducible show wpAny _ _ (call (Value.ref 555) [Value.ref _, Value.int 1 _]) _ _ _); first | (k_dflt (refine rd_call (by k_asm) (by k_asm) (by k_asm) (by k_asm) (by assumption) (by k_asm) rfl rfl (by k_room) (by assumption) (by assumption) ?_); intro h' ti' t' tk' F' N'; (try simp only [S39, S34, S97, S32, S10]); dsimp only [led, lxE, ioE, kE] at N') | (k_dflt (refine rd_end (by k_asm) (by k_asm) (by k_asm) (by k_asm) (by assumption) (by k_asm) rfl rfl (by k_room) (by assumption) (by assumption) ?_); intro h' ti' t' tk' F' N'; (try simp only [S39, S34, S97, S32, S10]); dsimp only [led, lxE, ioE, kE] at N')))) | (with_reducible (k_here; (with_reducible show wpAny _ _ (compareOp _ (Value.str (S [_]) _) (Value.str _ _)) _ _ _); refine eqS_no (by assumption) ?_)) | walk1)))
            (rename Fr _ _ _ _ => F3); (rename News _ _ _ _ => N3)
            try dsimp only at F3 N3
            by_cases hk39 : k = 39
            · subst hk39
              by_cases hc39 : c = 39
              · have hc := hc39
                subst hc
                have hr' : lrun (some 97) (tok) true (l.drop (i + 1)) = some res := by
                  rw [hdr1]
                  simpa [lrun, lok, lstep] using hr
                (try simp only [S39, S34, S97, S32] at N3); (try simp only [S39, S34, S97, S32] at F3)
                repeat' (first | (k_unfold; (try dsimp only)) | (k_end; wrow_close) | (first | (with_reducible (k_here; (with_reducible show wpAny _ _ (compareOp _ (Value.str (Str.ofString _) _) (Value.str (Str.ofString _) _)) _ _ _); first | refine eqW_t (by decide +kernel) ?_ | refine eqW_f (by decide +kernel) ?_)) | (with_reducible (k_here; (with_reducible show wpAny _ _ (compareOp _ (Value.str (Str.ofString _) _) (Value.str (Str.ofString _) _)) _ _ _); first | refine inW_t (by decide +kernel) ?_ | refine inW_f (by decide +kernel) ?_)) | (with_reducible (k_here; (with_reducible show wpAny _ _ (truthy (Value.str (Str.ofString _) _)) _ _ _); first | refine trW_t (by decide) (by decide) ?_ | refine trW_f (by decide) (by decide) ?_)) | walk1) | (dsimp only; (first | (with_reducible (k_here; (with_reducible show wpAny _ _ (compareOp _ (Value.str (Str.ofString _) _) (Value.str (Str.ofString _) _)) _ _ _); first | refine eqW_t (by decide +kernel) ?_ | refine eqW_f (by decide +kernel) ?_)) | (with_reducible (k_here; (with_reducible show wpAny _ _ (compareOp _ (Value.str (Str.ofString _) _) (Value.str (Str.ofString _) _)) _ _ _); first | refine inW_t (by decide +kernel) ?_ | refine inW_f (by decide +kernel) ?_)) | (with_reducible (k_here; (with_reducible show wpAny _ _ (truthy (Value.str (Str.ofString _) _)) _ _ _); first | refine trW_t (by decide) (by decide) ?_ | refine trW_f (by decide) (by decide) ?_)) | walk1)) | (leave1; try dsimp only))
                all_goals (
                  (rename Fr _ _ _ _ => FE); (rename News _ _ _ _ => NE)
                  rw [mT_nq] at FE
                  exact RtEnd.go hRE (some 97) FE (NE) hil (by omega) (Nat.lt_succ_self _) hr')
              · have h92 : c ≠ 92 := by
                  rintro rfl
                  simp [lrun, lok] at hr
                have hr' : lrun (some 39) (tok ++ [c]) true (l.drop (i + 1)) = some res := by
                  rw [hdr1]
                  simpa [lrun, lok, lstep, h92, hc39] using hr
                have n1 : S [c] ≠ Str.ofString "'" := fun e => hc39 (by have := S_inj (e.trans S39.symm); simpa using this)
                have n2 : c ∉ (Str.ofString "\\").cps.toList := by show c ∉ [92]; simpa using h92
                (try simp only [S39, S34, S97, S32] at N3); (try simp only [S39, S34, S97, S32] at F3)
                have hSc : (S [c]).length ≤ 1 := by rw [S_len]; exact Nat.le_refl _
                repeat' (first | (k_unfold; (try dsimp only)) | (k_end; wrow_close) | (first | (with_reducible (k_here; (with_reducible show wpAny _ _ (compareOp _ (Value.str (S [_]) _) (Value.str _ _)) _ _ _); refine eqS_no (by assumption) ?_)) | (with_reducible (k_here; (with_reducible show wpAny _ _ (compareOp _ (Value.str (S [_]) _) (Value.str _ _)) _ _ _); refine inS_no (by assumption) ?_)) | (with_reducible (k_here; (with_reducible show wpAny _ _ (truthy (Value.str (S [_]) _)) _ _ _); refine truthyS ?_)) | (with_reducible (k_here; (with_reducible show wpAny _ _ (compareOp _ (Value.str (Str.ofString _) _) (Value.str (Str.ofString _) _)) _ _ _); first | refine eqW_t (by decide +kernel) ?_ | refine eqW_f (by decide +kernel) ?_)) | (with_reducible (k_here; (with_reducible show wpAny _ _ (compareOp _ (Value.str (Str.ofString _) _) (Value.str (Str.ofString _) _)) _ _ _); first | refine inW_t (by decide +kernel) ?_ | refine inW_f (by decide +kernel) ?_)) | walk1) | (dsimp only; (first | (with_reducible (k_here; (with_reducible show wpAny _ _ (compareOp _ (Value.str (S [_]) _) (Value.str _ _)) _ _ _); refine eqS_no (by assumption) ?_)) | (with_reducible (k_here; (with_reducible show wpAny _ _ (compareOp _ (Value.str (S [_]) _) (Value.str _ _)) _ _ _); refine inS_no (by assumption) ?_)) | (with_reducible (k_here; (with_reducible show wpAny _ _ (truthy (Value.str (S [_]) _)) _ _ _); refine truthyS ?_)) | (with_reducible (k_here; (with_reducible show wpAny _ _ (compareOp _ (Value.str (Str.ofString _) _) (Value.str (Str.ofString _) _)) _ _ _); first | refine eqW_t (by decide +kernel) ?_ | refine eqW_f (by decide +kernel) ?_)) | (with_reducible (k_here; (with_reducible show wpAny _ _ (compareOp _ (Value.str (Str.ofString _) _) (Value.str (Str.ofString _) _)) _ _ _); first | refine inW_t (by decide +kernel) ?_ | refine inW_f (by decide +kernel) ?_)) | walk1)) | (leave1; try dsimp only))
                all_goals (
                  (rename Fr _ _ _ _ => FE); (rename News _ _ _ _ => NE)
                  rw [mT_nq] at FE
                  rw [S_cat] at NE
                  exact RtEnd.go hRE (some 39) FE (NE) hil (by rw [List.length_append]; show tok.length + 1 ≤ i + 1; omega) (Nat.lt_succ_self _) hr')
            · by_cases hk34 : k = 34
              · subst hk34
                by_cases hc : c = 34
                · subst hc
                  have hr' : lrun (some 97) (tok) true (l.drop (i + 1)) = some res := by
                    rw [hdr1]
                    simpa [lrun, lok, lstep] using hr
                  (try simp only [S39, S34, S97, S32] at N3); (try simp only [S39, S34, S97, S32] at F3)
                  repeat' (first | (k_unfold; (try dsimp only)) | (k_end; wrow_close) | (first | (with_reducible (k_here; (with_reducible show wpAny _ _ (compareOp _ (Value.str (Str.ofString _) _) (Value.str (Str.ofString _) _)) _ _ _); first | refine eqW_t (by decide +kernel) ?_ | refine eqW_f (by decide +kernel) ?_)) | (with_reducible (k_here; (with_reducible show wpAny _ _ (compareOp _ (Value.str (Str.ofString _) _) (Value.str (Str.ofString _) _)) _ _ _); first | refine inW_t (by decide +kernel) ?_ | refine inW_f (by decide +kernel) ?_)) | (with_reducible (k_here; (with_reducible show wpAny _ _ (truthy (Value.str (Str.ofString _) _)) _ _ _); first | refine trW_t (by decide) (by decide) ?_ | refine trW_f (by decide) (by decide) ?_)) | walk1) | (dsimp only; (first | (with_reducible (k_here; (with_reducible show wpAny _ _ (compareOp _ (Value.str (Str.ofString _) _) (Value.str (Str.ofString _) _)) _ _ _); first | refine eqW_t (by decide +kernel) ?_ | refine eqW_f (by decide +kernel) ?_)) | (with_reducible (k_here; (with_reducible show wpAny _ _ (compareOp _ (Value.str (Str.ofString _) _) (Value.str (Str.ofString _) _)) _ _ _); first | refine inW_t (by decide +kernel) ?_ | refine inW_f (by decide +kernel) ?_)) | (with_reducible (k_here; (with_reducible show wpAny _ _ (truthy (Value.str (Str.ofString _) _)) _ _ _); first | refine trW_t (by decide) (by decide) ?_ | refine trW_f (by decide) (by decide) ?_)) | walk1)) | (leave1; try dsimp only))
                  all_goals (
                    (rename Fr _ _ _ _ => FE); (rename News _ _ _ _ => NE)
                    rw [mT_nq] at FE
                    exact RtEnd.go hRE (some 97) FE (NE) hil (by omega) (Nat.lt_succ_self _) hr')
                · have hc : c = 39 := by
                    by_cases q39 : c = 39
                    · exact q39
                    · simp [lrun, lok, hc, q39] at hr
                  subst hc
                  have hr' : lrun (some 34) (tok ++ [39]) true (l.drop (i + 1)) = some res := by
                    rw [hdr1]
                    simpa [lrun, lok, lstep] using hr
                  (try simp only [S39, S34, S97, S32] at N3); (try simp only [S39, S34, S97, S32] at F3)
                  repeat' (first | (k_unfold; (try dsimp only)) | (k_end; wrow_close) | (first | (with_reducible (k_here; (with_reducible show wpAny _ _ (compareOp _ (Value.str (Str.ofString _) _) (Value.str (Str.ofString _) _)) _ _ _); first | refine eqW_t (by decide +kernel) ?_ | refine eqW_f (by decide +kernel) ?_)) | (with_reducible (k_here; (with_reducible show wpAny _ _ (compareOp _ (Value.str (Str.ofString _) _) (Value.str (Str.ofString _) _)) _ _ _); first | refine inW_t (by decide +kernel) ?_ | refine inW_f (by decide +kernel) ?_)) | (with_reducible (k_here; (with_reducible show wpAny _ _ (truthy (Value.str (Str.ofString _) _)) _ _ _); first | refine trW_t (by decide) (by decide) ?_ | refine trW_f (by decide) (by decide) ?_)) | walk1) | (dsimp only; (first | (with_reducible (k_here; (with_reducible show wpAny _ _ (compareOp _ (Value.str (Str.ofString _) _) (Value.str (Str.ofString _) _)) _ _ _); first | refine eqW_t (by decide +kernel) ?_ | refine eqW_f (by decide +kernel) ?_)) | (with_reducible (k_here; (with_reducible show wpAny _ _ (compareOp _ (Value.str (Str.ofString _) _) (Value.str (Str.ofString _) _)) _ _ _); first | refine inW_t (by decide +kernel) ?_ | refine inW_f (by decide +kernel) ?_)) | (with_reducible (k_here; (with_reducible show wpAny _ _ (truthy (Value.str (Str.ofString _) _)) _ _ _); first | refine trW_t (by decide) (by decide) ?_ | refine trW_f (by decide) (by decide) ?_)) | walk1)) | (leave1; try dsimp only))
                  all_goals (
                    (rename Fr _ _ _ _ => FE); (rename News _ _ _ _ => NE)
                    rw [mT_nq] at FE
                    rw [← S39, S_cat] at NE
                    exact RtEnd.go hRE (some 34) FE (NE) hil (by rw [List.length_append]; show tok.length + 1 ≤ i + 1; omega) (Nat.lt_succ_self _) hr')
              · by_cases hk32 : k = 32
                · subst hk32
                  by_cases hc : c = 39
                  · subst hc
                    have hr' : lrun (some 39) (tok) q (l.drop (i + 1)) = some res := by
                      rw [hdr1]
                      simpa [lrun, lok, lstep] using hr
                    (try simp only [S39, S34, S97, S32] at N3); (try simp only [S39, S34, S97, S32] at F3)
                    repeat' (first | (k_unfold; (try dsimp only)) | (k_end; wrow_close) | (first | (with_reducible (k_here; (with_reducible show wpAny _ _ (compareOp _ (Value.str (Str.ofString _) _) (Value.str (Str.ofString _) _)) _ _ _); first | refine eqW_t (by decide +kernel) ?_ | refine eqW_f (by decide +kernel) ?_)) | (with_reducible (k_here; (with_reducible show wpAny _ _ (compareOp _ (Value.str (Str.ofString _) _) (Value.str (Str.ofString _) _)) _ _ _); first | refine inW_t (by decide +kernel) ?_ | refine inW_f (by decide +kernel) ?_)) | (with_reducible (k_here; (with_reducible show wpAny _ _ (truthy (Value.str (Str.ofString _) _)) _ _ _); first | refine trW_t (by decide) (by decide) ?_ | refine trW_f (by decide) (by decide) ?_)) | (with_reducible ((with_reducible show LeaveK _ _ _ _ _ _ _); (k_dflt (refine' leaveT ?k1 ?k2 ?_; (case k1 => k_asm); (case k2 => k_asm); k_whole); intro tkL kF kN; ground_anew kF; (have kX := kFor kF (by k_asm)); (try refine ⟨rfl, ?_⟩); (try (refine ⟨⟨by omega, by omega⟩, ?_⟩)); (try (refine handed_on rfl ?_; try dsimp only))))) | walk1) | (dsimp only; (first | (with_reducible (k_here; (with_reducible show wpAny _ _ (compareOp _ (Value.str (Str.ofString _) _) (Value.str (Str.ofString _) _)) _ _ _); first | refine eqW_t (by decide +kernel) ?_ | refine eqW_f (by decide +kernel) ?_)) | (with_reducible (k_here; (with_reducible show wpAny _ _ (compareOp _ (Value.str (Str.ofString _) _) (Value.str (Str.ofString _) _)) _ _ _); first | refine inW_t (by decide +kernel) ?_ | refine inW_f (by decide +kernel) ?_)) | (with_reducible (k_here; (with_reducible show wpAny _ _ (truthy (Value.str (Str.ofString _) _)) _ _ _); first | refine trW_t (by decide) (by decide) ?_ | refine trW_f (by decide) (by decide) ?_)) | (with_reducible ((with_reducible show LeaveK _ _ _ _ _ _ _); (k_dflt (refine' leaveT ?k1 ?k2 ?_; (case k1 => k_asm); (case k2 => k_asm); k_whole); intro tkL kF kN; ground_anew kF; (have kX := kFor kF (by k_asm)); (try refine ⟨rfl, ?_⟩); (try (refine ⟨⟨by omega, by omega⟩, ?_⟩)); (try (refine handed_on rfl ?_; try dsimp only))))) | walk1)) | (leave1; try dsimp only) | (k_here; (refine' get_prop ?k1 ?k2 ?k3 ?k4 ?k5 ?k6 ?k7 ?k8 ?k9 ?_; (case k1 => k_asm); (case k2 => k_asm); (case k3 => k_inst); (case k4 => k_is); (case k5 => k_is); (case k6 => k_is); (case k7 => k_is); (case k8 => k_is); (case k9 => k_is); k_whole; (refine' code_def1 ?k1 ?k2 ?k3 ?k4 ?k5 ?kA ?kF ?kK ?k6 ?k7 ?k8 ?k9 ?kB ?_ ?c2 ?c3 ?c4 ?c5; (case kA => exact rfl); (case kF => first | exact rfl | assumption); (case kK => first | exact rfl | assumption); (case k1 => k_asm); (case k2 => k_asm); (case k3 => k_asm); (case k4 => k_asm); (case k5 => k_asm); (case k6 => k_is); (case k7 => k_is); (case k8 => k_room); (case k9 => first | exact BindsTo.of_eq rfl | exact binds_K (by k_in) rfl (by k_is) rfl rfl rfl | fail "k_enter: no rule for these arguments"); (case c5 => decide); (case kB => exact locs rfl); (case c2 => exact rfl); (case c3 => exact rfl); (case c4 => exact rfl); k_whole; intro g' L' h' tkE' FG' F' N' B' X' T'; (try dsimp only); (try k_lift B'); (try k_fold)))))
                    all_goals (
                      (rename Fr _ _ _ _ => FE); (rename News _ _ _ _ => NE)
                      rw [mT_n] at FE
                      exact RtEnd.go hRE (some 39) FE (NE) hil (by omega) (Nat.lt_succ_self _) hr')
                  · have hc : c = 97 := by
                      by_cases q97 : c = 97
                      · exact q97
                      · simp [lrun, lok, hc, q97] at hr
                    subst hc
                    have hr' : lrun (some 97) ([97]) q (l.drop (i + 1)) = some res := by
                      rw [hdr1]
                      simpa [lrun, lok, lstep] using hr
                    (try simp only [S39, S34, S97, S32] at N3); (try simp only [S39, S34, S97, S32] at F3)
                    repeat' (first | (k_unfold; (try dsimp only)) | (k_end; wrow_close) | (first | (with_reducible (k_here; (with_reducible show wpAny _ _ (compareOp _ (Value.str (Str.ofString _) _) (Value.str (Str.ofString _) _)) _ _ _); first | refine eqW_t (by decide +kernel) ?_ | refine eqW_f (by decide +kernel) ?_)) | (with_reducible (k_here; (with_reducible show wpAny _ _ (compareOp _ (Value.str (Str.ofString _) _) (Value.str (Str.ofString _) _)) _ _ _); first | refine inW_t (by decide +kernel) ?_ | refine inW_f (by decide +kernel) ?_)) | (with_reducible (k_here; (with_reducible show wpAny _ _ (truthy (Value.str (Str.ofString _) _)) _ _ _); first | refine trW_t (by decide) (by decide) ?_ | refine trW_f (by decide) (by decide) ?_)) | walk1) | (dsimp only; (first | (with_reducible (k_here; (with_reducible show wpAny _ _ (compareOp _ (Value.str (Str.ofString _) _) (Value.str (Str.ofString _) _)) _ _ _); first | refine eqW_t (by decide +kernel) ?_ | refine eqW_f (by decide +kernel) ?_)) | (with_reducible (k_here; (with_reducible show wpAny _ _ (compareOp _ (Value.str (Str.ofString _) _) (Value.str (Str.ofString _) _)) _ _ _); first | refine inW_t (by decide +kernel) ?_ | refine inW_f (by decide +kernel) ?_)) | (with_reducible (k_here; (with_reducible show wpAny _ _ (truthy (Value.str (Str.ofString _) _)) _ _ _); first | refine trW_t (by decide) (by decide) ?_ | refine trW_f (by decide) (by decide) ?_)) | walk1)) | (leave1; try dsimp only))
                    all_goals (
                      (rename Fr _ _ _ _ => FE); (rename News _ _ _ _ => NE)
                      rw [mT_n] at FE
                      exact RtEnd.go hRE (some 97) FE (NE) hil (by show 1 ≤ i + 1; omega) (Nat.lt_succ_self _) hr')
                · have hk97 : k = 97 := by
                    by_cases q97 : k = 97
                    · exact q97
                    · simp [lrun, lok, hk39, hk34, hk32, q97] at hr
                  subst hk97
                  by_cases hc : c = 39
                  · subst hc
                    have hr' : lrun (some 39) (tok) q (l.drop (i + 1)) = some res := by
                      rw [hdr1]
                      simpa [lrun, lok, lstep] using hr
                    (try simp only [S39, S34, S97, S32] at N3); (try simp only [S39, S34, S97, S32] at F3)
                    repeat' (first | (k_unfold; (try dsimp only)) | (k_end; wrow_close) | (first | (with_reducible (k_here; (with_reducible show wpAny _ _ (compareOp _ (Value.str (Str.ofString _) _) (Value.str (Str.ofString _) _)) _ _ _); first | refine eqW_t (by decide +kernel) ?_ | refine eqW_f (by decide +kernel) ?_)) | (with_reducible (k_here; (with_reducible show wpAny _ _ (compareOp _ (Value.str (Str.ofString _) _) (Value.str (Str.ofString _) _)) _ _ _); first | refine inW_t (by decide +kernel) ?_ | refine inW_f (by decide +kernel) ?_)) | (with_reducible (k_here; (with_reducible show wpAny _ _ (truthy (Value.str (Str.ofString _) _)) _ _ _); first | refine trW_t (by decide) (by decide) ?_ | refine trW_f (by decide) (by decide) ?_)) | walk1) | (dsimp only; (first | (with_reducible (k_here; (with_reducible show wpAny _ _ (compareOp _ (Value.str (Str.ofString _) _) (Value.str (Str.ofString _) _)) _ _ _); first | refine eqW_t (by decide +kernel) ?_ | refine eqW_f (by decide +kernel) ?_)) | (with_reducible (k_here; (with_reducible show wpAny _ _ (compareOp _ (Value.str (Str.ofString _) _) (Value.str (Str.ofString _) _)) _ _ _); first | refine inW_t (by decide +kernel) ?_ | refine inW_f (by decide +kernel) ?_)) | (with_reducible (k_here; (with_reducible show wpAny _ _ (truthy (Value.str (Str.ofString _) _)) _ _ _); first | refine trW_t (by decide) (by decide) ?_ | refine trW_f (by decide) (by decide) ?_)) | walk1)) | (leave1; try dsimp only))
                    all_goals (
                      (rename Fr _ _ _ _ => FE); (rename News _ _ _ _ => NE)
                      rw [mT_n] at FE
                      exact RtEnd.go hRE (some 39) FE (fun p hp => NE p (.tail _ hp)) hil (by omega) (Nat.lt_succ_self _) hr')
                  by_cases hc : c = 34
                  · subst hc
                    have hr' : lrun (some 34) (tok) q (l.drop (i + 1)) = some res := by
                      rw [hdr1]
                      simpa [lrun, lok, lstep] using hr
                    (try simp only [S39, S34, S97, S32] at N3); (try simp only [S39, S34, S97, S32] at F3)
                    repeat' (first | (k_unfold; (try dsimp only)) | (k_end; wrow_close) | (first | (with_reducible (k_here; (with_reducible show wpAny _ _ (compareOp _ (Value.str (Str.ofString _) _) (Value.str (Str.ofString _) _)) _ _ _); first | refine eqW_t (by decide +kernel) ?_ | refine eqW_f (by decide +kernel) ?_)) | (with_reducible (k_here; (with_reducible show wpAny _ _ (compareOp _ (Value.str (Str.ofString _) _) (Value.str (Str.ofString _) _)) _ _ _); first | refine inW_t (by decide +kernel) ?_ | refine inW_f (by decide +kernel) ?_)) | (with_reducible (k_here; (with_reducible show wpAny _ _ (truthy (Value.str (Str.ofString _) _)) _ _ _); first | refine trW_t (by decide) (by decide) ?_ | refine trW_f (by decide) (by decide) ?_)) | walk1) | (dsimp only; (first | (with_reducible (k_here; (with_reducible show wpAny _ _ (compareOp _ (Value.str (Str.ofString _) _) (Value.str (Str.ofString _) _)) _ _ _); first | refine eqW_t (by decide +kernel) ?_ | refine eqW_f (by decide +kernel) ?_)) | (with_reducible (k_here; (with_reducible show wpAny _ _ (compareOp _ (Value.str (Str.ofString _) _) (Value.str (Str.ofString _) _)) _ _ _); first | refine inW_t (by decide +kernel) ?_ | refine inW_f (by decide +kernel) ?_)) | (with_reducible (k_here; (with_reducible show wpAny _ _ (truthy (Value.str (Str.ofString _) _)) _ _ _); first | refine trW_t (by decide) (by decide) ?_ | refine trW_f (by decide) (by decide) ?_)) | walk1)) | (leave1; try dsimp only))
                    all_goals (
                      (rename Fr _ _ _ _ => FE); (rename News _ _ _ _ => NE)
                      rw [mT_n] at FE
                      exact RtEnd.go hRE (some 34) FE (fun p hp => NE p (.tail _ hp)) hil (by omega) (Nat.lt_succ_self _) hr')
                  by_cases hc : c = 97
                  · subst hc
                    have hr' : lrun (some 97) (tok ++ [97]) q (l.drop (i + 1)) = some res := by
                      rw [hdr1]
                      simpa [lrun, lok, lstep] using hr
                    (try simp only [S39, S34, S97, S32] at N3); (try simp only [S39, S34, S97, S32] at F3)
                    repeat' (first | (k_unfold; (try dsimp only)) | (k_end; wrow_close) | (first | (with_reducible (k_here; (with_reducible show wpAny _ _ (compareOp _ (Value.str (Str.ofString _) _) (Value.str (Str.ofString _) _)) _ _ _); first | refine eqW_t (by decide +kernel) ?_ | refine eqW_f (by decide +kernel) ?_)) | (with_reducible (k_here; (with_reducible show wpAny _ _ (compareOp _ (Value.str (Str.ofString _) _) (Value.str (Str.ofString _) _)) _ _ _); first | refine inW_t (by decide +kernel) ?_ | refine inW_f (by decide +kernel) ?_)) | (with_reducible (k_here; (with_reducible show wpAny _ _ (truthy (Value.str (Str.ofString _) _)) _ _ _); first | refine trW_t (by decide) (by decide) ?_ | refine trW_f (by decide) (by decide) ?_)) | walk1) | (dsimp only; (first | (with_reducible (k_here; (with_reducible show wpAny _ _ (compareOp _ (Value.str (Str.ofString _) _) (Value.str (Str.ofString _) _)) _ _ _); first | refine eqW_t (by decide +kernel) ?_ | refine eqW_f (by decide +kernel) ?_)) | (with_reducible (k_here; (with_reducible show wpAny _ _ (compareOp _ (Value.str (Str.ofString _) _) (Value.str (Str.ofString _) _)) _ _ _); first | refine inW_t (by decide +kernel) ?_ | refine inW_f (by decide +kernel) ?_)) | (with_reducible (k_here; (with_reducible show wpAny _ _ (truthy (Value.str (Str.ofString _) _)) _ _ _); first | refine trW_t (by decide) (by decide) ?_ | refine trW_f (by decide) (by decide) ?_)) | walk1)) | (leave1; try dsimp only))
                    all_goals (
                      (rename Fr _ _ _ _ => FE); (rename News _ _ _ _ => NE)
                      rw [mT_n] at FE
                      rw [← S97, S_cat] at NE
                      exact RtEnd.go hRE (some 97) FE (fun p hp => NE p (.tail _ hp)) hil (by rw [List.length_append]; show tok.length + 1 ≤ i + 1; omega) (Nat.lt_succ_self _) hr')
                  have hc : c = 32 := by
                    by_cases q32 : c = 32
                    · exact q32
                    · simp [lrun, lok, *] at hr
                  subst hc
                  (try simp only [S39, S34, S97, S32] at N3); (try simp only [S39, S34, S97, S32] at F3)
                  cases tok with
                  | nil =>
                    have hq : q = true := by
                      cases q with
                      | true => rfl
                      | false => simp [lrun, lok] at hr
                    subst hq
                    have hr' : (some 32, [], true, l.drop (i + 1)) = res := by
                      rw [hdr1]
                      simpa [lrun, lok, lstep] using hr
                    rw [show S [] = Str.ofString "" from rfl] at N3
                    repeat' (first | (k_unfold; (try dsimp only)) | (k_end; wrow_close) | (first | (with_reducible (k_here; (with_reducible show wpAny _ _ (compareOp _ (Value.str (Str.ofString _) _) (Value.str (Str.ofString _) _)) _ _ _); first | refine eqW_t (by decide +kernel) ?_ | refine eqW_f (by decide +kernel) ?_)) | (with_reducible (k_here; (with_reducible show wpAny _ _ (compareOp _ (Value.str (Str.ofString _) _) (Value.str (Str.ofString _) _)) _ _ _); first | refine inW_t (by decide +kernel) ?_ | refine inW_f (by decide +kernel) ?_)) | (with_reducible (k_here; (with_reducible show wpAny _ _ (truthy (Value.str (Str.ofString _) _)) _ _ _); first | refine trW_t (by decide) (by decide) ?_ | refine trW_f (by decide) (by decide) ?_)) | walk1) | (dsimp only; (first | (with_reducible (k_here; (with_reducible show wpAny _ _ (compareOp _ (Value.str (Str.ofString _) _) (Value.str (Str.ofString _) _)) _ _ _); first | refine eqW_t (by decide +kernel) ?_ | refine eqW_f (by decide +kernel) ?_)) | (with_reducible (k_here; (with_reducible show wpAny _ _ (compareOp _ (Value.str (Str.ofString _) _) (Value.str (Str.ofString _) _)) _ _ _); first | refine inW_t (by decide +kernel) ?_ | refine inW_f (by decide +kernel) ?_)) | (with_reducible (k_here; (with_reducible show wpAny _ _ (truthy (Value.str (Str.ofString _) _)) _ _ _); first | refine trW_t (by decide) (by decide) ?_ | refine trW_f (by decide) (by decide) ?_)) | walk1)) | (leave1; try dsimp only))
                    all_goals (
                      (rename Fr _ _ _ _ => FE); (rename News _ _ _ _ => NE)
                      rw [mT_n] at FE
                      exact RtEnd.fin hRE (some 32) FE (fun p hp => NE p (.tail _ hp)) hil (Nat.zero_le _) hr')
                  | cons a r =>
                    have hr' : (some 32, a :: r, q, l.drop (i + 1)) = res := by
                      rw [hdr1]
                      simpa [lrun, lok, lstep] using hr
                    repeat' (first | (k_unfold; (try dsimp only)) | (k_end; wrow_close) | (first | (with_reducible (k_here; (with_reducible show wpAny _ _ (truthy (Value.str (S (_ :: _)) _)) _ _ _); refine truthyL (by assumption) ?_)) | (with_reducible (k_here; (with_reducible show wpAny _ _ (compareOp _ (Value.str (Str.ofString _) _) (Value.str (Str.ofString _) _)) _ _ _); first | refine eqW_t (by decide +kernel) ?_ | refine eqW_f (by decide +kernel) ?_)) | (with_reducible (k_here; (with_reducible show wpAny _ _ (compareOp _ (Value.str (Str.ofString _) _) (Value.str (Str.ofString _) _)) _ _ _); first | refine inW_t (by decide +kernel) ?_ | refine inW_f (by decide +kernel) ?_)) | (with_reducible (k_here; (with_reducible show wpAny _ _ (truthy (Value.str (Str.ofString _) _)) _ _ _); first | refine trW_t (by decide) (by decide) ?_ | refine trW_f (by decide) (by decide) ?_)) | walk1) | (dsimp only; (first | (with_reducible (k_here; (with_reducible show wpAny _ _ (truthy (Value.str (S (_ :: _)) _)) _ _ _); refine truthyL (by assumption) ?_)) | (with_reducible (k_here; (with_reducible show wpAny _ _ (compareOp _ (Value.str (Str.ofString _) _) (Value.str (Str.ofString _) _)) _ _ _); first | refine eqW_t (by decide +kernel) ?_ | refine eqW_f (by decide +kernel) ?_)) | (with_reducible (k_here; (with_reducible show wpAny _ _ (compareOp _ (Value.str (Str.ofString _) _) (Value.str (Str.ofString _) _)) _ _ _); first | refine inW_t (by decide +kernel) ?_ | refine inW_f (by decide +kernel) ?_)) | (with_reducible (k_here; (with_reducible show wpAny _ _ (truthy (Value.str (Str.ofString _) _)) _ _ _); first | refine trW_t (by decide) (by decide) ?_ | refine trW_f (by decide) (by decide) ?_)) | walk1)) | (leave1; try dsimp only))
                    all_goals (
                      (rename Fr _ _ _ _ => FE); (rename News _ _ _ _ => NE)
                      rw [mT_n] at FE
                      exact RtEnd.fin hRE (some 32) FE (fun p hp => NE p (.tail _ hp)) hil (by omega) hr')
    · rw [hRE] at h₃
      obtain ⟨h4, tk4, st4, tok4, q4, i4, ti4, ts4, tt4, ln4, tl4, ev4, nv4, rfl, F4, N4, hi4, hl4, hcase⟩ := h₃
      rcases hcase with ⟨hf4, hlt4, hr4⟩ | ⟨rfl, rfl⟩
      · have fin : ∃ k, k < l.length + 1 - i ∧ RtInv w.params g L1 gs dr os kt vt x d xi di D1 D2 l res k ⟨h4, gs, dr, tk4, os⟩ :=
          ⟨l.length + 1 - i4, by omega, h4, tk4, st4, tok4, q4, i4, ti4, ts4, tt4, ln4, tl4, ev4, nv4, rfl, F4, N4, hi4, hl4, hr4, rfl⟩
        rcases hf4 with rfl | rfl <;> exact fin
      · have hSt : (S tok4).length ≤ 1000 := by rw [S_len]; omega
        clear N3 F3 hr
        dsimp only
        try k_fold
        by_cases ht : tok4 = []
        · subst ht
          rw [show S [] = Str.ofString "" from rfl] at N4
          cases q4 with
          | true =>
            repeat' (first | (k_unfold; (try dsimp only)) | (k_end; wrow_close) | (first | (with_reducible ((with_reducible show LeaveK _ _ _ _ _ _ _); (k_dflt (refine' leaveT ?k1 ?k2 ?_; (case k1 => k_asm); (case k2 => k_asm); k_whole); intro tkL kF kN; ground_anew kF; (have kX := kFor kF (by k_asm)); (try refine ⟨rfl, ?_⟩); (try (refine ⟨⟨by omega, by omega⟩, ?_⟩)); (try (refine handed_on rfl ?_; try dsimp only))))) | walk1) | (dsimp only; (first | (with_reducible ((with_reducible show LeaveK _ _ _ _ _ _ _); (k_dflt (refine' leaveT ?k1 ?k2 ?_; (case k1 => k_asm); (case k2 => k_asm); k_whole); intro tkL kF kN; ground_anew kF; (have kX := kFor kF (by k_asm)); (try refine ⟨rfl, ?_⟩); (try (refine ⟨⟨by omega, by omega⟩, ?_⟩)); (try (refine handed_on rfl ?_; try dsimp only))))) | walk1)) | (leave1; try dsimp only))
            (rename Fr _ _ _ _ => kF); (rename News _ _ _ _ => kN)
            exact hq _ i4 _ _ _ _ _ _ _ hi4 rfl (.inr ⟨tt4, rfl, .inr rfl⟩) kF kN
          | false =>
            repeat' (first | (k_unfold; (try dsimp only)) | (k_end; wrow_close) | (first | (with_reducible (k_here; (with_reducible show wpAny _ _ (compareOp _ (Value.str (Str.ofString _) _) (Value.str (Str.ofString _) _)) _ _ _); first | refine eqW_t (by decide +kernel) ?_ | refine eqW_f (by decide +kernel) ?_)) | (with_reducible ((with_reducible show LeaveK _ _ _ _ _ _ _); (k_dflt (refine' leaveT ?k1 ?k2 ?_; (case k1 => k_asm); (case k2 => k_asm); k_whole); intro tkL kF kN; ground_anew kF; (have kX := kFor kF (by k_asm)); (try refine ⟨rfl, ?_⟩); (try (refine ⟨⟨by omega, by omega⟩, ?_⟩)); (try (refine handed_on rfl ?_; try dsimp only))))) | walk1) | (dsimp only; (first | (with_reducible (k_here; (with_reducible show wpAny _ _ (compareOp _ (Value.str (Str.ofString _) _) (Value.str (Str.ofString _) _)) _ _ _); first | refine eqW_t (by decide +kernel) ?_ | refine eqW_f (by decide +kernel) ?_)) | (with_reducible ((with_reducible show LeaveK _ _ _ _ _ _ _); (k_dflt (refine' leaveT ?k1 ?k2 ?_; (case k1 => k_asm); (case k2 => k_asm); k_whole); intro tkL kF kN; ground_anew kF; (have kX := kFor kF (by k_asm)); (try refine ⟨rfl, ?_⟩); (try (refine ⟨⟨by omega, by omega⟩, ?_⟩)); (try (refine handed_on rfl ?_; try dsimp only))))) | walk1)) | (leave1; try dsimp only))
            (rename Fr _ _ _ _ => kF); (rename News _ _ _ _ => kN)
            exact hq _ i4 _ _ _ _ _ _ _ hi4 rfl (.inl ⟨rfl, rfl, rfl⟩) kF kN
        · obtain ⟨a, r, rfl⟩ : ∃ a r, tok4 = a :: r := by
            cases tok4 with
            | nil => exact absurd rfl ht
            | cons a r => exact ⟨a, r, rfl⟩
          have ne4 : ((S (a :: r)).cps.toList == (Str.ofString "").cps.toList) = false := by rw [S_list]; rfl
          repeat' (first | (k_unfold; (try dsimp only)) | (k_end; wrow_close) | (first | (with_reducible (k_here; (with_reducible show wpAny _ _ (compareOp _ (Value.str (S (_ :: _)) _) (Value.str _ _)) _ _ _); refine eqW_f (by assumption) ?_)) | (with_reducible ((with_reducible show LeaveK _ _ _ _ _ _ _); (k_dflt (refine' leaveT ?k1 ?k2 ?_; (case k1 => k_asm); (case k2 => k_asm); k_whole); intro tkL kF kN; ground_anew kF; (have kX := kFor kF (by k_asm)); (try refine ⟨rfl, ?_⟩); (try (refine ⟨⟨by omega, by omega⟩, ?_⟩)); (try (refine handed_on rfl ?_; try dsimp only))))) | walk1) | (dsimp only; (first | (with_reducible (k_here; (with_reducible show wpAny _ _ (compareOp _ (Value.str (S (_ :: _)) _) (Value.str _ _)) _ _ _); refine eqW_f (by assumption) ?_)) | (with_reducible ((with_reducible show LeaveK _ _ _ _ _ _ _); (k_dflt (refine' leaveT ?k1 ?k2 ?_; (case k1 => k_asm); (case k2 => k_asm); k_whole); intro tkL kF kN; ground_anew kF; (have kX := kFor kF (by k_asm)); (try refine ⟨rfl, ?_⟩); (try (refine ⟨⟨by omega, by omega⟩, ?_⟩)); (try (refine handed_on rfl ?_; try dsimp only))))) | walk1)) | (leave1; try dsimp only))
          all_goals (
            (rename Fr _ _ _ _ => kF); (rename News _ _ _ _ => kN)
            exact hq _ i4 _ _ _ _ _ _ _ hi4 rfl (.inr ⟨tt4, rfl, .inl (by simp)⟩) kF kN)
  · rw [mT_0] at Fb
    exact ⟨hb, tkc, st, [], false, i, ti, ts, tt, ln, tl, _, none, rfl, Fb, Nb, hi, Nat.zero_le _, hr, rfl⟩
end
/-! ### Nx -/
section
theorem fill_nx (P : Params) : (PySem.Challenge.rw_mj0268_01 = PySem.Challenge.rw_mj0268_01 ∧ K0 P = K0 P) := by
  k_fill
  exact ⟨rfl, rfl⟩
theorem rt_tok {prog : Program} {w : World} {lo : Program × List Str} {mg mb : Str → Option Value} {A₀ : Around} {dp un : Nat} {outer : List Env} {gd : Option (List Code)} {env : Env} {h : Heap} {gs : Array GenState} {dr : Drawn} {t0 : Nat} {os : OsState} {base h₀ : Heap} {L : Addr} {m : Str → Option Value} {kt vt : Nat → Tok} {x d xi di D1 D2 : Addr} {l : List Nat} {i : Nat} {ti : Tok} {st : Option Nat} {ts tt tl : Tok} {ln : Int} {res : Option Nat × List Nat × Bool × List Nat} {Q E : Value → Shared → Prop}
    (B : Below A₀ base outer h₀) (F : Fr h₀ L h m) (X : (K0 w.params).In h₀) (N : News h₀ L h (led w.params kt vt x d xi di D1 D2 l i ti (stV st ts) (.str (S []) tt) (.int ln tl))) (O : Ord x d xi di D1 D2) (T : TopRead lo.1 lo.2 mg mb h₀)
    (hf : env.frame = some L) (hke : env.scope.kind = .function) (hdp : dp + 6 < 1000) (hl : l.length ≤ 1000) (hi : i ≤ l.length) (hr : lrun st [] false (l.drop i) = some res) (ht : res.2.1 ≠ [] ∨ res.2.2.1 = true)
    (hq : ∀ h' (i' : Nat) ti' ts' tt' ln' tl' tk' t, i' ≤ l.length → l.drop i' = res.2.2.2 → Fr h₀ L h' m →
      News h₀ L h' (led w.params kt vt x d xi di D1 D2 l i' ti' (stV res.1 ts') (.str (S []) tt') (.int ln' tl')) → Q (.str (S res.2.1) t) ⟨h', gs, dr, tk', os⟩) :
    wpAny (model prog w) ⟨none, dp, some (env :: outer), gd, un⟩ (call (.ref 712) [.ref x]) Q E ⟨h, gs, dr, t0, os⟩ := by
  refine rt_call B F X N O T hf hke hdp hl hi hr ?_
  rintro h' i' ti' ts' tt' ln' tl' tk' v hi' hd' hv F' N'
  rcases hv with ⟨_, h1, h2⟩ | ⟨t, rfl, _⟩
  · rcases ht with q | q
    · exact absurd h1 q
    · rw [h2] at q; cases q
  · exact hq h' i' ti' ts' tt' ln' tl' tk' t hi' hd' F' N'
theorem rt_nil {prog : Program} {w : World} {lo : Program × List Str} {mg mb : Str → Option Value} {A₀ : Around} {dp un : Nat} {outer : List Env} {gd : Option (List Code)} {env : Env} {h : Heap} {gs : Array GenState} {dr : Drawn} {t0 : Nat} {os : OsState} {base h₀ : Heap} {L : Addr} {m : Str → Option Value} {kt vt : Nat → Tok} {x d xi di D1 D2 : Addr} {l : List Nat} {i : Nat} {ti : Tok} {st : Option Nat} {ts tt tl : Tok} {ln : Int} {res : Option Nat × List Nat × Bool × List Nat} {Q E : Value → Shared → Prop}
    (B : Below A₀ base outer h₀) (F : Fr h₀ L h m) (X : (K0 w.params).In h₀) (N : News h₀ L h (led w.params kt vt x d xi di D1 D2 l i ti (stV st ts) (.str (S []) tt) (.int ln tl))) (O : Ord x d xi di D1 D2) (T : TopRead lo.1 lo.2 mg mb h₀)
    (hf : env.frame = some L) (hke : env.scope.kind = .function) (hdp : dp + 6 < 1000) (hl : l.length ≤ 1000) (hi : i ≤ l.length) (hr : lrun st [] false (l.drop i) = some res) (h1 : res.2.1 = []) (h2 : res.2.2.1 = false)
    (hq : ∀ h' (i' : Nat) ti' ts' tt' ln' tl' tk', i' ≤ l.length → l.drop i' = res.2.2.2 → Fr h₀ L h' m →
      News h₀ L h' (led w.params kt vt x d xi di D1 D2 l i' ti' (stV res.1 ts') (.str (S []) tt') (.int ln' tl')) → Q .none ⟨h', gs, dr, tk', os⟩) :
    wpAny (model prog w) ⟨none, dp, some (env :: outer), gd, un⟩ (call (.ref 712) [.ref x]) Q E ⟨h, gs, dr, t0, os⟩ := by
  refine rt_call B F X N O T hf hke hdp hl hi hr ?_
  rintro h' i' ti' ts' tt' ln' tl' tk' v hi' hd' hv F' N'
  rcases hv with ⟨rfl, _, _⟩ | ⟨t, rfl, q⟩
  · exact hq h' i' ti' ts' tt' ln' tl' tk' hi' hd' F' N'
  · rcases q with q | q
    · exact absurd h1 q
    · rw [h2] at q; cases q
/-- a call of a def of the text's; the callee's ground is the heap without the ledger -/
theorem code_defG {prog : Program} {w : World} {A₀ A : Around} {s : Shared} {base h₀ : Heap} {L : Addr} {m : Str → Option Value} {news : List (Addr × Obj)} {K : Frag} {p : Program} {loose : List Str} {mg mb : Str → Option Value}
    {env : Env} {outer : List Env} {R : Result → Shared → Prop} {name qual : Str} {params : Arguments} {body : List Stmt} {scope : Scope} {dV kV doc pm cdv ct oc : Value} {an od : Option Addr} {osl : Array (Option Value)} {f : Addr} {args : Args} {binds : List (Str × Value)}
    (B : Below A₀ base outer h₀) (F : Fr h₀ L s.heap m) (X₀ : K.In h₀) (N : News h₀ L s.heap news) (T : TopRead p loose mg mb h₀) (hA : A.frames = some (env :: outer)) (hf : env.frame = some L) (hke : env.scope.kind = .function)
    (ho : K.lookup f = some ⟨oc, od, .func (fnOf name qual params body scope dV kV doc pm an cdv ct), osl⟩) (hcd : codeIn K cdv qual = true) (hroom : A.depth < recursionLimit)
    (hbind : BindsTo s (fnOf name qual params body scope dV kV doc pm an cdv ct) args binds) (hloc : ∀ y ∈ binds, scope.names.lookup y.1 = some .local)
    (h : ∀ g L' h₁, (∀ b o, b ∉ news.map (·.1) → s.heap.get? b = some o → g.get? b = some o) → (∀ b o, g.get? b = some o → s.heap.get? b = some o) → Fr h₀ L g m → Fr g L' h₁ (fun y => binds.reverse.lookup y) → News g L' h₁ news → Below A base (env :: outer) g → K.In g → TopRead p loose mg mb g →
      wpAny (model prog w) (A.deeper (envOf qual scope L' f cdv)) (execs body (envOf qual scope L' f cdv))
        (fun fl s' => LeaveK h₀ L m g R (match fl with | .ret v => v | _ => .none) s')
        (fun e s' => wpAny (model prog w) (A.deeper (envOf qual scope L' f cdv)) (leaving (envOf qual scope L' f cdv) e) (fun _ s'' => R (.error e) s'') (fun e' s'' => R (.error e') s'') s')
        { s with heap := h₁, toks := s.toks + binds.length })
    (hco : scope.isCoroutine = false) (hgen : scope.isGenerator = false) (hk : scope.kind = .function)
    (hcell : ∀ x ∈ scope.names, x.2 ≠ .cell) : codeAny (model prog w) A (.call (.ref f) args) R s := by
  obtain ⟨FG, BG, st, lv⟩ := groundX (R := R) B F N hA hf hke
  refine codeAny_call_def (fd := fnOf name qual params body scope dV kV doc pm an cdv ct) (body := body) (binds := binds) hroom ((X₀.keeps F.keep) _ _ ho) rfl (T.nolimit.keeps F.keep) (codeRec_of (X₀.keeps F.keep) hcd) rfl hbind hcell hloc (fun h₁ hns hk₁ => ?_) hco hgen hk
  exact wpAny_mono (h _ s.heap.objs.size h₁ (fun b o nb e => hideAll_get _ e nb) (fun b o e => of_hideAll _ e) FG ⟨hns, fun b o e => hk₁ b o (of_hideAll _ e), Nat.le_of_eq (hideAll_size _ _)⟩
    (fun p hp => ⟨hk₁ _ _ (N p hp).1, Nat.ne_of_lt (Heap.lt_size (N p hp).1), hideAll_none _ (List.mem_map_of_mem hp)⟩) BG (X₀.keeps st) (T.keeps st)) (fun fl s' hl => lv _ _ hl) fun _ _ y => y
/-- __next__: a token -/
theorem nx_call {prog : Program} {w : World} {lo : Program × List Str} {mg mb : Str → Option Value} {A₀ : Around} {dp un : Nat} {outer : List Env} {gd : Option (List Code)} {env : Env} {h : Heap} {gs : Array GenState} {dr : Drawn} {t0 : Nat} {os : OsState} {base h₀ : Heap} {L : Addr} {m : Str → Option Value} {kt vt : Nat → Tok} {x d xi di D1 D2 : Addr} {l : List Nat} {i : Nat} {ti : Tok} {st : Option Nat} {ts tt tl : Tok} {ln : Int} {res : Option Nat × List Nat × Bool × List Nat} {Q E : Value → Shared → Prop}
    (B : Below A₀ base outer h₀) (F : Fr h₀ L h m) (X : (K0 w.params).In h₀) (N : News h₀ L h (led w.params kt vt x d xi di D1 D2 l i ti (stV st ts) (.str (S []) tt) (.int ln tl))) (O : Ord x d xi di D1 D2) (T : TopRead lo.1 lo.2 mg mb h₀)
    (hf : env.frame = some L) (hke : env.scope.kind = .function) (hdp : dp + 9 < 1000) (hl : l.length ≤ 1000) (hi : i ≤ l.length) (hr : lrun st [] false (l.drop i) = some res) (ht : res.2.1 ≠ [] ∨ res.2.2.1 = true)
    (hq : ∀ h' (i' : Nat) ti' ts' tt' ln' tl' tk' t, i' ≤ l.length → l.drop i' = res.2.2.2 → Fr h₀ L h' m →
      News h₀ L h' (led w.params kt vt x d xi di D1 D2 l i' ti' (stV res.1 ts') (.str (S []) tt') (.int ln' tl')) → (∀ b o, b ∉ [D2, D1, xi, di, x, d] → h.get? b = some o → h'.get? b = some o) → Q (.str (S res.2.1) t) ⟨h', gs, dr, tk', os⟩) :
    wpAny (model prog w) ⟨none, dp, some (env :: outer), gd, un⟩ (call (.ref 741) [.ref x]) Q E ⟨h, gs, dr, t0, os⟩ := by
  have O' := O
  obtain ⟨o1, o2, o3, o4, o5⟩ := O'
  refine wpAny_call ?_
  refine code_defG (binds := [(Str.ofString "self", .ref x)]) B F X N T rfl hf hke (by k_is) (by k_is) (by k_room) (BindsTo.of_eq rfl) (locs rfl) ?_ rfl rfl rfl (by decide)
  intro g L1 h1 kg kg' FG F1 N1 B1 X1 T1
  dsimp only
  k_fold
  repeat' (first | (k_unfold; (try dsimp only)) | (k_end; wrow_close) | (first | (with_reducible ((with_reducible show wpAny _ _ (call (Value.ref _) _) _ _ _); (k_here; (try dsimp only); (with_reducible show wpAny _ _ (call (Value.ref 712) _) _ _ _); first | (k_dflt (refine rt_tok (by k_asm) (by k_asm) (by k_asm) (by k_asm) (by assumption) (by k_asm) rfl rfl (by k_room) (by assumption) (by assumption) (by assumption) (by assumption) ?_); intro h' i' ti' ts' tt' ln' tl' tk' t' hi' hd' F' N') | (k_dflt (refine rt_nil (by k_asm) (by k_asm) (by k_asm) (by k_asm) (by assumption) (by k_asm) rfl rfl (by k_room) (by assumption) (by assumption) (by assumption) (by assumption) (by assumption) ?_); intro h' i' ti' ts' tt' ln' tl' tk' hi' hd' F' N')))) | ((with_reducible show wpAny _ _ (truthy (Value.ref _)) _ _ _); (k_here; refine truthy_dequeN (by k_asm) (by k_mem) ?_)) | walk1) | (dsimp only; (first | (with_reducible ((with_reducible show wpAny _ _ (call (Value.ref _) _) _ _ _); (k_here; (try dsimp only); (with_reducible show wpAny _ _ (call (Value.ref 712) _) _ _ _); first | (k_dflt (refine rt_tok (by k_asm) (by k_asm) (by k_asm) (by k_asm) (by assumption) (by k_asm) rfl rfl (by k_room) (by assumption) (by assumption) (by assumption) (by assumption) ?_); intro h' i' ti' ts' tt' ln' tl' tk' t' hi' hd' F' N') | (k_dflt (refine rt_nil (by k_asm) (by k_asm) (by k_asm) (by k_asm) (by assumption) (by k_asm) rfl rfl (by k_room) (by assumption) (by assumption) (by assumption) (by assumption) (by assumption) ?_); intro h' i' ti' ts' tt' ln' tl' tk' hi' hd' F' N')))) | ((with_reducible show wpAny _ _ (truthy (Value.ref _)) _ _ _); (k_here; refine truthy_dequeN (by k_asm) (by k_mem) ?_)) | walk1)) | (leave1; try dsimp only) | (refine wpAny_call ?_; (refine' code_defR ?k1 ?k2 ?k3 ?k4 ?k5 ?kA ?kF ?kK ?k6 ?k7 ?k8 ?k9 ?kB ?_ ?c2 ?c3 ?c4 ?c5; (case kA => exact rfl); (case kF => first | exact rfl | assumption); (case kK => first | exact rfl | assumption); (case k1 => k_asm); (case k2 => k_asm); (case k3 => k_asm); (case k4 => k_asm); (case k5 => k_asm); (case k6 => k_is); (case k7 => k_is); (case k8 => k_room); (case k9 => first | exact BindsTo.of_eq rfl | exact binds_K (by k_in) rfl (by k_is) rfl rfl rfl | fail "k_enter: no rule for these arguments"); (case c5 => decide); (case kB => exact locs rfl); (case c2 => exact rfl); (case c3 => exact rfl); (case c4 => exact rfl); k_whole; intro gEz LEz hEz FGEz FEz NEz BEz XEz TEz; (try dsimp only); (try k_lift BEz); (try k_fold))) | fail "no step")
  rename_i kU kV tk1 hT1 kF kN kX
  exact hq _ _ _ _ _ _ _ _ _ (by assumption) (by assumption) kF kN fun b o nb e => kU.keep b o (kg b o nb e)
/-- __next__ at the end: StopIteration -/
theorem nx_stop {prog : Program} {w : World} {lo : Program × List Str} {mg mb : Str → Option Value} {A₀ : Around} {dp un : Nat} {outer : List Env} {gd : Option (List Code)} {env : Env} {h : Heap} {gs : Array GenState} {dr : Drawn} {t0 : Nat} {os : OsState} {base h₀ : Heap} {L : Addr} {m : Str → Option Value} {kt vt : Nat → Tok} {x d xi di D1 D2 : Addr} {l : List Nat} {i : Nat} {ti : Tok} {st : Option Nat} {ts tt tl : Tok} {ln : Int} {res : Option Nat × List Nat × Bool × List Nat} {Q E : Value → Shared → Prop}
    (B : Below A₀ base outer h₀) (F : Fr h₀ L h m) (X : (K0 w.params).In h₀) (N : News h₀ L h (led w.params kt vt x d xi di D1 D2 l i ti (stV st ts) (.str (S []) tt) (.int ln tl))) (O : Ord x d xi di D1 D2) (T : TopRead lo.1 lo.2 mg mb h₀)
    (hf : env.frame = some L) (hke : env.scope.kind = .function) (hdp : dp + 9 < 1000) (hl : l.length ≤ 1000) (hi : i ≤ l.length) (hr : lrun st [] false (l.drop i) = some res) (h1 : res.2.1 = []) (h2 : res.2.2.1 = false)
    (hq : ∀ g h' e t tk', (∀ b o, b ∉ [D2, D1, xi, di, x, d] → h.get? b = some o → g.get? b = some o) → Fr h₀ L g m → RaisedS base g (env :: outer) e (.type "StopIteration") t [] [] h' → g.UpToSlots h' → E (.ref e) ⟨h', gs, dr, tk', os⟩) :
    wpAny (model prog w) ⟨none, dp, some (env :: outer), gd, un⟩ (call (.ref 741) [.ref x]) Q E ⟨h, gs, dr, t0, os⟩ := by
  have O' := O
  obtain ⟨o1, o2, o3, o4, o5⟩ := O'
  refine wpAny_call ?_
  refine code_defG (binds := [(Str.ofString "self", .ref x)]) B F X N T rfl hf hke (by k_is) (by k_is) (by k_room) (BindsTo.of_eq rfl) (locs rfl) ?_ rfl rfl rfl (by decide)
  intro g L1 h1 kg kg' FG F1 N1 B1 X1 T1
  dsimp only
  k_fold
  repeat' (first | (k_unfold; (try dsimp only)) | (k_end; wrow_close) | (first | ((with_reducible show wpAny _ _ (leaving _ (Value.ref _)) _ _ _); (k_here; (refine' leave_raiseS ?k1 ?k0 ?k2 News.nil ?_; (case k0 => exact Heap.MadeExc.of (by assumption)); (case k1 => assumption); (case k2 => assumption); k_whole; intro h' t' R' K' U'; (try dsimp only at R' U' ⊢)))) | (with_reducible (k_here; (with_reducible show wpAny _ _ (exec (Stmt.Raise (some (Expr.Name ("StopIteration" : Str) _)) none _) _) _ _ _); (with_reducible rename Fr _ _ _ _ => kF); k_dflt (refine' owsi_raiseC ?hh ?hx ?_; (case hh => rfl); (case hx => (refine' name_B kF ?k1 ?k2 ?k3 ?k4 ?k5 ?_; (case k1 => k_asm); (case k2 => k_asm); (case k3 => k_is); (case k4 => boot_by_name); (case k5 => decide); exact ⟨rfl, rfl⟩)); intro hX eX mX))) | (with_reducible ((with_reducible show wpAny _ _ (call (Value.ref _) _) _ _ _); (k_here; (try dsimp only); (with_reducible show wpAny _ _ (call (Value.ref 712) _) _ _ _); first | (k_dflt (refine rt_tok (by k_asm) (by k_asm) (by k_asm) (by k_asm) (by assumption) (by k_asm) rfl rfl (by k_room) (by assumption) (by assumption) (by assumption) (by assumption) ?_); intro h' i' ti' ts' tt' ln' tl' tk' t' hi' hd' F' N') | (k_dflt (refine rt_nil (by k_asm) (by k_asm) (by k_asm) (by k_asm) (by assumption) (by k_asm) rfl rfl (by k_room) (by assumption) (by assumption) (by assumption) (by assumption) (by assumption) ?_); intro h' i' ti' ts' tt' ln' tl' tk' hi' hd' F' N')))) | ((with_reducible show wpAny _ _ (truthy (Value.ref _)) _ _ _); (k_here; refine truthy_dequeN (by k_asm) (by k_mem) ?_)) | walk1) | (dsimp only; (first | ((with_reducible show wpAny _ _ (leaving _ (Value.ref _)) _ _ _); (k_here; (refine' leave_raiseS ?k1 ?k0 ?k2 News.nil ?_; (case k0 => exact Heap.MadeExc.of (by assumption)); (case k1 => assumption); (case k2 => assumption); k_whole; intro h' t' R' K' U'; (try dsimp only at R' U' ⊢)))) | (with_reducible (k_here; (with_reducible show wpAny _ _ (exec (Stmt.Raise (some (Expr.Name ("StopIteration" : Str) _)) none _) _) _ _ _); (with_reducible rename Fr _ _ _ _ => kF); k_dflt (refine' owsi_raiseC ?hh ?hx ?_; (case hh => rfl); (case hx => (refine' name_B kF ?k1 ?k2 ?k3 ?k4 ?k5 ?_; (case k1 => k_asm); (case k2 => k_asm); (case k3 => k_is); (case k4 => boot_by_name); (case k5 => decide); exact ⟨rfl, rfl⟩)); intro hX eX mX))) | (with_reducible ((with_reducible show wpAny _ _ (call (Value.ref _) _) _ _ _); (k_here; (try dsimp only); (with_reducible show wpAny _ _ (call (Value.ref 712) _) _ _ _); first | (k_dflt (refine rt_tok (by k_asm) (by k_asm) (by k_asm) (by k_asm) (by assumption) (by k_asm) rfl rfl (by k_room) (by assumption) (by assumption) (by assumption) (by assumption) ?_); intro h' i' ti' ts' tt' ln' tl' tk' t' hi' hd' F' N') | (k_dflt (refine rt_nil (by k_asm) (by k_asm) (by k_asm) (by k_asm) (by assumption) (by k_asm) rfl rfl (by k_room) (by assumption) (by assumption) (by assumption) (by assumption) (by assumption) ?_); intro h' i' ti' ts' tt' ln' tl' tk' hi' hd' F' N')))) | ((with_reducible show wpAny _ _ (truthy (Value.ref _)) _ _ _); (k_here; refine truthy_dequeN (by k_asm) (by k_mem) ?_)) | walk1)) | (leave1; try dsimp only) | (refine wpAny_call ?_; (refine' code_defR ?k1 ?k2 ?k3 ?k4 ?k5 ?kA ?kF ?kK ?k6 ?k7 ?k8 ?k9 ?kB ?_ ?c2 ?c3 ?c4 ?c5; (case kA => exact rfl); (case kF => first | exact rfl | assumption); (case kK => first | exact rfl | assumption); (case k1 => k_asm); (case k2 => k_asm); (case k3 => k_asm); (case k4 => k_asm); (case k5 => k_asm); (case k6 => k_is); (case k7 => k_is); (case k8 => k_room); (case k9 => first | exact BindsTo.of_eq rfl | exact binds_K (by k_in) rfl (by k_is) rfl rfl rfl | fail "k_enter: no rule for these arguments"); (case c5 => decide); (case kB => exact locs rfl); (case c2 => exact rfl); (case c3 => exact rfl); (case c4 => exact rfl); k_whole; intro gEz LEz hEz FGEz FEz NEz BEz XEz TEz; (try dsimp only); (try k_lift BEz); (try k_fold))) | fail "no step")
  exact hq g _ _ _ _ kg FG (by assumption) (by assumption)
end
/-! ### LexP -/
section
theorem lrun_ok {st : Option Nat} {tok : List Nat} {q : Bool} {c : Nat} {t : List Nat} (h : lok st tok q (some c) = true) (h1 : (lstep st tok q (some c)).1 = true) : lrun st tok q (c :: t) = lrun (lstep st tok q (some c)).2.1 (lstep st tok q (some c)).2.2.1 (lstep st tok q (some c)).2.2.2 t := by
  rw [lrun, if_pos h, if_pos h1]
/-- within apostrophes -/
theorem lrun_q : ∀ (w : List Nat) (tok : List Nat) (q : Bool) (r : List Nat), (∀ c ∈ w, c ≠ 92) → lrun (some 39) tok q (w.flatMap q1 ++ 39 :: r) = lrun (some 97) (tok ++ w) true r
  | [], tok, q, r, _ => by
    show lrun (some 39) tok q (39 :: r) = _
    rw [lrun_ok rfl rfl, List.append_nil]; rfl
  | c :: w, tok, q, r, h => by
    have ih := lrun_q w (tok ++ [c]) true r fun z hz => h z (.tail _ hz)
    have hc := h c (.head _)
    rw [List.append_assoc] at ih
    show _ = lrun (some 97) (tok ++ ([c] ++ w)) true r
    rw [← ih]
    by_cases h39 : c = 39
    · subst h39
      show lrun (some 39) tok q (39 :: 34 :: 39 :: 34 :: 39 :: (w.flatMap q1 ++ 39 :: r)) = _
      rw [lrun_ok rfl rfl]
      show lrun (some 97) tok true (34 :: 39 :: 34 :: 39 :: (w.flatMap q1 ++ 39 :: r)) = _
      rw [lrun_ok rfl rfl]
      show lrun (some 34) tok true (39 :: 34 :: 39 :: (w.flatMap q1 ++ 39 :: r)) = _
      rw [lrun_ok rfl rfl]
      show lrun (some 34) (tok ++ [39]) true (34 :: 39 :: (w.flatMap q1 ++ 39 :: r)) = _
      rw [lrun_ok rfl rfl]
      show lrun (some 97) (tok ++ [39]) true (39 :: (w.flatMap q1 ++ 39 :: r)) = _
      rw [lrun_ok rfl rfl]
      rfl
    · show lrun (some 39) tok q ((q1 c ++ w.flatMap q1) ++ 39 :: r) = _
      rw [show q1 c = [c] from if_neg h39]
      show lrun (some 39) tok q (c :: (w.flatMap q1 ++ 39 :: r)) = _
      have e : lstep (some 39) tok q (some c) = (true, some 39, tok ++ [c], true) := by
        simp [lstep, h39]
      rw [lrun_ok (by simp [lok, hc]) (by rw [e]), e]
theorem lrun_a : ∀ (w tok r : List Nat) (q : Bool), (∀ c ∈ w, c = 97) → lrun (some 97) tok q (w ++ r) = lrun (some 97) (tok ++ w) q r
  | [], tok, r, q, _ => by rw [List.append_nil]; rfl
  | c :: w, tok, r, q, h => by
    have hc := h c (.head _)
    subst hc
    have ih := lrun_a w (tok ++ [97]) r q fun z hz => h z (.tail _ hz)
    show lrun (some 97) tok q (97 :: (w ++ r)) = _
    rw [lrun_ok (by simp [lok]) rfl]
    show lrun (some 97) (tok ++ [97]) q (w ++ r) = _
    rw [ih, List.append_assoc]; rfl
/-- a sign that the lexer is shown of -/
def fitSign (c : Nat) : Prop := c ≠ 92 ∧ (hit2 c = false → c = 97)
/-- a quoted word, read back up to where a blank or the end follows -/
theorem lex_word (w : List Nat) (hw : ∀ c ∈ w, fitSign c) : ∃ q, (w ≠ [] ∨ q = true) ∧ ∀ r, lrun (some 32) [] false (quoP w ++ r) = lrun (some 97) w q r := by
  unfold quoP
  by_cases h0 : w = []
  · subst h0
    refine ⟨true, .inr rfl, fun r => ?_⟩
    rw [if_pos rfl]
    show lrun (some 32) [] false (39 :: 39 :: r) = _
    rw [lrun_ok rfl rfl]
    show lrun (some 39) [] false (39 :: r) = _
    rw [lrun_ok rfl rfl]; rfl
  · rw [if_neg h0]
    by_cases h1 : w.any hit2 = true
    · refine ⟨true, .inr rfl, fun r => ?_⟩
      rw [if_pos h1, rep39]
      show lrun (some 32) [] false (39 :: (w.flatMap q1 ++ [39] ++ r)) = _
      rw [lrun_ok rfl rfl, List.append_assoc]
      exact lrun_q w [] false r fun c hc => (hw c hc).1
    · rw [if_neg h1]
      have ha : ∀ c ∈ w, c = 97 := fun c hc => (hw c hc).2 (by
        cases hq : hit2 c with
        | false => rfl
        | true => exact absurd (List.any_eq_true.mpr ⟨c, hc, hq⟩) h1)
      cases w with
      | nil => exact absurd rfl h0
      | cons c w =>
        have hc := ha c (.head _)
        subst hc
        refine ⟨false, .inl (by simp), fun r => ?_⟩
        show lrun (some 32) [] false (97 :: (w ++ r)) = _
        rw [lrun_ok rfl rfl]
        exact lrun_a w [97] r false fun z hz => ha z (.tail _ hz)
theorem lex_end (w : List Nat) (q : Bool) : lrun (some 97) w q [] = some (none, w, q, []) := rfl
theorem lex_blank {w : List Nat} {q : Bool} (h : w ≠ [] ∨ q = true) (r : List Nat) : lrun (some 97) w q (32 :: r) = some (some 32, w, q, r) := by
  have : lok (some 97) w q (some 32) = true := by
    rcases h with h | h
    · cases w with
      | nil => exact absurd rfl h
      | cons a t => simp [lok]
    · subst h; simp [lok]
  rw [lrun, if_pos this]
  rfl
theorem lex_nil0 : lrun (some 32) [] false [] = some (none, [], false, []) := rfl
theorem lex_nil1 : lrun none [] false [] = some (none, [], false, []) := rfl
end
/-! ### Lst -/
section
theorem fill_lst (P : Params) : (PySem.Challenge.rw_mj0268_01 = PySem.Challenge.rw_mj0268_01 ∧ K0 P = K0 P) := by
  k_fill
  exact ⟨rfl, rfl⟩
theorem find_next (P : Params) : findIn (K0 P) (.ref 744) "__next__" = some (some (.ref 741)) := by k_is
theorem find_iter (P : Params) : findIn (K0 P) (.ref 744) "__iter__" = some (some (.ref 734)) := by k_is
theorem find_len (P : Params) : findIn (K0 P) (.ref 744) (Str.ofString "__len__") = some none := by k_is
theorem find_hint (P : Params) : findIn (K0 P) (.ref 744) (Str.ofString "__length_hint__") = some none := by k_is
theorem fn_next (P : Params) : isFn (K0 P) (.ref 741) = true := by k_is
theorem fn_iter (P : Params) : isFn (K0 P) (.ref 734) = true := by k_is
/-- the words that the lexer still gives -/
def Reads : Option Nat → List Nat → List (List Nat) → Prop
  | st, r, [] => ∃ st' r', lrun st [] false r = some (st', [], false, r')
  | st, r, w :: ws => ∃ st' q r', lrun st [] false r = some (st', w, q, r') ∧ (w ≠ [] ∨ q = true) ∧ Reads st' r' ws
/-- __iter__ gives the lexer itself -/
theorem it_call {prog : Program} {w : World} {lo : Program × List Str} {mg mb : Str → Option Value} {A₀ : Around} {dp un : Nat} {outer : List Env} {gd : Option (List Code)} {env : Env} {h : Heap} {gs : Array GenState} {dr : Drawn} {t0 : Nat} {os : OsState} {base h₀ : Heap} {L : Addr} {m : Str → Option Value} {x : Addr} {Q E : Value → Shared → Prop}
    (B : Below A₀ base outer h₀) (F : Fr h₀ L h m) (X : (K0 w.params).In h₀) (T : TopRead lo.1 lo.2 mg mb h₀)
    (hf : env.frame = some L) (hke : env.scope.kind = .function) (hdp : dp + 9 < 1000)
    (hq : ∀ h' tk', (∀ b o, h.get? b = some o → h'.get? b = some o) → Q (.ref x) ⟨h', gs, dr, tk', os⟩) :
    wpAny (model prog w) ⟨none, dp, some (env :: outer), gd, un⟩ (call (.ref 734) [.ref x]) Q E ⟨h, gs, dr, t0, os⟩ := by
  refine wpAny_call ?_
  refine code_defG (news := []) (binds := [(Str.ofString "self", .ref x)]) B F X News.nil T rfl hf hke (by k_is) (by k_is) (by k_room) (BindsTo.of_eq rfl) (locs rfl) ?_ rfl rfl rfl (by decide)
  intro g L1 h1 kg kg' FG F1 N1 B1 X1 T1
  dsimp only
  k_fold
  k_steps
  rename_i kF kN kX
  exact hq _ _ fun b o e => F1.keep b o (kg b o (by simp) e)
/-- StopIteration met by next() -/
theorem stopS {M : Model} {A A₀ : Around} {Q : Option Value → Shared → Prop} {E : Value → Shared → Prop} {s' : Shared} {base g h₀ : Heap} {outer : List Env} {L a e t : Addr} {m : Str → Option Value} {name : Str} {scope : Scope} {cd : Value} {vs : List Value} {news : List (Addr × Obj)}
    (R : RaisedS base g (envOf name scope L a cd :: outer) e (.type "StopIteration") t vs news s'.heap) (F : Fr h₀ L g m) (K : Below A₀ base outer h₀) (hsm : g.UpToSlots s'.heap)
    (k : ∀ h₀', KtsTurn (outer.filterMap (·.frame)) h₀ h₀' → Fr h₀' L s'.heap m → (∀ b o, g.get? b = some o → h₀.get? b = none → b ≠ L → s'.heap.get? b = some o) → Q none s') : OwitStop M A Q E (.ref e) s' := by
  obtain ⟨⟨B, hB, hBG, _, hfl, _⟩, _⟩ := R
  have hf' := flyingW_base hB hfl
  obtain ⟨ob, hob, hobc⟩ := hf'.there
  have hT : s'.TypeIs (.ref e) "StopIteration" := (show ∃ o, s'.heap.get? e = some o ∧ o.cls = .type "StopIteration" from ⟨ob, hob, hobc⟩)
  obtain ⟨g2, T2, F2, K2⟩ := kts_ground K F hBG hfl.1 hsm
  unfold OwitStop
  refine wpAny_isInstance hT owsi_facts.sub ?_
  show (if true = true then Q none s' else E (.ref e) s')
  rw [if_pos rfl]
  refine k g2 T2 F2 fun b o q hn hL => hfl.1 _ _ (hBG b o q fun hm => ?_)
  rcases kts_mem hm with z | z
  · exact hL z
  · obtain ⟨_, o', ho', _⟩ := K.frames.mem z
    rw [hn] at ho'; cases ho'
section
variable {prog : Program} {w : World} {lo : Program × List Str} {mg mb : Str → Option Value} {A₀ : Around} {dp : Nat} {outer : List Env} {gd : Option (List Code)} {gs : Array GenState} {dr : Drawn} {os : OsState} {base h₀ : Heap} {L a : Addr} {name : Str} {scope : Scope} {cd : Value} {m : Str → Option Value} {kt vt : Nat → Tok} {x d xi di D1 D2 : Addr} {l : List Nat}
theorem inst_lex {h : Heap} {i : Int} {ti : Tok} {stv tokv lnv : Value} (N : News h₀ L h (led w.params kt vt x d xi di D1 D2 l i ti stv tokv lnv)) : InstAt h x (instObj 744 d) 744 (some (dictOf (lxE w.params kt vt xi D1 D2 stv tokv lnv) 19)) :=
  InstAt.of_news N (.tail _ (.tail _ (.tail _ (.tail _ (.head _))))) (.tail _ (.tail _ (.tail _ (.tail _ (.tail _ (.head _))))))
theorem pushed {h : Heap} {Z : Addr} {vs : List Value} {n : Nat} {v : Value} (e : h.get? Z = some (Obj.mapSeq (·.push v) (listOf vs.toArray n))) : ∃ n', h.get? Z = some (listOf (vs ++ [v]).toArray n') := by
  rw [e]
  simp only [Obj.mapSeq, W.listOf, List.push_toArray]
  exact ⟨_, rfl⟩
/-- list(lexer): its loop -/
theorem lst_loop (B : Below A₀ base outer h₀) (X : (K0 w.params).In h₀) (O : Ord x d xi di D1 D2) (T : TopRead lo.1 lo.2 mg mb h₀) (hk : scope.kind = .function) (hdp : dp + 9 < 1000) (hl : l.length ≤ 1000) (Z : Addr) (hZ0 : h₀.get? Z = none) (hZL : Z ≠ L) (hZ : Z ∉ [D2, D1, xi, di, x, d]) (res : Value) {R : Result → Shared → Prop} (all : List (List Nat)) (hall : all.length ≤ 100)
    (hq : ∀ vs n h' h₀' tk', KtsTurn (outer.filterMap (·.frame)) h₀ h₀' → Fr h₀' L h' m → h'.get? Z = some (listOf vs.toArray n) → StrsAre vs (all.map S) → R (.ok (.ret res)) ⟨h', gs, dr, tk', os⟩) :
    ∀ (ws : List (List Nat)) (un i : Nat) (ti : Tok) (st : Option Nat) (ts tt tl : Tok) (ln : Int) (h : Heap) (tk : Nat) (vs : List Value) (done : List (List Nat)), Fr h₀ L h m → News h₀ L h (led w.params kt vt x d xi di D1 D2 l i ti (stV st ts) (.str (S []) tt) (.int ln tl)) → i ≤ l.length →
    (∃ n, h.get? Z = some (listOf vs.toArray n)) → StrsAre vs (done.map S) → done ++ ws = all → Reads st (l.drop i) ws →
    codeAny (model prog w) ⟨none, dp, some (envOf name scope L a cd :: outer), gd, un⟩ (.builtin "list.extend.loop" ⟨[.ref Z, .ref x, res], []⟩) R ⟨h, gs, dr, tk, os⟩
  | [], un, i, ti, st, ts, tt, tl, ln, h, tk, vs, done, F, N, hi, ⟨n, hS⟩, hv, hd, hr => by
    obtain ⟨st', r', hr⟩ := hr
    refine codeAny_builtin PySem.F.entry_extend_loop ?_
    rw [Around.under_plainId PySem.F.plain_extend_loop _]
    show wpAny _ _ (pyNext (.ref x) >>= _) _ _ _
    refine wpAny_bind (owit_next F X (inst_lex N) (find_next _) (fn_next _) ?_)
    refine nx_stop B F X N O T rfl hk (by omega) hl hi hr rfl rfl ?_
    intro g h' e t tk' kg FG RS hsm
    refine stopS RS FG B hsm fun h₀' T' F' kp => ?_
    have hS' := kp _ _ (kg _ _ hZ hS) hZ0 hZL
    rw [List.append_nil] at hd
    subst hd
    exact wpAny_pure (hq vs n h' h₀' tk' T' F' hS' hv)
  | wd :: ws, un, i, ti, st, ts, tt, tl, ln, h, tk, vs, done, F, N, hi, ⟨n, hS⟩, hv, hd, hr => by
    obtain ⟨st', q, r', hr, hne, hr2⟩ := hr
    refine codeAny_builtin PySem.F.entry_extend_loop ?_
    rw [Around.under_plainId PySem.F.plain_extend_loop _]
    show wpAny _ _ (pyNext (.ref x) >>= _) _ _ _
    refine wpAny_bind (owit_next F X (inst_lex N) (find_next _) (fn_next _) ?_)
    refine nx_call B F X N O T rfl hk (by omega) hl hi hr hne ?_
    intro h' i' ti' ts' tt' ln' tl' tk' t hi' hd' F' N' kp
    have hS' := kp _ _ hZ hS
    show wpAny _ _ (updateSeq Z (·.push (.str (S wd) t)) >>= _) _ _ _
    have hlen : vs.length ≤ 100 := by
      have h1 := hv.length
      rw [List.length_map] at h1
      have h2 := congrArg List.length hd
      rw [List.length_append] at h2
      omega
    have oth : ∀ b o, b ≠ Z → h'.get? b = some o → (h'.update Z (Obj.mapSeq (·.push (.str (S wd) t)))).get? b = some o := fun b o hb e => (Heap.get?_update_other _ _ (Ne.symm hb)).trans e
    refine wpAny_bind ?_
    refine wpAny_updateSeq hS' rfl (wpAny_pure ⟨plainId_quiet PySem.F.plain_extend_loop _, ?_⟩) (by show vs.toArray.size ≤ sizeLine; rw [List.size_toArray]; exact Nat.le_trans hlen (by decide)) (by show (vs.toArray.push _).size ≤ sizeLine + 1; rw [Array.size_push, List.size_toArray]; exact Nat.le_trans (Nat.succ_le_succ hlen) (by decide))
    refine lst_loop B X O T hk hdp hl Z hZ0 hZL hZ res all hall hq ws un i' ti' st' ts' tt' tl' ln' _ _ (vs ++ [.str (S wd) t]) (done ++ [wd]) ?_ ?_ hi' ?_ ?_ ?_ ?_
    · exact ⟨F'.ns.at fun o e => oth L o (Ne.symm hZL) e, fun b o e => oth b o (fun z => by rw [z, hZ0] at e; cases e) (F'.keep b o e), F'.above⟩
    · exact fun p hp => ⟨oth _ _ (fun z => hZ (z ▸ List.mem_map_of_mem (f := (·.1)) hp)) (N' p hp).1, (N' p hp).2⟩
    · exact pushed (Heap.get?_update_self _ hS' rfl)
    · rw [List.map_append]; exact StrsAre.append' hv (.cons _ _ .nil)
    · rw [List.append_assoc]; exact hd
    · rw [hd']; exact hr2
/-- list(lexer) -/
theorem lst_call {Q E : Value → Shared → Prop} {h : Heap} {t0 un i : Nat} {ti : Tok} {st : Option Nat} {ts tt tl : Tok} {ln : Int} {ws : List (List Nat)} (B : Below A₀ base outer h₀) (F : Fr h₀ L h m) (X : (K0 w.params).In h₀) (N : News h₀ L h (led w.params kt vt x d xi di D1 D2 l i ti (stV st ts) (.str (S []) tt) (.int ln tl))) (O : Ord x d xi di D1 D2) (T : TopRead lo.1 lo.2 mg mb h₀) (hk : scope.kind = .function) (hdp : dp + 9 < 1000) (hl : l.length ≤ 1000) (hi : i ≤ l.length) (hws : ws.length ≤ 100) (hr : Reads st (l.drop i) ws)
    (hq : ∀ (Z : Addr) vs n h' h₀' tk', h₀.get? Z = none → Z ≠ L → KtsTurn (outer.filterMap (·.frame)) h₀ h₀' → Fr h₀' L h' m → h'.get? Z = some (listOf vs.toArray n) → StrsAre vs (ws.map S) → Q (.ref Z) ⟨h', gs, dr, tk', os⟩) :
    wpAny (model prog w) ⟨none, dp, some (envOf name scope L a cd :: outer), gd, un⟩ (call (.type "list") [.ref x]) Q E ⟨h, gs, dr, t0, os⟩ := by
  have hZn : ∀ b o, h.get? b = some o → b ≠ h.objs.size := fun b o e => Nat.ne_of_lt (Heap.lt_size e)
  refine callType_codes (Q₁ := fun obj s₁ => obj = .ref h.objs.size ∧ s₁ = ⟨h.push { cls := .type "list", data := .seq #[] }, gs, dr, t0, os⟩) PySem.F.called_list (PySem.F.typeCall_list_1 _) PySem.F.entry_list_init (code_list_new _ ⟨rfl, rfl⟩) fun obj s₁ h₁ => ?_
  obtain ⟨rfl, rfl⟩ := h₁
  have hS : (h.push { cls := .type "list", data := .seq #[] }).get? h.objs.size = some { cls := .type "list", data := .seq #[] } := Heap.get?_push_size _ rfl
  have hZ0 : h₀.get? h.objs.size = none := by
    cases q : h₀.get? h.objs.size with
    | none => rfl
    | some o => exact absurd rfl (hZn _ _ (F.keep _ o q))
  have hZL : h.objs.size ≠ L := fun q => Nat.lt_irrefl _ (q ▸ F.ns.lt)
  have hZ : h.objs.size ∉ [D2, D1, xi, di, x, d] := fun q => by
    have key : ∀ p ∈ led w.params kt vt x d xi di D1 D2 l i ti (stV st ts) (.str (S []) tt) (.int ln tl), h.objs.size ≠ p.1 := fun p hp => Ne.symm (hZn _ _ (N p hp).1)
    have : h.objs.size ∈ (led w.params kt vt x d xi di D1 D2 l i ti (stV st ts) (.str (S []) tt) (.int ln tl)).map (·.1) := q
    obtain ⟨p, hp, e⟩ := List.mem_map.mp this
    exact key p hp e.symm
  refine ⟨⟨_, hS, rfl⟩, PySem.F.args_list_init_2 _ _, ?_⟩
  show wpAny _ _ (do let old ← Builtin.List.listItems (.ref h.objs.size); Builtin.List.listUpdate (.ref h.objs.size) (fun _ => #[]); letGo old.toList.reverse; Builtin.List.listExtendWith (.ref h.objs.size) (.ref x) .none) _ _ _
  refine wpAny_bind ?_
  unfold Builtin.List.listItems
  refine wpAny_bind (wpAny_seqItems hS rfl (wpAny_pure ?_))
  show wpAny _ _ (updateSeq h.objs.size (fun _ => #[]) >>= fun _ => letGo (#[] : Array Value).toList.reverse >>= fun _ => Builtin.List.listExtendWith (.ref h.objs.size) (.ref x) .none) _ _ _
  refine wpAny_bind (wpAny_updateSeq hS rfl ?_)
  have hS₂ := Heap.get?_update_self (Obj.mapSeq (fun _ => (#[] : Array Value))) hS rfl
  have oth : ∀ b o, h.get? b = some o → ((h.push { cls := .type "list", data := .seq #[] }).update h.objs.size (Obj.mapSeq (fun _ => (#[] : Array Value)))).get? b = some o :=
    fun b o e => (Heap.get?_update_other _ _ (Ne.symm (hZn b o e))).trans (Heap.get?_push_of_some _ e)
  generalize hH : (h.push { cls := .type "list", data := .seq #[] }).update h.objs.size (Obj.mapSeq (fun _ => (#[] : Array Value))) = H at hS₂ oth ⊢
  generalize hZe : h.objs.size = Z at hS₂ hZ0 hZL hZ ⊢
  refine wpAny_bind (wpAny_letGo ?_)
  have FH : Fr h₀ L H m := Fr.grow F oth
  have NH := News.grow N oth
  unfold Builtin.List.listExtendWith
  have hxZ : x ≠ Z := fun q => hZ (q ▸ (by simp))
  have h1 : Builtin.List.listSameRef (.ref Z) (.ref x) = false := by simp [Builtin.List.listSameRef, Ne.symm hxZ]
  refine wpAny_bind ((inst_lex NH).type.here ?_)
  have h2 : (Value.ref 744 == Value.type "list") = false := by decide
  have h3 : (Value.ref 744 == Value.type "tuple") = false := by decide
  simp only [h1, h2, h3, Bool.or_false, Bool.false_eq_true, if_false]
  refine wpAny_bind (owit_iter FH X (inst_lex NH) (find_iter _) (fn_iter _) ?_)
  refine it_call B FH X T rfl hk hdp fun h' tk' kp => ?_
  have F' : Fr h₀ L h' m := Fr.grow FH kp
  have N' := News.grow NH kp
  refine owit_it F' X (inst_lex N') (find_next _) ?_
  refine wpAny_bind (wpAny_holding ?_)
  unfold Builtin.List.listLengthHint
  refine wpAny_bind (wpAny_bind ((inst_lex N').type.here ((looks_findIn (X.keeps F'.keep) (find_len _)).here ?_)))
  show wpAny _ _ (specialOf (Value.ref x) (Str.ofString "__length_hint__") >>= _) _ _ _
  refine wpAny_bind (wpAny_bind ((inst_lex N').type.here ((looks_findIn (X.keeps F'.keep) (find_hint _)).here ?_)))
  refine wpAny_pure ?_
  show wpAny _ _ (rule "list.extend.makes-room" >>= fun _ => Builtin.List.listTouch (.ref Z) >>= fun _ => again (.builtin "list.extend.loop" ⟨[.ref Z, .ref x, .none], []⟩)) _ _ _
  refine wpAny_bind (wpAny_rule ?_)
  refine wpAny_bind ?_
  show wpAny _ _ (updateSeq Z (·.push .none) >>= fun _ => updateSeq Z (·.pop)) _ _ _
  have hS3 := kp _ _ hS₂
  refine wpAny_bind (wpAny_updateSeq hS3 rfl ?_)
  have hS4 := Heap.get?_update_self (Obj.mapSeq (·.push Value.none)) hS3 rfl
  refine wpAny_updateSeq (hz := by seq_fits) hS4 rfl ?_
  have hS5 := Heap.get?_update_self (Obj.mapSeq (·.pop)) hS4 rfl
  have oth2 : ∀ b o, b ≠ Z → h'.get? b = some o → ((h'.update Z (Obj.mapSeq (·.push Value.none))).update Z (Obj.mapSeq (·.pop))).get? b = some o :=
    fun b o hb e => (Heap.get?_update_other _ _ (Ne.symm hb)).trans ((Heap.get?_update_other _ _ (Ne.symm hb)).trans e)
  refine wpAny_pure ⟨plainId_quiet PySem.F.plain_extend_loop _, ?_⟩
  refine lst_loop (m := m) (kt := kt) (vt := vt) B X O T hk hdp hl Z hZ0 hZL hZ .none ws hws ?_ ws _ i ti st ts tt tl ln _ _ [] [] ?_ ?_ hi ⟨_, hS5⟩ .nil rfl hr
  · intro vs n h5 h₀5 tk5 T5 F5 hS5' hv5
    exact ⟨rfl, hq Z vs n h5 h₀5 tk5 hZ0 hZL T5 F5 hS5' hv5⟩
  · exact ⟨F'.ns.at fun o e => oth2 L o (Ne.symm hZL) e, fun b o e => oth2 b o (fun z => by rw [z, hZ0] at e; cases e) (F'.keep b o e), F'.above⟩
  · exact fun p hp => ⟨oth2 _ _ (fun z => hZ (z ▸ List.mem_map_of_mem (f := (·.1)) hp)) (N' p hp).1, (N' p hp).2⟩
end
end
/-! ### Spl -/
section
theorem fill_spl (P : Params) : (PySem.Challenge.rw_mj0268_01 = PySem.Challenge.rw_mj0268_01 ∧ K0 P = K0 P) := by
  k_fill
  exact ⟨rfl, rfl⟩
local macro_rules | `(tactic| walk_at "execs cons") => `(tactic| (k_here; (with_reducible show wpAny _ _ _ _ _ (Shared.mk _ _ _ (_ + _) _)); refine gentoks ?_; intro tk hTk; (try dsimp only at hTk); (try ((with_reducible rename News _ _ _ _ => kN0); dsimp only at kN0))))
theorem led_of {P : Params} {h₀ h : Heap} {L x d xi di D1 D2 : Addr} {l : List Nat} {a0 a1 a2 a3 a4 a5 a6 a7 a8 a9 a10 a11 a12 a13 a14 a15 a16 a17 a18 a20 a21 a22 b4 b5 b6 b8 b9 b10 b11 b13 b14 b15 b18 b20 b21 b22 : Tok}
    (N : News h₀ L h [(D2, deqObj), (D1, deqObj), (xi, instObj 609 di), (di, dictOf [kE P "_StringIO__newline" a20 (.str (Str.ofString "\n") b20), kE P "_StringIO__buf" a21 (.str (S l) b21), kE P "_StringIO__pos" a22 (.int 0 b22)] 3), (x, instObj 744 d), (d, dictOf [kE P "instream" a0 (.ref xi), kE P "infile" a1 .none, kE P "posix" a2 (.bool true), kE P "eof" a3 .none, kE P "commenters" a4 (.str (Str.ofString "") b4), kE P "wordchars" a5 (.str wchars b5), kE P "whitespace" a6 (.str (Str.ofString " \t\x0d\n") b6), kE P "whitespace_split" a7 (.bool true), kE P "quotes" a8 (.str (Str.ofString "'\"") b8), kE P "escape" a9 (.str (Str.ofString "\\") b9), kE P "escapedquotes" a10 (.str (Str.ofString "\"") b10), kE P "state" a11 (.str (Str.ofString " ") b11), kE P "pushback" a12 (.ref D1), kE P "lineno" a13 (.int 1 b13), kE P "debug" a14 (.int 0 b14), kE P "token" a15 (.str (Str.ofString "") b15), kE P "filestack" a16 (.ref D2), kE P "source" a17 .none, kE P "_punctuation_chars" a18 (.str (Str.ofString "") b18)] 19)]) :
    ∃ kt vt, News h₀ L h (led P kt vt x d xi di D1 D2 l ((0 : Nat) : Int) b22 (stV (some 32) b11) (.str (S []) b15) (.int 1 b13)) :=
  ⟨fun n => [a0, a1, a2, a3, a4, a5, a6, a7, a8, a9, a10, a11, a12, a13, a14, a15, a16, a17, a18, 0, a20, a21, a22].getD n 0, fun n => [0, 0, 0, 0, b4, b5, b6, 0, b8, b9, b10, b11, 0, b13, b14, b15, 0, 0, b18, 0, b20, b21, b22].getD n 0, N⟩
theorem spl_call {prog : Program} {w : World} {lo : Program × List Str} {mg mb : Str → Option Value} {dp un : Nat} {outer : List Env} {gd : Option (List Code)} {s : Shared} {l : List Nat} {tk : Tok} {Q E : Value → Shared → Prop} {base : Heap} {ws : List (List Nat)}
    (Z : Site w lo mg mb 10 60 ⟨none, dp, some outer, gd, un⟩ s) (K : Below ⟨none, dp, some outer, gd, un⟩ base outer s.heap) (hl : l.length ≤ 1000) (hws : ws.length ≤ 100) (hr : Reads (some 32) l ws)
    (hq : ∀ (Y : Addr) vs n h' g' tk', s.heap.get? Y = none → KtsTurn (outer.filterMap (·.frame)) s.heap g' → (∀ b o, g'.get? b = some o → h'.get? b = some o) → h'.get? Y = some (W.listOf vs.toArray n) → StrsAre vs (ws.map S) → Q (.ref Y) { s with heap := h', toks := tk' }) :
    wpAny (model prog w) ⟨none, dp, some outer, gd, un⟩ (call (.ref 756) [.str (S l) tk]) Q E s := by
  obtain ⟨hh, hdp, hun, X', T', C', M'⟩ := Z
  dsimp only at hdp hun
  have hSl : (S l).length ≤ 1000 := by rw [S_len]; exact hl
  refine wpAny_with_toks (n := s.toks) (Nat.le_refl _) (wpAny_call ?_)
  refine enterP ⟨rfl, by show dp + 1 < 1000; omega, by show un + 0 < 9900; omega, X', T', C', M'⟩ (by k_is) (by k_is) (binds := [(Str.ofString "s", .str (S l) tk), (Str.ofString "comments", .bool false), (Str.ofString "posix", .bool true)]) (binds_K X' rfl (by k_is) rfl rfl rfl) (locs rfl) rfl rfl rfl (by decide) ?_
  intro L' h₁ F' N'
  try dsimp only
  try k_fold
  repeat' (first | (k_unfold; (try dsimp only)) | (k_end; wrow_close) | walk1 | (dsimp only; walk1) | (leave1; try dsimp only) | (k_here; (refine' call_cls ?k1 ?k2 ?k3 ?k4 ?k5 ?k6 ?_; (case k1 => k_asm); (case k2 => k_asm); (case k3 => k_asm); (case k4 => k_is); (case k5 => k_is); (case k6 => k_is); k_whole; intro xEz dEz hEz FEz NEz l1Ez l2Ez; (try k_lt l1Ez); (try k_lt2 l2Ez); (try k_sweep); (refine' code_defR ?k1 ?k2 ?k3 ?k4 ?k5 ?kA ?kF ?kK ?k6 ?k7 ?k8 ?k9 ?kB ?_ ?c2 ?c3 ?c4 ?c5; (case kA => exact rfl); (case kF => exact rfl); (case kK => exact rfl); (case k1 => k_asm); (case k2 => k_asm); (case k3 => k_asm); (case k4 => k_asm); (case k5 => k_asm); (case k6 => k_is); (case k7 => k_is); (case k8 => k_room); (case k9 => first | exact BindsTo.of_eq rfl | exact binds_K (by k_in) rfl (by k_is) rfl rfl rfl | fail "k_enter: no rule for these arguments"); (case c5 => decide); (case kB => exact locs rfl); (case c2 => exact rfl); (case c3 => exact rfl); (case c4 => exact rfl); k_whole; intro gEz LEz hEz FGEz FEz NEz BEz XEz TEz; (try dsimp only); (try k_lift BEz); (try k_fold)))) | fail "no step")
  refine wpAny_call (make609 (Frag.In.keeps (by k_asm) (Fr.keep (by k_asm))) ?_)
  refine wpAny_call (io_new (by k_asm) (by k_asm) (by k_asm) (by k_asm) (by k_asm) rfl rfl rfl rfl (by k_room) ?_)
  intro xi di hi tki Fi Ni l1 l2
  k_lt l1
  try dsimp only
  refine ⟨xi, di, _, _, rfl, rfl, (Ni _ (.head _)).1, Frag.In.keeps (by k_asm) Fi.keep, ?_⟩
  (refine' code_defR ?k1 ?k2 ?k3 ?k4 ?k5 ?kA ?kF ?kK ?k6 ?k7 ?k8 ?k9 ?kB ?_ ?c2 ?c3 ?c4 ?c5; (case kA => exact rfl); (case kF => exact rfl); (case kK => exact rfl); (case k1 => k_asm); (case k2 => k_asm); (case k3 => k_asm); (case k4 => k_asm); (case k5 => k_asm); (case k6 => k_is); (case k7 => k_is); (case k8 => k_room); (case k9 => first | exact BindsTo.of_eq rfl | exact binds_K (by k_in) rfl (by k_is) rfl rfl rfl | fail "k_enter: no rule for these arguments"); (case c5 => decide); (case kB => exact locs rfl); (case c2 => exact rfl); (case c3 => exact rfl); (case c4 => exact rfl); k_whole; intro gEz LEz hEz FGEz FEz NEz BEz XEz TEz; (try dsimp only); (try k_lift BEz); (try k_fold))
  repeat' (first | (k_unfold; (try dsimp only)) | (k_end; wrow_close) | (first | (with_reducible ((with_reducible show wpAny _ _ (call (Value.type _) _) _ _ _); (k_here; refine deque_K (by k_asm) (by k_asm) ?_; intro D' h' F' N' l1; k_lt l1; (try dsimp only)))) | walk1) | (dsimp only; (first | (with_reducible ((with_reducible show wpAny _ _ (call (Value.type _) _) _ _ _); (k_here; refine deque_K (by k_asm) (by k_asm) ?_; intro D' h' F' N' l1; k_lt l1; (try dsimp only)))) | walk1)) | (leave1; try dsimp only) | (refine wpAny_call ?_; (refine' code_defR ?k1 ?k2 ?k3 ?k4 ?k5 ?kA ?kF ?kK ?k6 ?k7 ?k8 ?k9 ?kB ?_ ?c2 ?c3 ?c4 ?c5; (case kA => exact rfl); (case kF => exact rfl); (case kK => exact rfl); (case k1 => k_asm); (case k2 => k_asm); (case k3 => k_asm); (case k4 => k_asm); (case k5 => k_asm); (case k6 => k_is); (case k7 => k_is); (case k8 => k_room); (case k9 => first | exact BindsTo.of_eq rfl | exact binds_K (by k_in) rfl (by k_is) rfl rfl rfl | fail "k_enter: no rule for these arguments"); (case c5 => decide); (case kB => exact locs rfl); (case c2 => exact rfl); (case c3 => exact rfl); (case c4 => exact rfl); k_whole; intro gEz LEz hEz FGEz FEz NEz BEz XEz TEz; (try dsimp only); (try k_lift BEz); (try k_fold))) | fail "no step")
  rename_i kF kN tkz hTkz
  try dsimp only at kN
  obtain ⟨kt, vt, N9⟩ := led_of kN
  refine lst_call K (by assumption) X' N9 ⟨by assumption, And.left (by assumption), by assumption, And.left (by assumption), And.left (by assumption)⟩ T' rfl (by omega) hl (Nat.zero_le _) hws hr ?_
  intro Y vs n h9 g9 tk9 hY0 hYL T9 F9 hY hv
  exact fun _ => hq Y vs n h9 g9 tk9 hY0 T9 F9.keep hY hv
end
/-! ### LwA -/
section
/-- a goal that the walk leaves to the hand -/
def Hold (P : Prop) : Prop := P
theorem hold {P : Prop} (h : Hold P) : P := h
/-- the heap at the call of law, the table of join's code hidden -/
def hid (h : Heap) : Heap := h.hide 758
theorem hid_of {h : Heap} {b : Addr} {o : Obj} (e : (hid h).get? b = some o) : h.get? b = some o := Heap.of_hide e
theorem hid_758 (h : Heap) : (hid h).get? 758 = none := Heap.hide_self ..
theorem hid_ext (h : Heap) : Heap.ExtBut 758 h (hid h) := fun b o hb e => (Heap.hide_ne h hb).trans e
theorem hid_size (h : Heap) : (hid h).objs.size = h.objs.size := hideAll_size [758] h
/-- a law-like def with one cell is entered; its ground is the heap with the table hidden -/
theorem enterC {prog : Program} {w : World} {lo : Program × List Str} {mg mb : Str → Option Value} {A : Around} {s : Shared} {R : Result → Shared → Prop} {name qual : Str} {params : Arguments} {body : List Stmt} {scope : Scope} {dV kV doc pm cdv ct oc : Value} {an od : Option Addr} {osl : Array (Option Value)} {f : Addr} {args : Args} {binds : List (Str × Value)}
    (Z : Site w lo mg mb 1 0 A s)
    (ho : (K0 w.params).lookup f = some ⟨oc, od, .func (fnOf name qual params body scope dV kV doc pm an cdv ct), osl⟩) (hcd : codeIn (K0 w.params) cdv qual = true)
    (hbind : BindsTo s (fnOf name qual params body scope dV kV doc pm an cdv ct) args binds)
    (hkind : ∀ n, ∀ x ∈ binds, scope.names.lookup x.1 = some .local ∨ (scope.names.lookup x.1 = some .cell ∧ ((cellsFrom n scope.names []).lookup x.1).isSome = true))
    (hnd : ((cellsFrom 0 scope.names []).map (·.1)).Nodup) (hco : scope.isCoroutine = false) (hgen : scope.isGenerator = false) (hk : scope.kind = .function)
    (h : ∀ L' h₁ tk cells, (∀ b o, s.heap.get? b = some o → h₁.get? b = some o) → s.heap.objs.size ≤ L' → Fr (hid s.heap) L' h₁ (bindL (envOfC qual scope L' f cdv).kindOf binds fun _ => none) → News (hid s.heap) L' h₁ cells →
      CellsAre (bindC (envOfC qual scope L' f cdv).kindOf binds fun _ => none) (cellsFrom (L' + 1) scope.names []) cells →
      wpAny (model prog w) (A.deeper (envOfC qual scope L' f cdv)) (execs body (envOfC qual scope L' f cdv))
        (fun fl s' => R (.ok (.ret (match fl with | .ret v => v | _ => .none))) s')
        (fun e s' => wpAny (model prog w) (A.deeper (envOfC qual scope L' f cdv)) (leaving (envOfC qual scope L' f cdv) e) (fun _ s'' => R (.error e) s'') (fun e' s'' => R (.error e') s'') s')
        { s with heap := h₁, toks := tk }) :
    codeAny (model prog w) A (.call (.ref f) args) R s := by
  have hd' := Z.dep
  refine codeAny_call_function (fd := fnOf name qual params body scope dV kV doc pm an cdv ct) (by unfold recursionLimit; omega) (Z.inK _ _ ho) rfl hco hgen rfl (codeRec_of Z.inK hcd) (hbind _ _ _ _ ?_)
  refine wpAny_newFunctionEnv_cells hk (hkind _) fun env' he s' x => ?_
  subst he
  refine ⟨Z.top.nolimit.keeps x.toInCall.keep, codeAny_func ?_⟩
  obtain ⟨h₁, tk, rfl, _⟩ := x.done
  have hk₁ := x.toInCall.keep
  obtain ⟨cells, NC, Y⟩ := Cl.news (h₀ := hid s.heap) (Nat.le_of_eq (hid_size s.heap)) fun n c hm => ⟨x.cell n c (lookup_of_mem_nodup (cellsFrom_names scope.names 0 (s.heap.objs.size + 1) [] [] rfl ▸ hnd) hm), x.above n c hm⟩
  exact h s.heap.objs.size h₁ tk cells hk₁ (Nat.le_refl _) ⟨x.toInCall.ns, fun b o e => hk₁ b o (hid_of e), Nat.le_of_eq (hid_size s.heap)⟩ NC Y
end
/-! ### LawP -/
section
/-- the signs that the words are made of -/
def alpha : List Nat := [13, 10, 38, 60, 39, 97, 62, 32, 59, 9, 0, 8, 11, 31]
def refs : List Nat := [0, 8, 11, 31]
theorem menu_alpha (n : Int) : ∀ c ∈ menu n, c ∈ alpha := by
  intro c hc
  unfold menu at hc
  rcases List.mem_append.mp hc with h | h
  · exact List.mem_append_left (as := [13, 10, 38, 60, 39, 97, 62, 32, 59, 9]) [0, 8, 11, 31] h
  · rw [List.mem_singleton] at h
    subst h
    generalize ((n.fdiv 12).fmod 4).toNat = k
    match k with
    | 0 => decide
    | 1 => decide
    | 2 => decide
    | 3 => decide
    | k + 4 => simp [alpha]
theorem sign_alpha (x : Int) : sign x ∈ alpha := by
  unfold sign
  generalize ((x.fmod 12) - 1).toNat = k
  rw [List.getD_eq_getElem?_getD]
  cases h : (menu x)[k]? with
  | none => decide
  | some c => exact menu_alpha x c (List.mem_of_getElem? h)
def tot (ls : List (List Nat)) : Nat := (ls.map fun l => l.length + 1).sum
theorem tot_append (a b : List (List Nat)) : tot (a ++ b) = tot a + tot b := by simp [tot]
def WordsOk (n : Nat) (ls : List (List Nat)) : Prop := tot ls ≤ n ∧ ∀ l ∈ ls, ∀ c ∈ l, c ∈ alpha
theorem step_ok {n : Nat} {ws : List (List Nat)} (h : WordsOk n ws) (x : Int) : WordsOk (n + 2) (stepW ws x) := by
  unfold stepW
  split
  · refine ⟨by rw [tot_append]; have := h.1; simp [tot] at this ⊢; omega, fun l hl => ?_⟩
    rcases List.mem_append.mp hl with hl | hl
    · exact h.2 l hl
    · rw [List.mem_singleton.mp hl]; intro c hc; cases hc
  · rcases List.eq_nil_or_concat ws with rfl | ⟨r, l, rfl⟩
    · refine ⟨by simp [tot], fun l hl => ?_⟩
      simp at hl
      subst hl
      intro c hc
      rw [List.mem_singleton.mp hc]
      exact sign_alpha x
    · have h1 := h.1
      simp only [List.concat_eq_append] at h1 h ⊢
      rw [tot_append] at h1
      refine ⟨by rw [List.dropLast_concat, tot_append]; simp [tot] at h1 ⊢; omega, fun z hz => ?_⟩
      rw [List.dropLast_concat] at hz
      rcases List.mem_append.mp hz with hz | hz
      · exact h.2 z (List.mem_append_left _ hz)
      · rw [List.mem_singleton.mp hz]
        intro c hc
        rcases List.mem_append.mp hc with hc | hc
        · simp at hc
          exact h.2 l (List.mem_append_right _ (.head _)) c hc
        · rw [List.mem_singleton.mp hc]
          exact sign_alpha x
theorem fold_ok : ∀ (ns : List Int) (n : Nat) (ws : List (List Nat)), WordsOk n ws → WordsOk (n + 2 * ns.length) (ns.foldl stepW ws)
  | [], _, _, h => h
  | x :: r, n, ws, h => by
    have := fold_ok r (n + 2) (stepW ws x) (step_ok h x)
    rw [List.foldl_cons, List.length_cons]
    rw [show n + 2 * (r.length + 1) = n + 2 + 2 * r.length from by omega]
    exact this
theorem words_ok (ns : List Int) : WordsOk (1 + 2 * ns.length) (wordsL ns) :=
  fold_ok ns 1 [[]] ⟨by decide, fun l hl => by rw [List.mem_singleton.mp hl]; intro c hc; cases hc⟩
theorem WordsOk.filter {n : Nat} {ls : List (List Nat)} (h : WordsOk n ls) (p : List Nat → Bool) : WordsOk n (ls.filter p) := by
  refine ⟨Nat.le_trans ?_ h.1, fun l hl => h.2 l (List.mem_filter.mp hl).1⟩
  have key : ∀ ls : List (List Nat), tot (ls.filter p) ≤ tot ls := by
    intro ls
    induction ls with
    | nil => exact Nat.le_refl _
    | cons a r ih =>
      rw [List.filter_cons]
      split <;> simp [tot] at ih ⊢ <;> omega
  exact key ls
theorem tot_count (ls : List (List Nat)) : ls.length ≤ tot ls := by
  induction ls with
  | nil => exact Nat.le_refl _
  | cons a r ih => simp [tot] at ih ⊢; omega
theorem tot_mem {ls : List (List Nat)} {l : List Nat} (h : l ∈ ls) : l.length ≤ tot ls := by
  induction ls with
  | nil => cases h
  | cons a r ih =>
    rcases List.mem_cons.mp h with rfl | h
    · simp [tot]; omega
    · have := ih h
      simp [tot] at this ⊢; omega
theorem WordsOk.count {n : Nat} {ls : List (List Nat)} (h : WordsOk n ls) : ls.length ≤ n := Nat.le_trans (tot_count ls) h.1
theorem WordsOk.len {n : Nat} {ls : List (List Nat)} (h : WordsOk n ls) : ∀ l ∈ ls, l.length ≤ n := fun _ hl => Nat.le_trans (tot_mem hl) h.1
theorem alpha_ok : ∀ c ∈ alpha, c < 128 := by decide
theorem alpha_okL {l : List Nat} (h : ∀ c ∈ l, c ∈ alpha) : okL l = true := by
  rw [okL, List.all_eq_true]
  exact fun c hc => decide_eq_true (alpha_ok c (h c hc))
theorem WordsOk.ok {n : Nat} {ls : List (List Nat)} (h : WordsOk n ls) : ∀ l ∈ ls, okL l = true := fun l hl => alpha_okL (h.2 l hl)
theorem alpha_hit1 : ∀ c ∈ alpha, decide (c ∈ refs) = hit1 c := by decide
theorem alpha_fit : ∀ c ∈ alpha, fitSign c := by
  have : ∀ c ∈ alpha, c ≠ 92 ∧ (hit2 c = false → c = 97) := by decide +kernel
  exact this
theorem any_hit1 {l : List Nat} (h : ∀ c ∈ l, c ∈ alpha) : (l.any fun c => decide (c ∈ refs)) = l.any hit1 := by
  induction l with
  | nil => rfl
  | cons a r ih => rw [List.any_cons, List.any_cons, ih fun c hc => h c (.tail _ hc), alpha_hit1 a (h a (.head _))]
theorem quo_hit1 (l : List Nat) : (quoP l).any hit1 = l.any hit1 := by
  have h39 : hit1 39 = false := by decide +kernel
  have h34 : hit1 34 = false := by decide +kernel
  unfold quoP
  split
  · rename_i h; subst h; simp [h39]
  · split
    · rw [rep39]
      have key : ∀ l : List Nat, (l.flatMap q1).any hit1 = l.any hit1 := by
        intro l
        induction l with
        | nil => rfl
        | cons a r ih =>
          rw [List.flatMap_cons, List.any_append, ih, List.any_cons]
          congr 1
          unfold q1
          split
          · rename_i h; subst h; simp [h39, h34]
          · simp
      simp [h39, key]
    · rfl
theorem join_hit1 : ∀ ls : List (List Nat), (joinL ls).any hit1 = ls.any fun l => l.any hit1
  | [] => rfl
  | [l] => by
    show (quoP l).any hit1 = _
    rw [quo_hit1]; simp
  | l :: m :: r => by
    show (quoP l ++ 32 :: joinL (m :: r)).any hit1 = _
    have h32 : hit1 32 = false := by decide +kernel
    rw [List.any_append, List.any_cons, h32, Bool.false_or, join_hit1 (m :: r), quo_hit1]; rfl
theorem quo_len (l : List Nat) : (quoP l).length ≤ 5 * l.length + 2 := by
  unfold quoP
  split
  · simp
  · split
    · rw [rep39]
      have key : ∀ l : List Nat, (l.flatMap q1).length ≤ 5 * l.length := by
        intro l
        induction l with
        | nil => exact Nat.le_refl _
        | cons a r ih =>
          rw [List.flatMap_cons, List.length_append, List.length_cons]
          have : (q1 a).length ≤ 5 := by unfold q1; split <;> simp
          omega
      have := key l
      simp only [List.length_append, List.length_cons, List.length_nil]
      omega
    · omega
theorem join_len : ∀ ls : List (List Nat), (joinL ls).length ≤ 5 * tot ls
  | [] => Nat.zero_le _
  | [l] => by
    have := quo_len l
    show (quoP l).length ≤ _
    simp [tot]; omega
  | l :: m :: r => by
    show (quoP l ++ 32 :: joinL (m :: r)).length ≤ _
    have h1 := quo_len l
    have h2 := join_len (m :: r)
    rw [List.length_append, List.length_cons]
    simp [tot] at h2 ⊢
    omega
theorem feedsF_le (l : List Nat) (a : Nat) : (feedsF a l).length ≤ l.length := by
  induction l generalizing a with
  | nil => exact Nat.le_refl _
  | cons c r ih =>
    rw [feedsF, List.length_append, List.length_cons]
    have h1 := ih c
    have h2 : (if c = 10 ∧ a = 13 then [] else if c = 13 then [10] else [c] : List Nat).length ≤ 1 := by
      split
      · simp
      · split <;> simp
    omega
theorem feeds_alpha {l : List Nat} (a : Nat) (h : ∀ c ∈ l, c ∈ alpha) : ∀ c ∈ feedsF a l, c ∈ alpha := by
  induction l generalizing a with
  | nil => intro c hc; cases hc
  | cons b r ih =>
    intro c hc
    rw [feedsF] at hc
    rcases List.mem_append.mp hc with hc | hc
    · split at hc
      · cases hc
      · split at hc
        · rw [List.mem_singleton.mp hc]; decide
        · rw [List.mem_singleton.mp hc]; exact h b (.head _)
    · exact ih b (fun z hz => h z (.tail _ hz)) c hc
theorem WordsOk.feeds {n : Nat} {ls : List (List Nat)} (h : WordsOk n ls) : WordsOk n (ls.map feedsL) := by
  refine ⟨Nat.le_trans ?_ h.1, fun l hl => ?_⟩
  · have key : ∀ ls : List (List Nat), tot (ls.map feedsL) ≤ tot ls := by
      intro ls
      induction ls with
      | nil => exact Nat.le_refl _
      | cons a r ih =>
        have := feedsF_le a 32
        simp [tot, feedsL] at ih ⊢
        omega
    exact key ls
  · obtain ⟨z, hz, rfl⟩ := List.mem_map.mp hl
    exact feeds_alpha 32 (h.2 z hz)
theorem flat_e1_len (l : List Nat) : (l.flatMap e1).length ≤ 5 * l.length := by
  induction l with
  | nil => exact Nat.le_refl _
  | cons a r ih =>
    rw [List.flatMap_cons, List.length_append, List.length_cons]
    have : (e1 a).length ≤ 5 := by
      unfold e1
      split
      · simp
      · split
        · simp
        · split <;> simp
    omega
theorem flat_e1_ok {l : List Nat} (h : okL l = true) : okL (l.flatMap e1) = true := by
  rw [okL, List.all_eq_true] at h ⊢
  intro c hc
  obtain ⟨a, ha, hc⟩ := List.mem_flatMap.mp hc
  have h1 := h a ha
  unfold e1 at hc
  split at hc
  · have : ∀ c ∈ ([38, 97, 109, 112, 59] : List Nat), decide (c < 128) = true := by decide
    exact this c hc
  · split at hc
    · have : ∀ c ∈ ([38, 108, 116, 59] : List Nat), decide (c < 128) = true := by decide
      exact this c hc
    · split at hc
      · have : ∀ c ∈ ([38, 103, 116, 59] : List Nat), decide (c < 128) = true := by decide
        exact this c hc
      · rw [List.mem_singleton.mp hc]; exact h1
theorem reads_join : ∀ ls : List (List Nat), (∀ l ∈ ls, ∀ c ∈ l, fitSign c) → Reads (some 32) (joinL ls) ls
  | [], _ => ⟨none, [], rfl⟩
  | [l], h => by
    obtain ⟨q, hq, e⟩ := lex_word l (h l (.head _))
    have e' := e []
    rw [List.append_nil] at e'
    exact ⟨none, q, [], (show lrun (some 32) [] false (quoP l) = _ from e'.trans (lex_end l q)), hq, none, [], rfl⟩
  | l :: m :: r, h => by
    obtain ⟨q, hq, e⟩ := lex_word l (h l (.head _))
    refine ⟨some 32, q, joinL (m :: r), ?_, hq, reads_join (m :: r) fun z hz => h z (.tail _ hz)⟩
    show lrun (some 32) [] false (quoP l ++ 32 :: joinL (m :: r)) = _
    rw [e, lex_blank hq]
theorem join_txt (ls : List (List Nat)) : Txt.join (Str.ofString " ") (ls.map fun l => S (quoL l)) = S (joinL ls) := by
  have h1 : Txt.join (Str.ofString " ") (ls.map fun l => S (quoL l)) = Str.join (S [32]) ((ls.map quoP).map S) := by
    rw [List.map_map]
    exact PySem.StrLaws.glued_eq_join _ _
  rw [h1, join_glue]
  have key : ∀ ls : List (List Nat), glue 32 (ls.map quoP) = joinL ls := by
    intro ls
    induction ls with
    | nil => rfl
    | cons a r ih =>
      cases r with
      | nil => rfl
      | cons b t =>
        show quoP a ++ 32 :: glue 32 ((b :: t).map quoP) = quoP a ++ 32 :: joinL (b :: t)
        rw [ih]
  rw [key]
end
/-! ### LwB -/
section
abbrev tabO (ps : Array Value) : Obj := { cls := .none, data := .fields ps }
/-- ps is a good table of join's code wherever it lies over B -/
def CodeOK (B : Heap) (ps : Array Value) : Prop := ∀ h : Heap, (∀ b o, B.get? b = some o → h.get? b = some o) → h.get? 758 = some (tabO ps) → h.IsCode 762 758 ps ∧ h.TableAt 762 758 ps
theorem CodeOK.of {B h : Heap} {ps : Array Value} (c : ∃ o, B.get? 762 = some o) (k : ∀ b o, B.get? b = some o → h.get? b = some o) (h1 : h.IsCode 762 758 ps) (h2 : h.TableAt 762 758 ps) : CodeOK B ps := fun h' k' e => by
  obtain ⟨o, ho⟩ := c
  have e1 : ∀ o', h.get? 762 = some o' → h'.get? 762 = some o' := fun o' q => by
    have := (k _ _ ho).symm.trans q
    cases this
    exact k' _ _ ho
  have e2 : ∀ o', h.get? 758 = some o' → h'.get? 758 = some o' := fun o' q => by
    have := h2.2.symm.trans q
    cases this
    exact e
  exact ⟨isCode_at h1 e1 e2, tableAt_at h2 e1 e2⟩
/-- what the ground holds -/
structure LB (w : World) (lo : Program × List Str) (mg mb : Str → Option Value) (B : Heap) : Prop where
  X : (K0 w.params).In B
  T : TopRead lo.1 lo.2 mg mb B
  M : ∃ bm ob, BMod B mainGlobals mg bm ob
  b7 : B.get? 758 = none
  c : ∃ o, B.get? 762 = some o
/-- law's own state -/
structure LS (B : Heap) (L : Addr) (ps₀ : Array Value) (m : Str → Option Value) (news : List (Addr × Obj)) (ps : Array Value) (h : Heap) : Prop where
  F : Fr B L h m
  N : News B L h ((758, tabO ps) :: news)
  n7 : ∀ p ∈ news, p.1 ≠ 758
  ext : ∃ more, ps = ps₀ ++ more
  ok : CodeOK B ps
section
variable {w : World} {lo : Program × List Str} {mg mb : Str → Option Value} {B h h' : Heap} {L : Addr} {ps₀ ps : Array Value} {m m' : Str → Option Value} {news news' : List (Addr × Obj)}
theorem LS.tab (S : LS B L ps₀ m news ps h) : h.IsCode 762 758 ps ∧ h.TableAt 762 758 ps := S.ok h S.F.keep (S.N _ (.head _)).1
theorem LS.site (Z : LB w lo mg mb B) (S : LS B L ps₀ m news ps h) {A : Around} {d u : Nat} {g : Array GenState} {dr : Drawn} {tk : Nat} {os : OsState} (hh : A.handled = none) (hd' : A.depth + d < 1000) (hu : A.units + u < 9900) : Site w lo mg mb d u A ⟨h, g, dr, tk, os⟩ :=
  ⟨hh, hd', hu, Z.X.keeps S.F.keep, Z.T.keeps S.F.keep, ⟨ps, S.tab⟩, let ⟨bm, ob, q⟩ := Z.M; ⟨bm, ob, q.keeps S.F.keep⟩⟩
theorem LS.at (Z : LB w lo mg mb B) (S : LS B L ps₀ m news ps h) {env : Env} {g : Array GenState} {dr : Drawn} {tk : Nat} {os : OsState} : Site w lo mg mb 20 150 (callerA.deeper env) ⟨h, g, dr, tk, os⟩ :=
  S.site Z rfl (by show callerA.depth + 1 + 20 < 1000; decide) (by show callerA.units + 3 + 150 < 9900; decide)
theorem unitsC {env : Env} : (callerA.deeper env).units + 64 < cLine := by show callerA.units + 3 + 64 < cLine; decide
theorem LS.below (S : LS B L ps₀ m news ps h) {env : Env} (hf : env.frame = some L) (hk : env.scope.kind = .function) : Below (callerA.deeper env) B [env] h := pushX (below_caller B) S.F hf hk
theorem LS.ne (S : LS B L ps₀ m news ps h) {b c : Addr} {o : Obj} (hm : (c, o) ∈ news) (hn : h.get? b = none) : b ≠ c := fun q => by
  have := (S.N _ (.tail _ hm)).1
  rw [q] at hn
  rw [hn] at this; cases this
theorem LS.mv (Z : LB w lo mg mb B) (S : LS B L ps₀ m news ps h) (x : Mv [L] h h') : ∃ ps', LS B L ps₀ m news ps' h' := by
  have hL7 : L ≠ 758 := Ne.symm (S.N _ (.head _)).2.1
  obtain ⟨more, h1, h2⟩ := x.tab ps S.tab.1 S.tab.2
  have keep : ∀ b o, B.get? b = some o → h'.get? b = some o := fun b o e => x.other b o (S.F.keep b o e) (fun q => by
    rw [List.mem_singleton.mp q, kts_self S.F] at e; cases e) (fun q => by rw [q, Z.b7] at e; cases e)
  obtain ⟨m0, rfl⟩ := S.ext
  refine ⟨(ps₀ ++ m0) ++ more, ⟨x.ns S.F.ns hL7, keep, S.F.above⟩, fun p hp => ?_, S.n7, ⟨m0 ++ more, Array.append_assoc ..⟩, CodeOK.of Z.c keep h1 h2⟩
  rcases List.mem_cons.mp hp with rfl | hp
  · exact ⟨h2.2, Ne.symm hL7, Z.b7⟩
  · have := S.N p (.tail _ hp)
    exact ⟨x.other _ _ this.1 (fun q => this.2.1 (List.mem_singleton.mp q)) (S.n7 p hp), this.2⟩
theorem LS.keeps (S : LS B L ps₀ m news ps h) (k : ∀ b o, h.get? b = some o → h'.get? b = some o) : LS B L ps₀ m news ps h' :=
  ⟨Fr.grow S.F k, News.grow S.N k, S.n7, S.ext, S.ok⟩
theorem LS.but (S : LS B L ps₀ m news ps h) (hn : h'.Ns L m') (k : ∀ b o, b ≠ L → h.get? b = some o → h'.get? b = some o) : LS B L ps₀ m' news ps h' :=
  ⟨⟨hn, fun b o e => k b o (fun q => by rw [q, kts_self S.F] at e; cases e) (S.F.keep b o e), S.F.above⟩, fun p hp => ⟨k _ _ (S.N p hp).2.1 (S.N p hp).1, (S.N p hp).2⟩, S.n7, S.ext, S.ok⟩
/-- behind a stretch of the walk -/
theorem LS.on (S : LS B L ps₀ m news ps h) (F : Fr B L h' m') (N : News B L h' ((758, tabO ps) :: news')) (n7 : ∀ p ∈ news', p.1 ≠ 758) : LS B L ps₀ m' news' ps h' := ⟨F, N, n7, S.ext, S.ok⟩
/-- a new list onto the ledger -/
theorem LS.add {ps' : Array Value} {news₀ : List (Addr × Obj)} {m₀ : Str → Option Value} (S : LS B L ps₀ m₀ news₀ ps h) (x : LS B L ps₀ m news ps' h') {b : Addr} {o : Obj} (hn : h.get? b = none) (hb : h'.get? b = some o) : LS B L ps₀ m ((b, o) :: news) ps' h' := by
  have h7 : b ≠ 758 := fun q => by
    have := (S.N _ (.head _)).1
    rw [q] at hn; rw [hn] at this; cases this
  have e0 : B.get? b = none := by
    cases q : B.get? b with
    | none => rfl
    | some o => rw [S.F.keep _ _ q] at hn; cases hn
  have eL : b ≠ L := fun q => by
    obtain ⟨_, _, _, e, _⟩ := S.F.ns
    rw [q, e] at hn; cases hn
  refine ⟨x.F, fun p hp => ?_, fun p hp => ?_, x.ext, x.ok⟩
  · rcases List.mem_cons.mp hp with rfl | hp
    · exact x.N _ (.head _)
    · rcases List.mem_cons.mp hp with rfl | hp
      · exact ⟨hb, eL, e0⟩
      · exact x.N _ (.tail _ hp)
  · rcases List.mem_cons.mp hp with rfl | hp
    · exact h7
    · exact x.n7 p hp
theorem LS.set (S : LS B L ps₀ m news ps h) (hn : h'.Ns L m') (hs : Heap.SameBut L h h') : LS B L ps₀ m' news ps h' := ⟨S.F.set hn hs, S.N.set hs, S.n7, S.ext, S.ok⟩
/-- the cell is stored into -/
theorem LS.setCell {o : Obj} {v : Value} (S : LS B L ps₀ m (news ++ [(L + 1, o)]) ps h) (hne : ∀ p ∈ news, p.1 ≠ L + 1) (hc : h'.IsCell (L + 1) (some v)) (hs : Heap.SameBut (L + 1) h h') : ∃ o', o'.data = .cell (some v) ∧ LS B L ps₀ m (news ++ [(L + 1, o')]) ps h' := by
  obtain ⟨o', ho', hd'⟩ := hc
  have hmem := S.N (L + 1, o) (.tail _ (List.mem_append_right _ (.head _)))
  have h7 : 758 ≠ L + 1 := Ne.symm (S.n7 (L + 1, o) (List.mem_append_right _ (.head _)))
  refine ⟨o', hd', ⟨S.F.ns.sameBut hs (Nat.ne_of_lt (Nat.lt_succ_self L)), fun b ob e => (hs.2 b (fun q => ?_)).trans (S.F.keep b ob e), S.F.above⟩, fun p hp => ?_, fun p hp => ?_, S.ext, S.ok⟩
  · rw [q] at e; have := hmem.2.2; rw [this] at e; cases e
  · rcases List.mem_cons.mp hp with rfl | hp
    · have := S.N _ (.head _)
      exact ⟨(hs.2 _ h7).trans this.1, this.2⟩
    · rcases List.mem_append.mp hp with hp | hp
      · have := S.N _ (.tail _ (List.mem_append_left _ hp))
        exact ⟨(hs.2 _ (hne p hp)).trans this.1, this.2⟩
      · rw [List.mem_singleton.mp hp]
        exact ⟨ho', hmem.2⟩
  · rcases List.mem_append.mp hp with hp | hp
    · exact S.n7 p (List.mem_append_left _ hp)
    · rw [List.mem_singleton.mp hp]; exact Ne.symm h7
theorem LS.get (S : LS B L ps₀ m news ps h) {b : Addr} {o : Obj} (hm : (b, o) ∈ news) : h.get? b = some o := (S.N _ (.tail _ hm)).1
end
/-- _law_refused, whichever way -/
theorem ref_any {prog : Program} {w : World} {lo : Program × List Str} {mg mb : Str → Option Value} {B h : Heap} {L : Addr} {ps₀ ps : Array Value} {m : Str → Option Value} {news : List (Addr × Obj)} {env : Env} {g : Array GenState} {dr : Drawn} {tk : Nat} {os : OsState} {l : List Nat} {t : Tok} {Q E : Value → Shared → Prop}
    (Z : LB w lo mg mb B) (S : LS B L ps₀ m news ps h) (hf : env.frame = some L) (hk : env.scope.kind = .function) (n1 : (758 : Addr) ∉ [L]) (n2 : (762 : Addr) ∉ [L]) (hll : l.length ≤ 1000)
    (hq : ∀ h' tk', Mv [L] h h' → Q (.bool (l.any hit1)) ⟨h', g, dr, tk', os⟩) : wpAny (model prog w) (callerA.deeper env) (call (.ref 804) [.str (Mine.S l) t]) Q E ⟨h, g, dr, tk, os⟩ := by
  cases hit : l.any hit1 with
  | false =>
    refine ref_no ((S.at Z).less (by decide) (by decide)) hll hit fun h' tk' kp _ => ?_
    have := hq h' tk' (Mv.of_keeps kp)
    rw [hit] at this
    exact this
  | true =>
    refine ref_yes ((S.at Z).less (by decide) (by decide)) hll hit (S.below hf hk) Z.X Z.T fun h' g' tk' T kp _ => ?_
    have e : [env].filterMap (·.frame) = [L] := by simp [hf]
    rw [e] at T
    have := hq h' tk' (Mv.of_turn T kp n1 n2)
    rw [hit] at this
    exact this
/-- the object of a list -/
def LObj (o : Obj) (vs : Array Value) : Prop := o.cls = .type "list" ∧ ∃ n, o.data = .seq vs n
theorem isList_obj {h : Heap} {b : Addr} {vs : Array Value} (hl : h.IsList b vs) : ∃ o, h.get? b = some o ∧ LObj o vs := let ⟨o, ho, hc, hd⟩ := hl; ⟨o, ho, hc, hd⟩
theorem obj_isList {h : Heap} {b : Addr} {o : Obj} {vs : Array Value} (e : h.get? b = some o) (hl : LObj o vs) : h.IsList b vs := ⟨o, e, hl.1, hl.2⟩
end
/-! ### Lw -/
section
theorem fill_lw (P : Params) : (PySem.Challenge.rw_mj0268_01 = PySem.Challenge.rw_mj0268_01 ∧ K0 P = K0 P) := by
  k_fill
  exact ⟨rfl, rfl⟩
local macro_rules | `(tactic| walk_at "eval ListComp") => `(tactic| (k_here; refine hold ?_))
local macro_rules | `(tactic| walk_at "exec Assign cons ListComp") => `(tactic| (k_here; refine hold ?_))
local macro_rules | `(tactic| walk_at "call ref") => `(tactic| (k_here; refine hold ?_))
local macro_rules | `(tactic| walk_at "compareOp NotEq ref ref") => `(tactic| (k_here; refine hold ?_))
local macro_rules | `(tactic| walk_at "compareOp Eq ref ref") => `(tactic| (k_here; refine hold ?_))
local macro_rules | `(tactic| walk_at "compareOp NotEq str str") => `(tactic| (k_here; refine hold ?_))
local macro_rules | `(tactic| walk_at "compareOp NotEq bool bool") => `(tactic| (k_here; refine hold ?_))
theorem law_call {prog : Program} {w : World} {lo : Program × List Str} {mg mb : Str → Option Value} {s : Shared} {R : Result → Shared → Prop} {a : Addr} {vs : List Value} {ns : List Int}
    (Z : Site w lo mg mb 30 200 callerA s) (hL : s.heap.IsList a vs.toArray) (hv : IntsAre vs ns) (hn : ns.length ≤ 63) (hG : AllBare s.gens)
    (hR : ∀ h' g' tk', Mv [] s.heap h' → AllBare g' → R (.ok (.ret (.bool true))) { s with heap := h', gens := g', toks := tk' }) :
    codeAny (model prog w) callerA (.call (.ref 809) ⟨[.ref a], []⟩) R s := by
  refine enterC (Z.less (by omega) (by omega)) (by k_is) (by k_is) (binds := [(Str.ofString "script", .ref a)]) (BindsTo.of_eq rfl) (fun n x hx => ?_) (by decide) rfl rfl rfl ?_
  · cases hx with
    | head => exact .inl rfl
    | tail _ h => cases h
  intro L h₁ tk₁ cells k₁ hL₁ F N Y
  obtain ⟨o, rfl, ho⟩ := Y.one
  obtain ⟨hh, hdp, hun, X', T', ⟨ps₀, c1, c2⟩, bm, ob, M'⟩ := Z
  have X := inK_ext X' (hid_ext s.heap)
  have T := top_ext T' (hid_ext s.heap)
  have Z : LB w lo mg mb (hid s.heap) := ⟨X, T, ⟨bm, ob, M'.extBut c2 (hid_ext s.heap)⟩, hid_758 _, by
    obtain ⟨⟨o, vs, e, _⟩, _⟩ := c2
    exact ⟨_, hid_ext s.heap 762 _ (by decide) e⟩⟩
  have l7 : @LT.lt Nat _ 758 s.heap.objs.size := Heap.lt_size c2.2
  have hLa := hL.at fun o e => hid_ext s.heap a o (fun q => by
    obtain ⟨o', ho', hc', _⟩ := hL
    rw [q, c2.2] at ho'
    cases ho'
    cases hc') e
  have n7 : (758 : Nat) ≠ L + 1 := fun q => by have : @LE.le Nat _ s.heap.objs.size L := hL₁; omega
  have S0 : LS (hid s.heap) L ps₀ (fun y => if y = Str.ofString "script" then some (.ref a) else none) [(L + 1, o)] ps₀ h₁ := ⟨F, fun p hp => by
    rcases List.mem_cons.mp hp with rfl | hp
    · exact ⟨k₁ _ _ c2.2, fun q => by have : @LE.le Nat _ s.heap.objs.size L := hL₁; have q' : (758 : Nat) = L := q; omega, hid_758 _⟩
    · exact N p hp, fun p hp => by rw [List.mem_singleton.mp hp]; exact Ne.symm n7, ⟨#[], by simp⟩, CodeOK.of Z.c F.keep (c1.keeps k₁) (c2.keeps k₁)⟩
  replace ho : o.data = .cell none := ho
  clear Y N F X' T' M'
  have F := S0.F
  have N := S0.N
  try dsimp only
  try k_fold
  k_steps
  rename_i D w2 h2 F2 N2 hI2 l2
  have S1 := S0.on F2 (fun p hp => N2 p (by
    rcases List.mem_cons.mp hp with rfl | hp
    · exact .tail _ (.tail _ (.tail _ (.head _)))
    · exact .tail _ (.tail _ (.tail _ (.tail _ hp)))) : News _ _ _ ((758, tabO ps₀) :: [(L + 1, o)])) S0.n7
  have hD := (N2 _ (.head _)).1
  generalize hns : List.take 10 ns ++ [1, 2, 3, 0, 4, 5, 6, 0, 7, 8, 1] = ns' at hI2
  have hns' : ns'.length ≤ 21 := by rw [← hns, List.length_append, List.length_take]; simp; omega
  have W := words_ok ns'
  generalize hws : wordsL ns' = ws at W
  have W : WordsOk 43 ws := ⟨Nat.le_trans W.1 (by omega), W.2⟩
  show wpAny _ _ (call (.ref 778) [.ref D]) _ _ _
  refine wor_call ((S1.at Z).less (by decide) (by decide)) (by omega) (obj_isList hD ⟨rfl, _, rfl⟩) hI2 ?_
  intro wa us h3 tk3 kp3 hwa hwl hws3 _
  rw [hws] at hws3
  clear F2 N2
  obtain ⟨ow, how, hwo⟩ := isList_obj hwl
  have S2 := S1.add (S1.keeps kp3) hwa how
  have nwa : wa ≠ L + 1 := S1.ne (.head _) hwa
  have F := S2.F
  have N := S2.N
  try dsimp only
  k_steps
  rename_i h4 F4 N4 tk4 hTk4
  have S3 := S2.on F4 N4 S2.n7
  clear F4 N4
  have hlen : ws.length ≤ 43 := W.count
  refine wpAny_Assign_Name ?_
  refine lcK (cl := []) (fun l => l.any fun c => decide (c ∈ refs)) id rfl rfl rfl S3.F.ns rfl (obj_isList (S3.get (.head _)) hwo) hws3 (by omega) (closureFor_none (by decide)) (by decide) rfl (by decide) rfl ?_ ?_ ?_
  · intro C l t s₃ m₃ E' hl hC hns hmx hk
    refine wpAny_tests_one (signsTest rfl unitsC rfl rfl hns hmx (by have := W.len l hl; omega) (closureFor_none (by decide)) (by decide) rfl (by decide) rfl (by decide) fun h' tk kp => ?_)
    exact ⟨rfl, ⟨h', tk, rfl, kp⟩⟩
  · intro C l t s₃ m₃ E' hl hp hC hns hmx hk
    exact wpAny_Name (wpAny_loadName_local rfl rfl hns hmx ⟨⟨t, rfl⟩, ⟨s₃.heap, s₃.toks, rfl, fun _ _ e => e⟩⟩)
  intro ba h5 tk5 yb hba hbl hyb kp5
  rw [List.map_id] at hyb
  obtain ⟨ob, hob, hbo⟩ := isList_obj hbl
  have S4 := S3.add (S3.keeps kp5) hba hob
  have nba : ba ≠ L + 1 := S3.ne (.tail _ (.head _)) hba
  refine wpAny_storeName_cell rfl rfl rfl ⟨o, S4.get (.tail _ (.tail _ (.head _))), ho⟩ fun h6 hc6 hs6 => ?_
  obtain ⟨o6, ho6, S5⟩ := S4.setCell (news := [(ba, ob), (wa, ow)]) (fun p hp => by
    rcases List.mem_cons.mp hp with rfl | hp
    · exact nba
    · rw [List.mem_singleton.mp hp]; exact nwa) hc6 hs6
  replace S5 : LS (hid s.heap) L ps₀ _ [(ba, ob), (wa, ow), (L + 1, o6)] ps₀ h6 := S5
  have F := S5.F
  have N := S5.N
  try dsimp only
  k_steps
  have hfs : ∀ {h : Heap} {m news ps}, LS (hid s.heap) L ps₀ m news ps h → ∀ b ∈ [L], @LT.lt Nat _ b h.objs.size := fun S b hb => by
    rw [List.mem_singleton.mp hb]; exact S.F.ns.lt
  have h7s : ∀ {h : Heap} {m news ps}, LS (hid s.heap) L ps₀ m news ps h → @LT.lt Nat _ 758 h.objs.size := fun S => Heap.lt_size (S.N _ (.head _)).1
  have n758 : (758 : Addr) ∉ [L] := fun q => by
    have : (758 : Nat) = L := List.mem_singleton.mp q
    have : @LE.le Nat _ s.heap.objs.size L := hL₁
    omega
  have n762 : (762 : Addr) ∉ [L] := fun q => by
    have e : (762 : Addr) = L := List.mem_singleton.mp q
    obtain ⟨o, ho⟩ := Z.c
    rw [e, kts_self S5.F] at ho; cases ho
  refine lcG (cl := []) (fun l => l.any hit1) [L] rfl rfl rfl S5.F.ns rfl (obj_isList (S5.get (.tail _ (.head _))) hwo) hws3 (by omega) (closureFor_none (by decide)) (by decide) rfl (by decide) rfl (hfs S5) (fun q => (S5.N _ (.tail _ (.tail _ (.head _)))).2.1 (List.mem_singleton.mp q)) (S5.n7 _ (.tail _ (.head _))) (h7s S5) ?_ ?_
  · intro C l t h₃ tk₃ m₃ Q' E' hl hns hmx M hq
    obtain ⟨ps', S6⟩ := S5.mv Z M
    have hll : l.length ≤ 1000 := by have := W.len l hl; omega
    refine wpAny_isTrue_value (eval_call1 (Z.X.keeps S6.F.keep) (Z.T.keeps S6.F.keep) rfl rfl hns hmx (by k_is) (by k_is) ?_ rfl rfl (by decide) (by decide))
    exact ref_any Z S6 rfl rfl n758 n762 hll fun h' tk' M' => wpAny_truthy_bool (hq h' tk' M')
  intro bb h7 tk7 yb7 hbb hbl7 hyb7 M7
  obtain ⟨ps7, S7⟩ := S5.mv Z M7
  have F := S7.F
  have N := S7.N
  try dsimp only
  k_steps
  have hEq : ws.filter (fun l => l.any hit1) = ws.filter (fun l => l.any fun c => decide (c ∈ refs)) := List.filter_congr fun l hl => (any_hit1 (W.2 l hl)).symm
  rw [hEq] at hyb7
  have Wb := W.filter fun l => l.any fun c => decide (c ∈ refs)
  generalize hbad : ws.filter (fun l => l.any fun c => decide (c ∈ refs)) = bad at hyb7 hyb Wb hEq
  refine ne_texts hbl7 (obj_isList (S7.get (.head _)) hbo) hyb7 hyb Wb.ok Wb.ok unitsC ?_
  rw [show (!decide (bad = bad)) = false from by simp]
  (try clear F); (try clear N)
  have F := S7.F
  have N := S7.N
  k_steps
  refine joi_call ((S7.at Z).less (by decide) (by decide)) (fun l hl => by have := W.len l hl; omega) (by omega) (obj_isList (S7.get (.tail _ (.head _))) hwo) hws3 hG ?_
  intro h8 g8 t8 tk8 G8 hG8 _
  rw [join_txt]
  obtain ⟨ps8, S8⟩ := S7.mv Z (Mv.of_grown G8 [L] n758)
  (try clear F); (try clear N)
  have F := S8.F
  have N := S8.N
  try dsimp only
  k_steps
  have hjl : (joinL ws).length ≤ 1000 := by have := join_len ws; have := W.1; omega
  have hj : (joinL ws).any hit1 = !decide (bad = []) := by
    rw [join_hit1, ← hEq, Bool.eq_iff_iff]
    simp [List.filter_eq_nil_iff]
  refine ref_any Z S8 rfl rfl n758 n762 hjl ?_
  intro h9 tk9 M9
  rw [hj]
  obtain ⟨ps9, S9⟩ := S8.mv Z M9
  (try clear F); (try clear N)
  have F := S9.F
  have N := S9.N
  try dsimp only
  k_steps
  rename_i lA hA FA NA lA'
  have SA := S9.on FA (fun p hp => NA p (.tail _ hp)) S9.n7
  refine ne_texts (ms := []) (ys := []) (obj_isList (SA.get (.head _)) hbo) (obj_isList (NA _ (.head _)).1 ⟨rfl, _, rfl⟩) hyb .nil Wb.ok (fun z hz => by cases hz) unitsC ?_
  clear FA NA
  have F := SA.F
  have N := SA.N
  try dsimp only
  k_steps
  refine EqBoolInt.of_rcne (SeqAt.RcNeAt.bool_bool _ _) ?_
  rw [show (!((!decide (bad = [])) == (!decide (bad = [])))) = false from by simp]
  try dsimp only
  k_steps
  refine lcA (cl := [(Str.ofString "bad", L + 1)]) (fun l => !((bad.map S).any (· == S l))) id rfl rfl rfl rfl SA.F.ns rfl (obj_isList (SA.get (.tail _ (.head _))) hwo) hws3 (by omega) rfl (by with_unfolding_all rfl) (by decide) rfl (by decide) rfl ?_ ?_ ?_
  · intro C l t s₃ m₃ E' hl hC hns hmx hk
    refine wpAny_tests_one (wpAny_isTrue_Compare1 (wpAny_Name (wpAny_loadName_local rfl rfl hns hmx (wpAny_Name (wpAny_loadName_cell rfl rfl rfl ⟨o6, hk _ _ (SA.get (.tail _ (.tail _ (.head _)))), ho6⟩ ?_)))))
    exact notin_list_strs (obj_isList (hk _ _ (SA.get (.head _))) hbo) hyb (wpAny_truthy_bool ⟨rfl, ⟨s₃.heap, s₃.toks, rfl, fun _ _ e => e⟩⟩)
  · intro C l t s₃ m₃ E' hl hp hC hns hmx hk
    exact wpAny_Name (wpAny_loadName_local rfl rfl hns hmx ⟨⟨t, rfl⟩, ⟨s₃.heap, s₃.toks, rfl, fun _ _ e => e⟩⟩)
  intro fa hB tkB yf hfa hfl hyf hnB kpB
  obtain ⟨of, hof, hfo⟩ := isList_obj hfl
  have SB := SA.add (SA.but hnB kpB) hfa hof
  rw [List.map_id] at hyf
  have Wf := W.filter fun l => !((bad.map S).any (· == S l))
  have hfn : ∀ l ∈ ws.filter (fun l => !((bad.map S).any (· == S l))), l.any hit1 = false := fun l hl => by
    obtain ⟨h1, h2⟩ := List.mem_filter.mp hl
    cases q : l.any hit1 with
    | false => rfl
    | true =>
      have hb : l ∈ bad := by rw [← hEq]; exact List.mem_filter.mpr ⟨h1, q⟩
      have : (bad.map S).any (· == S l) = true := List.any_eq_true.mpr ⟨S l, List.mem_map_of_mem hb, beq_self_eq_true _⟩
      rw [this] at h2; cases h2
  generalize ws.filter (fun l => !((bad.map S).any (· == S l))) = fit at hyf Wf hfn
  have hfc : fit.length ≤ 43 := Wf.count
  have hfl2 : ∀ l ∈ fit, l.length ≤ 1000 := fun l hl => by have := Wf.len l hl; omega
  (try clear F); (try clear N)
  have F := SB.F
  have N := SB.N
  try dsimp only
  k_steps
  refine joi_call ((SB.at Z).less (by decide) (by decide)) hfl2 (by omega) (obj_isList (SB.get (.head _)) hfo) hyf hG8 ?_
  intro hC gC tC tkC GC hGC _
  rw [join_txt]
  obtain ⟨psC, SC⟩ := SB.mv Z (Mv.of_grown GC [L] n758)
  (try clear F); (try clear N)
  have F := SC.F
  have N := SC.N
  try dsimp only
  k_steps
  have hjf : (joinL fit).length ≤ 300 := by have := join_len fit; have := Wf.1; omega
  have hjn : (joinL fit).any hit1 = false := by
    rw [join_hit1, List.any_eq_false]
    intro l hl
    rw [hfn l hl]
    decide
  refine esc_call ((SC.at Z).less (by decide) (by decide)) (by omega) hjn ?_
  intro hD' tD tkD kpD _
  have SD := SC.keeps kpD
  rw [show escL (joinL fit) = joinL (fit.map escdL) from esc_join fit]
  (try clear F); (try clear N)
  have F := SD.F
  have N := SD.N
  try dsimp only
  k_steps
  rename_i hE FE NE tkE hTkE
  have SE := SD.on FE NE SD.n7
  have ft : ∀ f : List Nat → List Nat, (fit.filter fun _ => true).map f = fit.map f := fun f => by rw [List.filter_eq_self.mpr fun _ _ => rfl]
  have hll : ∀ l ∈ fit, l.length ≤ 43 := Wf.len
  have hfe : ∀ l ∈ fit.map escdL, okL l = true := fun l hl => by
    obtain ⟨z, hz, rfl⟩ := List.mem_map.mp hl
    exact flat_e1_ok (alpha_okL (feeds_alpha 32 (Wf.2 z hz)))
  have hle : ∀ l ∈ fit.map escdL, l.length ≤ 1000 := fun l hl => by
    obtain ⟨z, hz, rfl⟩ := List.mem_map.mp hl
    have h1 := flat_e1_len (feedsL z)
    have h2 : (feedsL z).length ≤ z.length := feedsF_le z 32
    have h3 := hll z hz
    show ((feedsL z).flatMap e1).length ≤ 1000
    omega
  refine lcK (cl := []) (fun _ => true) escdL rfl rfl rfl SE.F.ns rfl (obj_isList (SE.get (.head _)) hfo) hyf (by omega) (closureFor_none (by decide)) (by decide) rfl (by decide) rfl ?_ ?_ ?_
  · intro C l t s₃ m₃ E' hl hC hns hmx hk
    exact wpAny_tests_nil ⟨rfl, ⟨s₃.heap, s₃.toks, rfl, fun _ _ e => e⟩⟩
  · intro C l t s₃ m₃ E' hl _ hC hns hmx hk
    have SX := SE.keeps hk
    refine eval_call1 (Z.X.keeps SX.F.keep) (Z.T.keeps SX.F.keep) rfl rfl hns hmx (by k_is) (by k_is) ?_ rfl rfl (by decide) (by decide)
    exact esd_call ((SX.at Z).less (by decide) (by decide)) (hfl2 l hl) (Wf.ok l hl) fun h' t' tk' kp _ => ⟨⟨t', rfl⟩, ⟨h', tk', rfl, kp⟩⟩
  intro ea hF tkF ye hea hel hye kpF
  rw [ft] at hye
  obtain ⟨oe, hoe, heo⟩ := isList_obj hel
  have SF := SE.add (SE.keeps kpF) hea hoe
  (try clear F); (try clear N)
  have F := SF.F
  have N := SF.N
  try dsimp only
  k_steps
  refine joi_call ((SF.at Z).less (by decide) (by decide)) hle (by rw [List.length_map]; omega) (obj_isList (SF.get (.head _)) heo) hye hGC ?_
  intro hG' gG tG tkG GG hGG _
  rw [join_txt]
  obtain ⟨psG, SG⟩ := SF.mv Z (Mv.of_grown GG [L] n758)
  (try clear F); (try clear N)
  have F := SG.F
  have N := SG.N
  try dsimp only
  k_steps
  refine P.ne_str ?_
  rw [show ((S (joinL (fit.map escdL))).cps.toList != (S (joinL (fit.map escdL))).cps.toList) = false from by simp]
  try dsimp only
  k_steps
  refine lcK (cl := []) (fun _ => true) escdL rfl rfl rfl SG.F.ns rfl (obj_isList (SG.get (.tail _ (.head _))) hfo) hyf (by omega) (closureFor_none (by decide)) (by decide) rfl (by decide) rfl ?_ ?_ ?_
  · intro C l t s₃ m₃ E' hl hC hns hmx hk
    exact wpAny_tests_nil ⟨rfl, ⟨s₃.heap, s₃.toks, rfl, fun _ _ e => e⟩⟩
  · intro C l t s₃ m₃ E' hl _ hC hns hmx hk
    have SX := SG.keeps hk
    refine eval_call1 (Z.X.keeps SX.F.keep) (Z.T.keeps SX.F.keep) rfl rfl hns hmx (by k_is) (by k_is) ?_ rfl rfl (by decide) (by decide)
    exact esc_call ((SX.at Z).less (by decide) (by decide)) (hfl2 l hl) (hfn l hl) fun h' t' tk' kp _ => ⟨⟨t', by rw [show escL l = escdL l from esc_eq l]⟩, ⟨h', tk', rfl, kp⟩⟩
  intro ga hH tkH yg hga hgl hyg kpH
  rw [ft] at hyg
  obtain ⟨og, hog, hgo⟩ := isList_obj hgl
  have SH := SG.add (SG.keeps kpH) hga hog
  (try clear F); (try clear N)
  have F := SH.F
  have N := SH.N
  try dsimp only
  k_steps
  refine lcK (cl := []) (fun _ => true) escdL rfl rfl rfl SH.F.ns rfl (obj_isList (SH.get (.tail _ (.tail _ (.head _)))) hfo) hyf (by omega) (closureFor_none (by decide)) (by decide) rfl (by decide) rfl ?_ ?_ ?_
  · intro C l t s₃ m₃ E' hl hC hns hmx hk
    exact wpAny_tests_nil ⟨rfl, ⟨s₃.heap, s₃.toks, rfl, fun _ _ e => e⟩⟩
  · intro C l t s₃ m₃ E' hl _ hC hns hmx hk
    have SX := SH.keeps hk
    refine eval_call1 (Z.X.keeps SX.F.keep) (Z.T.keeps SX.F.keep) rfl rfl hns hmx (by k_is) (by k_is) ?_ rfl rfl (by decide) (by decide)
    exact esd_call ((SX.at Z).less (by decide) (by decide)) (hfl2 l hl) (Wf.ok l hl) fun h' t' tk' kp _ => ⟨⟨t', rfl⟩, ⟨h', tk', rfl, kp⟩⟩
  intro ia hI tkI yi hia hil hyi kpI
  rw [ft] at hyi
  have SI := SH.keeps kpI
  refine ne_texts (obj_isList (SI.get (.head _)) hgo) hil hyg hyi hfe hfe unitsC ?_
  rw [show (!decide (fit.map escdL = fit.map escdL)) = false from by simp]
  (try clear F); (try clear N)
  have F := SI.F
  have N := SI.N
  try dsimp only
  k_steps
  have eY : joinL (fit.map escdL) = (feedsL (joinL fit)).flatMap e1 := by
    rw [← esc_join, esc_eq]; rfl
  rw [eY]
  have hyl : (feedsL (joinL fit)).length ≤ 300 := Nat.le_trans (feedsF_le _ 32) hjf
  refine rea_call ((SI.at Z).less (by decide) (by decide)) (by omega) ?_
  intro hJ tJ tkJ kpJ _
  have SJ := SI.keeps kpJ
  rw [feeds_join] at hyl ⊢
  (try clear F); (try clear N)
  have F := SJ.F
  have N := SJ.N
  try dsimp only
  k_steps
  have Wd := Wf.feeds
  have hwd : (fit.map feedsL).length ≤ 100 := by rw [List.length_map]; omega
  refine spl_call ((SJ.at Z).less (by decide) (by decide)) (SJ.below rfl rfl) (by omega) hwd (reads_join _ fun l hl c hc => alpha_fit c (Wd.2 l hl c hc)) ?_
  intro ka vk nk hK gK tkK hka TK kpK hkl hvk
  obtain ⟨psK, SK0⟩ := SJ.mv Z (Mv.of_turn TK kpK n758 n762)
  have SK := SJ.add SK0 hka hkl
  (try clear F); (try clear N)
  have F := SK.F
  have N := SK.N
  try dsimp only
  k_steps
  refine lcK (cl := []) (fun _ => true) feedsL rfl rfl rfl SK.F.ns rfl (obj_isList (SK.get (.tail _ (.tail _ (.tail _ (.head _))))) hfo) hyf (by omega) (closureFor_none (by decide)) (by decide) rfl (by decide) rfl ?_ ?_ ?_
  · intro C l t s₃ m₃ E' hl hC hns hmx hk
    exact wpAny_tests_nil ⟨rfl, ⟨s₃.heap, s₃.toks, rfl, fun _ _ e => e⟩⟩
  · intro C l t s₃ m₃ E' hl _ hC hns hmx hk
    have SX := SK.keeps hk
    refine eval_call1 (Z.X.keeps SX.F.keep) (Z.T.keeps SX.F.keep) rfl rfl hns hmx (by k_is) (by k_is) ?_ rfl rfl (by decide) (by decide)
    exact fee_call ((SX.at Z).less (by decide) (by decide)) (hfl2 l hl) (Wf.ok l hl) fun h' t' tk' kp _ => ⟨⟨t', rfl⟩, ⟨h', tk', rfl, kp⟩⟩
  intro na hM tkM yn hna hnl hyn kpM
  rw [ft] at hyn
  have SM := SK.keeps kpM
  refine eq_texts (obj_isList (SM.get (.head _)) ⟨rfl, _, rfl⟩) hnl hvk hyn Wd.ok Wd.ok unitsC ?_
  rw [decide_eq_true (rfl : fit.map feedsL = fit.map feedsL)]
  have M : Mv [] s.heap hM := by
    obtain ⟨more, e⟩ := SM.ext
    refine ⟨fun b o e _ n => SM.F.keep b o (hid_ext s.heap b o n e), fun b o _ hb => (by cases hb), fun ps d1 d2 => ⟨more, ?_⟩⟩
    have e2 : ps = ps₀ := by
      have := d2.2.symm.trans c2.2
      cases this; rfl
    rw [e2, ← e]
    exact SM.tab
  (try clear F); (try clear N)
  have F := SM.F
  have N := SM.N
  try dsimp only
  k_steps
  exact hR _ _ _ M hGG
end
end
/-! ### Fin -/
theorem fill_end (P : Params) : (PySem.Challenge.rw_mj0268_01 = PySem.Challenge.rw_mj0268_01 ∧ K0 P = K0 P) := by
  k_fill
  exact ⟨rfl, rfl⟩
theorem in_of_eq {K K' : Frag} {h : Heap} (e : K = K') (X : K.In h) : K'.In h := e ▸ X
theorem oldK_of {h h' : Heap} {ps : Array Value} (x : Mv [] h h') (h1 : h.IsCode 762 758 ps) (h2 : h.TableAt 762 758 ps) : OldK h h' := by
  obtain ⟨more, a, b⟩ := x.tab ps h1 h2
  refine ⟨fun c o e => ?_, fun c o e => ?_⟩
  · by_cases hc : c = 758
    · subst hc
      have e₀ : o = { cls := .none, data := .fields ps } := Option.some.inj (e.symm.trans h2.2)
      subst e₀
      exact .inr (.inl ⟨h2.isCodeTable, rfl, ps, more, rfl, b.2⟩)
    · exact .inl (x.other c o e (fun q => by cases q) hc)
  · by_cases hc : c = 758
    · subst hc; exact ⟨_, b.2⟩
    · exact ⟨o, x.other c o e (fun q => by cases q) hc⟩
theorem post_ok (args ds : List WData) : PySem.Challenge.rw_mj0268_01.row.claim.post args (.bool true) ds = true := by
  show (WShape.has [] (.bool true) .bool && (WTm.eq .res (.lit (.bool true))).holds [] { args := args, res := some (.bool true), after := ds }) = true
  have h1 : WShape.has [] (.bool true) .bool = true := by decide +kernel
  have h2 : PySem.W.same (.bool true) (.bool true) = true := by decide +kernel
  rw [h1]
  simp only [WTm.holds, WTm.value, h2]
  rfl
/-! The head of the theorem below would lay, for each of its own states, a twin of a size that goes with the square of the state's; where a declaration of the twin's name stands, it does without. -/
theorem main.tw18129998425917188327 : True := trivial
theorem main.tw480701840831765632 : True := trivial
theorem main.tw7019240024125815769 : True := trivial
theorem main.tw10367043833027533253 : True := trivial
theorem main.tw7780446386730421317 : True := trivial
theorem main.tw12608185968620612914 : True := trivial
theorem main.tw7439787175107056256 : True := trivial
theorem main.tw1610520696219057239 : True := trivial
theorem main.tw5921134243170700561 : True := trivial
theorem main.tw11092141859048813250 : True := trivial
theorem main.tw17146568849442343683 : True := trivial
theorem main.tw4908570168794737769 : True := trivial
theorem main.tw6907636171062424033 : True := trivial
theorem main.tw14839220128592895126 : True := trivial
theorem main.tw15949526494057022110 : True := trivial
theorem main.tw8828626079734051433 : True := trivial
theorem main.tw14513571923725367585 : True := trivial
theorem main.tw12205347405646519318 : True := trivial
theorem main.tw18165044119631177899 : True := trivial
theorem main.tw3562595001068472590 : True := trivial
theorem main.tw9406782406253462049 : True := trivial
theorem main.tw10450603732522932521 : True := trivial
theorem main.tw9161159452563919750 : True := trivial
theorem main.tw6511744376749373798 : True := trivial
theorem main.tw6935676897619631941 : True := trivial
theorem main.tw379899607457092286 : True := trivial
theorem main.tw2406621943657119228 : True := trivial
theorem main.tw11571600101251958140 : True := trivial
theorem main.tw372505627349444580 : True := trivial
theorem main.tw5890889631881817875 : True := trivial
theorem main.tw13972245371655741198 : True := trivial
theorem main.tw4034048572721927537 : True := trivial
theorem main.tw5004366561265856203 : True := trivial
theorem main.tw5372645768047454471 : True := trivial
theorem main.tw16102231251864390963 : True := trivial
theorem main.tw1003221794747103253 : True := trivial
theorem main.tw3437493826131796334 : True := trivial
theorem main.tw5378808338967829844 : True := trivial
theorem main.tw10418042200766032776 : True := trivial
theorem main.tw8060562821785662972 : True := trivial
theorem main.tw3731879374237491455 : True := trivial
theorem main.tw9268297945177815525 : True := trivial
theorem main.tw14027531716089632829 : True := trivial
theorem main.tw6056095068991171605 : True := trivial
theorem main.tw12748397558918655664 : True := trivial
theorem main.tw17262041522474090127 : True := trivial
theorem main.tw16142765227538719955 : True := trivial
theorem main.tw6535589618603614281 : True := trivial
theorem main.tw7554534293552944094 : True := trivial
theorem main.tw2895952525429962455 : True := trivial
theorem main.tw14472998197337855243 : True := trivial
theorem main.tw9482835179454861754 : True := trivial
theorem main.tw1084114956928915155 : True := trivial
theorem main.tw3464005467892915075 : True := trivial
theorem main.tw2022962002417519128 : True := trivial
theorem main.tw10896356407431480244 : True := trivial
theorem main.tw17467094056537431486 : True := trivial
theorem main.tw11725999154989108132 : True := trivial
theorem main.tw15387884906608193903 : True := trivial
theorem main.tw5781596087445459943 : True := trivial
theorem main.tw223528310411579522 : True := trivial
theorem main.tw8102450764968551371 : True := trivial
theorem main.tw15303317825217679618 : True := trivial
theorem main.tw3459380146013217038 : True := trivial
theorem main.tw5585478044538960755 : True := trivial
theorem main.tw4838787530573997063 : True := trivial
theorem main.tw16798207577519904205 : True := trivial
theorem main.tw11692516046256081784 : True := trivial
theorem main.tw4887914996728235509 : True := trivial
theorem main.tw7883848961242879871 : True := trivial
theorem main.tw5518243967957118194 : True := trivial
theorem main.tw2402762420636078793 : True := trivial
theorem main.tw15806524323241146399 : True := trivial
theorem main.tw11156056980113079860 : True := trivial
theorem main.tw4926259647451002352 : True := trivial
theorem main.tw2821470743931037460 : True := trivial
theorem main.tw6183806196313097518 : True := trivial
theorem main.tw16778611742570070204 : True := trivial
theorem main.tw11101190512080308003 : True := trivial
theorem main.tw4637267157515435788 : True := trivial
theorem main.tw5507402815253087181 : True := trivial
theorem main.tw11273777480241942364 : True := trivial
theorem main.tw6788530277367551627 : True := trivial
theorem main.tw8984930932524396370 : True := trivial
theorem main.tw15267601115554557575 : True := trivial
theorem main.tw1216228984421328439 : True := trivial
theorem main.tw1142173933681417890 : True := trivial
theorem main.tw16022572192331126682 : True := trivial
theorem main.tw1632041292262086317 : True := trivial
theorem main.tw11218778669853930896 : True := trivial
theorem main.tw495442525896006271 : True := trivial
theorem main.tw16338599768312175441 : True := trivial
theorem main.tw6855474311058116810 : True := trivial
theorem main.tw13219505800766818778 : True := trivial
theorem main.tw9265829497004654079 : True := trivial
theorem main.tw10092017014551392330 : True := trivial
theorem main.tw6801380410627298636 : True := trivial
theorem main.tw14539993770535171780 : True := trivial
theorem main.tw6570437773673931950 : True := trivial
theorem main.tw15485851114877660061 : True := trivial
theorem main.tw16046730324260685337 : True := trivial
theorem main.tw8394416109485655870 : True := trivial
theorem main.tw5084117380071580128 : True := trivial
theorem main.tw11409991511011244131 : True := trivial
theorem main.tw11548542833958708988 : True := trivial
theorem main.tw8528285597010949478 : True := trivial
theorem main.tw15695540700222938540 : True := trivial
theorem main.tw1544020853599562407 : True := trivial
theorem main.tw17644181745481072423 : True := trivial
theorem main.tw15185369353453278414 : True := trivial
theorem main.tw17035731627637430848 : True := trivial
theorem main.tw1150287232629052791 : True := trivial
theorem main.tw15632288850299318775 : True := trivial
theorem main.tw6655696309031964122 : True := trivial
theorem main.tw8006537069960932158 : True := trivial
theorem main.tw15580989882048331800 : True := trivial
theorem main.tw3370842686811476594 : True := trivial
theorem main.tw1504049600530537962 : True := trivial
theorem main.tw13406003279186336099 : True := trivial
theorem main.tw12134908399292295839 : True := trivial
theorem main.tw5571399437266216444 : True := trivial
theorem main.tw4365514962571936147 : True := trivial
theorem main.tw4330594992337426955 : True := trivial
theorem main.tw4587724036053657169 : True := trivial
theorem main.tw6298394922185409918 : True := trivial
theorem main.tw4261964983698606537 : True := trivial
theorem main.tw6252391252262179987 : True := trivial
theorem main.tw17096532924672817327 : True := trivial
theorem main.tw12304082900475741265 : True := trivial
theorem main.tw9184045479044318644 : True := trivial
theorem main.tw14457758005677747962 : True := trivial
theorem main.tw13777938177461255882 : True := trivial
theorem main.tw16452447596832230105 : True := trivial
theorem main.tw8883465813499100731 : True := trivial
theorem main.tw2704602940660078815 : True := trivial
theorem main.tw16026775910206950810 : True := trivial
theorem main.tw3152344484860191140 : True := trivial
theorem main.tw15984706205718930553 : True := trivial
theorem main.tw13989496423458381343 : True := trivial
theorem main.tw12770256342625107919 : True := trivial
theorem main.tw2852251193174398662 : True := trivial
theorem main.tw6361450105264607166 : True := trivial
theorem main.tw15510692781650021527 : True := trivial
theorem main.tw10483362588635715401 : True := trivial
theorem main.tw14623576949289902444 : True := trivial
theorem main.tw12653679108036650311 : True := trivial
theorem main.tw5768018617931124328 : True := trivial
theorem main.tw12755441557018050348 : True := trivial
theorem main.tw17445186720391901401 : True := trivial
theorem main.tw14992222465124788362 : True := trivial
theorem main.tw9512817274939609580 : True := trivial
theorem main.tw8312829660672013939 : True := trivial
theorem main.tw4638281056170512193 : True := trivial
theorem main.tw11239335112260394413 : True := trivial
theorem main.tw15438212644395081984 : True := trivial
theorem main.tw18406820200293129166 : True := trivial
theorem main.tw16806246253224384389 : True := trivial
theorem main.tw13227784636351994527 : True := trivial
theorem main.tw1075715825243056693 : True := trivial
theorem main.tw14218914174604095658 : True := trivial
theorem main.tw10283388844273144081 : True := trivial
theorem main.tw6394338452064613244 : True := trivial
theorem main.tw14640416626631428029 : True := trivial
theorem main.tw3220561703981169602 : True := trivial
theorem main.tw2278972029675796859 : True := trivial
theorem main.tw17403364634526059139 : True := trivial
theorem main.tw15672986146971166658 : True := trivial
theorem main.tw4139100593308808776 : True := trivial
theorem main.tw2287757881348798766 : True := trivial
theorem main.tw1402309974066972641 : True := trivial
theorem main.tw9302470337196694018 : True := trivial
theorem main.tw14562738103837258888 : True := trivial
theorem main.tw7487416344156704005 : True := trivial
theorem main.tw14864641218109852296 : True := trivial
theorem main.tw7698036289167662538 : True := trivial
theorem main.tw7237411587787531456 : True := trivial
theorem main.tw17128291446047057950 : True := trivial
theorem main.tw2068819091333853403 : True := trivial
theorem main.tw17647351573629430322 : True := trivial
theorem main.tw2190665916663736984 : True := trivial
theorem main.tw5240779543111244032 : True := trivial
theorem main.tw12885385263037960081 : True := trivial
theorem main.tw2675658811408624930 : True := trivial
theorem main.tw1084220662915027778 : True := trivial
theorem main.tw16817993663026736274 : True := trivial
theorem main.tw14805756002866571830 : True := trivial
theorem main.tw11712081513822626495 : True := trivial
theorem main.tw6663778134991626487 : True := trivial
theorem main.tw1678875084529416142 : True := trivial
theorem main.tw8496349624203035976 : True := trivial
theorem main.tw9653258972835725974 : True := trivial
theorem main.tw3033261876257692807 : True := trivial
theorem main.tw10876375607700338302 : True := trivial
theorem main.tw15314949997508070730 : True := trivial
theorem main.tw11594902480026495557 : True := trivial
theorem main.tw9376575566392132001 : True := trivial
theorem main.tw10527056885388315517 : True := trivial
theorem main.tw12530995576970511020 : True := trivial
theorem main.tw18238007617527299592 : True := trivial
theorem main.tw13876859957761632879 : True := trivial
theorem main.tw15109750227778091905 : True := trivial
theorem main.tw3635900802997115186 : True := trivial
theorem main.tw18332899500509843999 : True := trivial
theorem main.tw6140287776057189764 : True := trivial
theorem main.tw14489535830319231195 : True := trivial
theorem main.tw7563215957194029611 : True := trivial
theorem main.tw9558744834307401277 : True := trivial
theorem main.tw2923286348875671695 : True := trivial
theorem main.tw9303439499767911484 : True := trivial
theorem main.tw14136325212780177784 : True := trivial
theorem main.tw16008252555379753968 : True := trivial
theorem main.tw5363903885879670357 : True := trivial
theorem main.tw2341703837736514645 : True := trivial
theorem main.tw10149618387772673413 : True := trivial
theorem main.tw12247406853277913960 : True := trivial
theorem main.tw17768309097967576573 : True := trivial
theorem main.tw16519101796099990279 : True := trivial
theorem main.tw9994787619460420439 : True := trivial
theorem main.tw9121559901702372667 : True := trivial
theorem main.tw13110577991587790113 : True := trivial
theorem main.tw15326346284793698685 : True := trivial
theorem main.tw10821422270917381399 : True := trivial
theorem main.tw6161133996638707016 : True := trivial
theorem main.tw12431561837914552411 : True := trivial
theorem main.tw7113585516715319716 : True := trivial
theorem main.tw10707853282979444102 : True := trivial
theorem main.tw4193505271845495863 : True := trivial
theorem main.tw5102715291955495162 : True := trivial
theorem main.tw14864636224205547913 : True := trivial
theorem main.tw3958507339218470045 : True := trivial
theorem main.tw15136431859952498927 : True := trivial
theorem main.tw14011416340940902608 : True := trivial
theorem main.tw11904941031934877020 : True := trivial
theorem main.tw16218864148678617972 : True := trivial
theorem main.tw1429040668314091153 : True := trivial
theorem main.tw11716418206903941319 : True := trivial
theorem main.tw1714950047550659301 : True := trivial
theorem main.tw12732289081945773324 : True := trivial
theorem main.tw5638201095994319732 : True := trivial
theorem main.tw16826212616301561204 : True := trivial
theorem main.tw9805168224760091760 : True := trivial
theorem main.tw13980345723018547825 : True := trivial
theorem main.tw1270039299266317192 : True := trivial
theorem main.tw10985888656933367436 : True := trivial
theorem main.tw10567084921333377638 : True := trivial
theorem main.tw4038153913678941442 : True := trivial
theorem main.tw17118054049896295152 : True := trivial
theorem main.tw17336282652733537790 : True := trivial
theorem main.tw2965820268544440810 : True := trivial
theorem main.tw15461212566085484399 : True := trivial
theorem main.tw11229075413691439314 : True := trivial
theorem main.tw15631942387314964779 : True := trivial
theorem main.tw9247501659233101145 : True := trivial
theorem main.tw17600866488970185278 : True := trivial
theorem main.tw7380652910202371479 : True := trivial
theorem main.tw17272174723667511238 : True := trivial
theorem main.tw10818010828618221571 : True := trivial
theorem main.tw6234934611588079204 : True := trivial
theorem main.tw14907226015203709474 : True := trivial
theorem main.tw16932134980577923087 : True := trivial
theorem main.tw16629339528299215175 : True := trivial
theorem main.tw1118068078248606362 : True := trivial
theorem main.tw3027586509356016917 : True := trivial
theorem main.tw3724484323120607773 : True := trivial
theorem main.tw14064073609400967072 : True := trivial
theorem main.tw17737603089517620647 : True := trivial
theorem main.tw892681787802806017 : True := trivial
theorem main.tw9860529454588575364 : True := trivial
theorem main.tw11490900464029743698 : True := trivial
theorem main.tw7943094425149488825 : True := trivial
theorem main.tw15656275678258859468 : True := trivial
theorem main.tw15062679425460387418 : True := trivial
theorem main.tw7514964652732493775 : True := trivial
theorem main.tw14364048958407549093 : True := trivial
theorem main.tw6512923179152221375 : True := trivial
theorem main.tw11857135199678951331 : True := trivial
theorem main.tw11670399090076514202 : True := trivial
theorem main.tw12346658559823942425 : True := trivial
theorem main.tw1453356044741674121 : True := trivial
theorem main.tw16923884221124529275 : True := trivial
theorem main.tw979501456738626862 : True := trivial
theorem main.tw7591743695986301205 : True := trivial
theorem main.tw8928990268580360915 : True := trivial
theorem main.tw9417822746687237092 : True := trivial
theorem main.tw960986543115211030 : True := trivial
theorem main.tw8344989883159853150 : True := trivial
theorem main.tw6264281720289328834 : True := trivial
theorem main.tw10455743928339290457 : True := trivial
theorem main.tw18302796317244248524 : True := trivial
theorem main.tw15467891735981029475 : True := trivial
theorem main.tw450355587150964932 : True := trivial
theorem main.tw15642941266545998023 : True := trivial
theorem main.tw5435614590818080486 : True := trivial
theorem main.tw6519269512792494810 : True := trivial
theorem main.tw5396188567872606041 : True := trivial
theorem main.tw4324958949535026087 : True := trivial
theorem main.tw5613160597433933154 : True := trivial
theorem main.tw4385281892830598654 : True := trivial
theorem main.tw8440099810896429113 : True := trivial
theorem main.tw14771111431291430275 : True := trivial
theorem main.tw6642858168728409138 : True := trivial
theorem main.tw3583811862363856187 : True := trivial
theorem main.tw7299474751278700455 : True := trivial
theorem main.tw9369988214560726041 : True := trivial
theorem main.tw4630824681090250767 : True := trivial
theorem main.tw1454224541498743561 : True := trivial
theorem main.tw9293455121233016472 : True := trivial
theorem main.tw12922898485456448571 : True := trivial
theorem main.tw104360540948158410 : True := trivial
theorem main.tw15684375888932747349 : True := trivial
theorem main.tw18287795668848337631 : True := trivial
theorem main.tw7884331609784382070 : True := trivial
theorem main.tw12594366453804578888 : True := trivial
theorem main.tw6237627108579964202 : True := trivial
theorem main.tw1615956725737779560 : True := trivial
theorem main.tw2900998541784483753 : True := trivial
theorem main.tw17298425922696826006 : True := trivial
theorem main.tw6162249291895867263 : True := trivial
theorem main.tw15098031235356848795 : True := trivial
theorem main.tw7904437144335635152 : True := trivial
theorem main.tw8079908401900000222 : True := trivial
theorem main.tw12800608258095302798 : True := trivial
theorem main.tw6455149578367423246 : True := trivial
theorem main.tw9897820754763898449 : True := trivial
theorem main.tw13284607676483823796 : True := trivial
theorem main.tw11390293659975261258 : True := trivial
theorem main.tw15350898050860989542 : True := trivial
theorem main.tw17958375852430007124 : True := trivial
theorem main.tw4310270188432123100 : True := trivial
theorem main.tw8663697691656813868 : True := trivial
theorem main.tw15554039934745177238 : True := trivial
theorem main.tw11735423636902730196 : True := trivial
theorem main.tw16128220689672181975 : True := trivial
theorem main.tw7624122152786673341 : True := trivial
theorem main.tw10864377008497418100 : True := trivial
theorem main.tw4370652028205933106 : True := trivial
theorem main.tw11403851563620829512 : True := trivial
theorem main.tw12361340156312767134 : True := trivial
theorem main.tw5527929279227188259 : True := trivial
theorem main.tw10234815189450012239 : True := trivial
theorem main.tw15734660467963936456 : True := trivial
theorem main.tw18134284020713443437 : True := trivial
theorem main.tw3464709057266567092 : True := trivial
theorem main.tw2906824675625879941 : True := trivial
theorem main.tw4605139254293405059 : True := trivial
theorem main.tw13724616953566380437 : True := trivial
theorem main.tw17091655785135471103 : True := trivial
theorem main.tw8478376212529829071 : True := trivial
theorem main.tw2021556316718937628 : True := trivial
theorem main.tw11086099901593105684 : True := trivial
theorem main.tw11476092923266045095 : True := trivial
theorem main.tw17353955331779342651 : True := trivial
theorem main.tw6541472054586571296 : True := trivial
theorem main.tw16451033083921036709 : True := trivial
theorem main.tw5102693214775723256 : True := trivial
theorem main.tw9508770018378322450 : True := trivial
theorem main.tw9706551924872666739 : True := trivial
theorem main.tw6750329879921603248 : True := trivial
theorem main.tw16572128252103988241 : True := trivial
theorem main.tw9840939614602229412 : True := trivial
theorem main.tw5838101520590548733 : True := trivial
theorem main.tw5797031442667253490 : True := trivial
theorem main.tw6590341273101898363 : True := trivial
theorem main.tw16135426469972691074 : True := trivial
theorem main.tw3829396358689915599 : True := trivial
theorem main.tw16396084126727719574 : True := trivial
theorem main.tw9287587430799945685 : True := trivial
theorem main.tw4219356904048308301 : True := trivial
theorem main.tw3314904115985164895 : True := trivial
theorem main.tw9155575984036265788 : True := trivial
theorem main.tw7675930258259734528 : True := trivial
theorem main.tw14859100970857779836 : True := trivial
theorem main.tw7590696779544312186 : True := trivial
theorem main.tw8903568455446660058 : True := trivial
theorem main.tw5396361742852586263 : True := trivial
theorem main.tw1269329923203890863 : True := trivial
theorem main.tw17057053908230417247 : True := trivial
theorem main.tw16573969640733590547 : True := trivial
theorem main.tw15595112118272840620 : True := trivial
theorem main.tw11311155076762098589 : True := trivial
theorem main.tw65644731488775911 : True := trivial
theorem main.tw6582852498587848125 : True := trivial
theorem main.tw4350604851675314991 : True := trivial
theorem main.tw6862268138105152660 : True := trivial
theorem main.tw5995161000843957690 : True := trivial
theorem main.tw17474269916031935128 : True := trivial
theorem main.tw10642606787283503386 : True := trivial
theorem main.tw13476453092275279800 : True := trivial
theorem main.tw2518857965603918243 : True := trivial
theorem main.tw1336659820572712380 : True := trivial
theorem main.tw2127038452521536779 : True := trivial
theorem main.tw6690441779611380620 : True := trivial
theorem main.tw17268439761433841065 : True := trivial
theorem main.tw7974275031393228247 : True := trivial
theorem main.tw10453263994017694363 : True := trivial
theorem main.tw567168373054797020 : True := trivial
theorem main.tw14020873708864708748 : True := trivial
theorem main.tw18063282731904131703 : True := trivial
theorem main.tw1277820614484962519 : True := trivial
theorem main.tw16320729459185622934 : True := trivial
theorem main.tw17585224947871030625 : True := trivial
theorem main.tw3374421720907634814 : True := trivial
theorem main.tw9432497158254318119 : True := trivial
theorem main.tw1199522599840049251 : True := trivial
theorem main.tw15225127925928830808 : True := trivial
theorem main.tw17451428242003271324 : True := trivial
theorem main.tw15022946984557111684 : True := trivial
theorem main.tw7308723440029596264 : True := trivial
theorem main.tw9703084557020090508 : True := trivial
theorem main.tw2373237607127697691 : True := trivial
theorem main.tw13224007501803129859 : True := trivial
theorem main.tw14759895335926876869 : True := trivial
theorem main.tw18046886581883190830 : True := trivial
theorem main.tw3706830351922483016 : True := trivial
theorem main.tw14080665800827857628 : True := trivial
theorem main.tw14554314840745968623 : True := trivial
theorem main.tw10548918766592180815 : True := trivial
theorem main.tw6696893160125735727 : True := trivial
theorem main.tw10003221463802097818 : True := trivial
theorem main.tw11544348965984651327 : True := trivial
theorem main.tw4026956272090484662 : True := trivial
theorem main.tw7668756792840097458 : True := trivial
theorem main.tw17695171507069755227 : True := trivial
theorem main.tw14161005256144132680 : True := trivial
theorem main.tw14377536511252160716 : True := trivial
theorem main.tw2847738043507502446 : True := trivial
theorem main.tw365850788961202214 : True := trivial
theorem main.tw16136984950599521427 : True := trivial
theorem main.tw15565075772751903193 : True := trivial
theorem main.tw16903235886508574505 : True := trivial
theorem main.tw613567027398061577 : True := trivial
theorem main.tw16304157974115477746 : True := trivial
theorem main.tw1587290215689348708 : True := trivial
theorem main.tw3748114642381145586 : True := trivial
theorem main.tw11020365191643786025 : True := trivial
theorem main.tw5790326737455844299 : True := trivial
theorem main.tw1439166485080882 : True := trivial
theorem main.tw13547569757486424058 : True := trivial
theorem main.tw11469148683815294839 : True := trivial
theorem main.tw1469836325065767749 : True := trivial
theorem main.tw1319676515408343850 : True := trivial
theorem main.tw3710551649720532701 : True := trivial
theorem main.tw6697339332421208802 : True := trivial
theorem main.tw14798791472264738832 : True := trivial
theorem main.tw10474107093616326617 : True := trivial
theorem main.tw4216741518440994707 : True := trivial
theorem main.tw14112269089397522482 : True := trivial
theorem main.tw1179421589518002546 : True := trivial
theorem main.tw10663580350406149668 : True := trivial
theorem main.tw17563168436475441343 : True := trivial
theorem main.tw8651587035891514320 : True := trivial
theorem main.tw5942767615974559732 : True := trivial
theorem main.tw1496695287857109588 : True := trivial
theorem main.tw10645133690899816355 : True := trivial
theorem main.tw16765925921980633802 : True := trivial
theorem main.tw6214117541549086881 : True := trivial
theorem main.tw12222963475772708484 : True := trivial
theorem main.tw5418533224930618480 : True := trivial
theorem main.tw16008457594558532635 : True := trivial
theorem main.tw4190169919114944707 : True := trivial
theorem main.tw73751810991705359 : True := trivial
theorem main.tw10625486282989778954 : True := trivial
theorem main.tw15737690656516749961 : True := trivial
theorem main.tw563973728909168745 : True := trivial
theorem main.tw15017983477296125989 : True := trivial
theorem main.tw11387536720948717409 : True := trivial
theorem main.tw16891041157754790011 : True := trivial
theorem main.tw1409966394225722968 : True := trivial
theorem main.tw6183352029847204284 : True := trivial
theorem main.tw318027561457272103 : True := trivial
theorem main.tw2729793432009153956 : True := trivial
theorem main.tw9964214247947446159 : True := trivial
theorem main.tw7186131708394509389 : True := trivial
theorem main.tw13465503431842376007 : True := trivial
theorem main.tw18002892410530523996 : True := trivial
theorem main.tw17298271098590275757 : True := trivial
theorem main.tw11012492570468723375 : True := trivial
theorem main.tw12941917028564957548 : True := trivial
theorem main.tw7235775444256392728 : True := trivial
theorem main.tw8905992674379837232 : True := trivial
theorem main.tw12543713266681445118 : True := trivial
theorem main.tw13452046644955724893 : True := trivial
theorem main.tw18446094637698972617 : True := trivial
theorem main.tw6341409668436394099 : True := trivial
theorem main.tw13693970394777133609 : True := trivial
theorem main.tw341453280667917650 : True := trivial
theorem main.tw10813080517026676716 : True := trivial
theorem main.tw6741292078354696603 : True := trivial
theorem main.tw12959741745000181155 : True := trivial
theorem main.tw31828345220925962 : True := trivial
theorem main.tw6559806142732475569 : True := trivial
theorem main.tw6674386428176565332 : True := trivial
theorem main.tw10225356144477167704 : True := trivial
theorem main.tw18314829044154829275 : True := trivial
theorem main.tw13077236301305049449 : True := trivial
theorem main.tw33456957511925785 : True := trivial
theorem main.tw17292155258170135553 : True := trivial
theorem main.tw5623159541915647742 : True := trivial
theorem main.tw270496394426124508 : True := trivial
theorem main.tw4359638763739663684 : True := trivial
theorem main.tw15356762974548107741 : True := trivial
theorem main.tw13943995914846970329 : True := trivial
theorem main.tw1198661942849946583 : True := trivial
theorem main.tw16033097090804400913 : True := trivial
theorem main.tw6418202794160714309 : True := trivial
theorem main.tw18344032359734412310 : True := trivial
theorem main.tw15803610866087392283 : True := trivial
theorem main.tw1156462466702112376 : True := trivial
theorem main.tw18120430973489738927 : True := trivial
theorem main.tw17906638245316424091 : True := trivial
theorem main.tw6075091234017535682 : True := trivial
theorem main.tw961187720498965250 : True := trivial
theorem main.tw4540862073306924251 : True := trivial
theorem main.tw854977524454699277 : True := trivial
theorem main.tw11135027115929721415 : True := trivial
theorem main.tw5873463020976553958 : True := trivial
theorem main.tw4458048076830672230 : True := trivial
theorem main.tw11967333016625521393 : True := trivial
theorem main.tw14636892021812066514 : True := trivial
theorem main.tw4544244032028310869 : True := trivial
theorem main.tw18218335207050127959 : True := trivial
theorem main.tw1318968915056948652 : True := trivial
theorem main.tw10669944970481658594 : True := trivial
theorem main.tw11403970630465759474 : True := trivial
theorem main.tw13355152605343272895 : True := trivial
theorem main.tw5567732340971880690 : True := trivial
theorem main.tw14806125269305119590 : True := trivial
theorem main.tw4297412468100583042 : True := trivial
theorem main.tw6768520987592691376 : True := trivial
theorem main.tw12702744160499308131 : True := trivial
theorem main.tw8249873531624179374 : True := trivial
theorem main.tw8419495778230234659 : True := trivial
theorem main.tw8557395850702784662 : True := trivial
theorem main.tw1306636233014830658 : True := trivial
theorem main.tw8492455212021363390 : True := trivial
theorem main.tw3466206800631347469 : True := trivial
theorem main.tw4946776927847147119 : True := trivial
theorem main.tw14962632401376961426 : True := trivial
theorem main.tw1590763530083325563 : True := trivial
theorem main.tw6334894449686545209 : True := trivial
theorem main.tw742995749975458928 : True := trivial
theorem main.tw9573086628692744296 : True := trivial
theorem main.tw5203219222101121401 : True := trivial
theorem main.tw12858514154102811505 : True := trivial
theorem main.tw15556330048392946422 : True := trivial
theorem main.tw2195194259037543316 : True := trivial
theorem main.tw358491910552652209 : True := trivial
theorem main.tw16153351446899991344 : True := trivial
theorem main.tw12741544251441588921 : True := trivial
theorem main.tw3045742163950154196 : True := trivial
theorem main.tw5677329702179833609 : True := trivial
theorem main.tw2058021452347087232 : True := trivial
theorem main.tw12909650291622432550 : True := trivial
theorem main.tw14637806741061077295 : True := trivial
theorem main.tw10652611922669240339 : True := trivial
theorem main.tw3342365933539840098 : True := trivial
theorem main.tw11554813239044494598 : True := trivial
theorem main.tw4258463428174104133 : True := trivial
theorem main.tw14698241182937546978 : True := trivial
theorem main.tw10231336680788121439 : True := trivial
theorem main.tw16508919721030705984 : True := trivial
theorem main.tw221909299271738847 : True := trivial
theorem main.tw5160751907100791332 : True := trivial
theorem main.tw13555666566803518343 : True := trivial
theorem main.tw16035907590883218939 : True := trivial
theorem main.tw2279707942289718827 : True := trivial
theorem main.tw15810667371194948217 : True := trivial
theorem main.tw453184122279072053 : True := trivial
theorem main.tw4741876487499883015 : True := trivial
theorem main.tw11987853993630220354 : True := trivial
theorem main.tw12027323910402764344 : True := trivial
theorem main.tw957831766286570088 : True := trivial
theorem main.tw6921685317656363116 : True := trivial
theorem main.tw2583023086579268501 : True := trivial
theorem main.tw3609762217373132089 : True := trivial
theorem main.tw5450094653865882931 : True := trivial
theorem main.tw9563168847844234846 : True := trivial
theorem main.tw10877679251791092727 : True := trivial
theorem main.tw793299525264137939 : True := trivial
theorem main.tw6674893403203295414 : True := trivial
theorem main.tw6311516036558516075 : True := trivial
theorem main.tw12992176717851604617 : True := trivial
theorem main.tw962032349192862916 : True := trivial
theorem main.tw16305672181175384284 : True := trivial
theorem main.tw17450470499104002142 : True := trivial
theorem main.tw8260724100714396741 : True := trivial
theorem main.tw15845428651173386099 : True := trivial
theorem main.tw7332330508316399935 : True := trivial
theorem main.tw18178676814319149831 : True := trivial
theorem main.tw5534937755968359062 : True := trivial
theorem main.tw12885673836220544336 : True := trivial
theorem main.tw917386388269078853 : True := trivial
theorem main.tw3370190323706015969 : True := trivial
theorem main.tw7297187181890747607 : True := trivial
theorem main.tw6072795283324543088 : True := trivial
theorem main.tw17495560712657236704 : True := trivial
theorem main.tw2555861160798251974 : True := trivial
theorem main.tw10733187975300939785 : True := trivial
theorem main.tw1519992759497675636 : True := trivial
theorem main.tw15131278010643852716 : True := trivial
theorem main.tw10684194247688286180 : True := trivial
theorem main.tw17453503289922162039 : True := trivial
theorem main.tw17904854198161793398 : True := trivial
theorem main.tw5464139401052260700 : True := trivial
theorem main.tw10101900104965146230 : True := trivial
theorem main.tw9211707205177423737 : True := trivial
theorem main.tw17708487481403421675 : True := trivial
theorem main.tw12872379398031375081 : True := trivial
theorem main.tw5243159528196176124 : True := trivial
theorem main.tw796168687070700412 : True := trivial
theorem main.tw8561170505333791620 : True := trivial
theorem main.tw12839114828313443825 : True := trivial
theorem main.tw9976160756891316704 : True := trivial
theorem main.tw11515269102732040708 : True := trivial
theorem main.tw1826329307503635854 : True := trivial
theorem main.tw12518504611687188807 : True := trivial
theorem main.tw10987386120367425466 : True := trivial
theorem main.tw18315214858253571532 : True := trivial
theorem main.tw8127475511531132179 : True := trivial
theorem main.tw15432235134303409840 : True := trivial
theorem main.tw7358942708152152329 : True := trivial
theorem main.tw13227692790652741651 : True := trivial
theorem main.tw7751025194823839400 : True := trivial
theorem main.tw12075919899556687040 : True := trivial
theorem main.tw3078062877239007290 : True := trivial
theorem main.tw2225956059507018244 : True := trivial
theorem main.tw2759098988195820126 : True := trivial
theorem main.tw1259162542039736189 : True := trivial
theorem main.tw12692632004510240207 : True := trivial
theorem main.tw13447304073604360266 : True := trivial
theorem main.tw8436210846270712021 : True := trivial
theorem main.tw9483120023164983764 : True := trivial
theorem main.tw10665469846841522134 : True := trivial
theorem main.tw10140136200207757160 : True := trivial
theorem main.tw14893090268090260817 : True := trivial
theorem main.tw18385570937342765463 : True := trivial
theorem main.tw12958428809211121842 : True := trivial
theorem main.tw2923326968966308885 : True := trivial
theorem main.tw7000664437366286474 : True := trivial
theorem main.tw10298723112805639129 : True := trivial
theorem main.tw11501822485730972192 : True := trivial
theorem main.tw6137908229700043457 : True := trivial
theorem main.tw14666387041718499266 : True := trivial
theorem main.tw13503263706703578961 : True := trivial
theorem main.tw15950006927108054178 : True := trivial
theorem main.tw16965079339398995527 : True := trivial
theorem main.tw6545385358150927430 : True := trivial
theorem main.tw15342904991969174519 : True := trivial
theorem main.tw6384028539975533837 : True := trivial
theorem main.tw4990475226369331113 : True := trivial
theorem main.tw11373496294956400935 : True := trivial
theorem main.tw4650958065196391918 : True := trivial
theorem main.tw14510055921401542917 : True := trivial
theorem main.tw7624293977416268664 : True := trivial
theorem main.tw16832360635688203351 : True := trivial
theorem main.tw10750994468655217958 : True := trivial
theorem main.tw11125538497796368324 : True := trivial
theorem main.tw7647378279178456250 : True := trivial
theorem main.tw16411370214107742406 : True := trivial
theorem main.tw734625210370093676 : True := trivial
theorem main.tw13187166440333854079 : True := trivial
theorem main.tw14635473669698735251 : True := trivial
theorem main.tw4651154628705390771 : True := trivial
theorem main.tw15878839252783328454 : True := trivial
theorem main.tw9368617206455126095 : True := trivial
theorem main.tw9381277316556691805 : True := trivial
theorem main.tw7411558596216406370 : True := trivial
theorem main.tw10363585996791799541 : True := trivial
theorem main.tw7846812961960373227 : True := trivial
theorem main.tw7293298908176781663 : True := trivial
theorem main.tw12570134572688502250 : True := trivial
theorem main.tw11181722664286889309 : True := trivial
theorem main.tw11646826074482590764 : True := trivial
theorem main.tw5900072995565114194 : True := trivial
theorem main.tw833945537157984683 : True := trivial
theorem main.tw1707505545463187130 : True := trivial
theorem main.tw1289389943133740499 : True := trivial
theorem main.tw3298483428156984901 : True := trivial
theorem main.tw3544752959273917758 : True := trivial
theorem main.tw12324921354453157484 : True := trivial
theorem main.tw17510229520200029679 : True := trivial
theorem main.tw8125125469695226666 : True := trivial
theorem main.tw11752208632293872130 : True := trivial
theorem main.tw14060465935940456498 : True := trivial
theorem main.tw9707000570625543123 : True := trivial
theorem main.tw2173562974560187446 : True := trivial
theorem main.tw17679725944135375923 : True := trivial
theorem main.tw6596593509180878263 : True := trivial
theorem main.tw14519047618812278338 : True := trivial
theorem main.tw7472237861779093752 : True := trivial
theorem main.tw6254453501864316152 : True := trivial
theorem main.tw12130321265151566525 : True := trivial
theorem main.tw18284262389922463811 : True := trivial
theorem main.tw3532412968194664532 : True := trivial
theorem main.tw2542808073141276813 : True := trivial
theorem main.tw17227442419121036007 : True := trivial
theorem main.tw2238316416991798583 : True := trivial
theorem main.tw4812270449578504274 : True := trivial
theorem main.tw5268168578311729375 : True := trivial
theorem main.tw11962923498438245051 : True := trivial
theorem main.tw7972779244933481256 : True := trivial
theorem main.tw8467378866343419333 : True := trivial
theorem main.tw3136416535801588117 : True := trivial
theorem main.tw9747897558166968733 : True := trivial
theorem main.tw2261811237465622523 : True := trivial
theorem main.tw5010051100324977839 : True := trivial
theorem main.tw9054027147675381713 : True := trivial
theorem main.tw3305931106042330821 : True := trivial
theorem main.tw8265370782698574782 : True := trivial
theorem main.tw2750411421705246143 : True := trivial
theorem main.tw9321267617633783869 : True := trivial
theorem main.tw11399646045708457374 : True := trivial
theorem main.tw17402982504261768225 : True := trivial
theorem main.tw2544328076492683441 : True := trivial
theorem main.tw4244067443239231564 : True := trivial
theorem main.tw2629084897520917108 : True := trivial
theorem main.tw13306352142949925410 : True := trivial
theorem main.tw3334898401069334800 : True := trivial
theorem main.tw4413345314126155841 : True := trivial
theorem main.tw4916484176355187965 : True := trivial
theorem main.tw7153082081811710619 : True := trivial
theorem main.tw6053611964639427726 : True := trivial
theorem main.tw2060595141429298972 : True := trivial
theorem main.tw8404659333953806752 : True := trivial
theorem main.tw12273490649430754879 : True := trivial
theorem main.tw1092785777240315536 : True := trivial
theorem main.tw17413556829735388813 : True := trivial
theorem main.tw16962576782160293788 : True := trivial
theorem main.tw14014001219877531578 : True := trivial
theorem main.tw3911810758690780188 : True := trivial
theorem main.tw452746233719593009 : True := trivial
theorem main.tw5473700226181020891 : True := trivial
theorem main.tw15425874342098770709 : True := trivial
theorem main.tw13738235750113832370 : True := trivial
theorem main.tw4924694640843408985 : True := trivial
theorem main.tw16755849432154420019 : True := trivial
theorem main.tw16356685582667847594 : True := trivial
theorem main.tw17275981670299983581 : True := trivial
theorem main.tw10186938856007831324 : True := trivial
theorem main.tw8484041278411425421 : True := trivial
theorem main.tw6508729118710982530 : True := trivial
theorem main.tw12077450504624328385 : True := trivial
theorem main.tw13466023306477048966 : True := trivial
theorem main.tw3779293765908593550 : True := trivial
theorem main.tw3222223853247747169 : True := trivial
theorem main.tw14235155234550121937 : True := trivial
theorem main.tw15277975159832343749 : True := trivial
theorem main.tw8844999433837080629 : True := trivial
theorem main.tw716429049611869786 : True := trivial
theorem main.tw15445229340043853549 : True := trivial
theorem main.tw1046443281632482020 : True := trivial
theorem main.tw12142246244290616864 : True := trivial
theorem main.tw6542085627976250192 : True := trivial
theorem main.tw12463224122652932544 : True := trivial
theorem main.tw10542905334921785414 : True := trivial
theorem main.tw14492832472218066102 : True := trivial
theorem main.tw6483966928607899096 : True := trivial
theorem main.tw2564707057010578714 : True := trivial
theorem main.tw13965128551521907918 : True := trivial
theorem main.tw4039676971129161736 : True := trivial
theorem main.tw16723884430069596700 : True := trivial
theorem main.tw17232878180008095221 : True := trivial
theorem main.tw17236958762192778904 : True := trivial
theorem main.tw10242657825688863476 : True := trivial
theorem main.tw13626721169425172152 : True := trivial
theorem main.tw10435530978670571659 : True := trivial
theorem main.tw16026485685270457870 : True := trivial
theorem main.tw2033968301974640842 : True := trivial
theorem main.tw2442105787152858967 : True := trivial
theorem main.tw3491332818749588091 : True := trivial
theorem main.tw16689149305811164139 : True := trivial
theorem main.tw302440914744352476 : True := trivial
theorem main.tw2647654807098235363 : True := trivial
theorem main.tw2456247091588846565 : True := trivial
theorem main.tw15312394840280087653 : True := trivial
theorem main.tw6632538468102435922 : True := trivial
theorem main.tw7159657910766400284 : True := trivial
theorem main.tw7214478077546791972 : True := trivial
theorem main.tw4657400113522596751 : True := trivial
theorem main.tw5127751686995613262 : True := trivial
theorem main.tw16361134009908129286 : True := trivial
theorem main.tw8205082461047882221 : True := trivial
theorem main.tw11923525502935528744 : True := trivial
theorem main.tw1486339892855113045 : True := trivial
theorem main.tw14699326698120687454 : True := trivial
theorem main.tw11388154006635350966 : True := trivial
theorem main.tw11003572833241299968 : True := trivial
theorem main.tw1519927702969063271 : True := trivial
theorem main.tw13132915859168520264 : True := trivial
theorem main.tw10737556833816505880 : True := trivial
theorem main.tw14061640607465278742 : True := trivial
theorem main.tw2794983428953441941 : True := trivial
theorem main.tw6914184659022975773 : True := trivial
theorem main.tw474381771622712015 : True := trivial
theorem main.tw4475767826048309731 : True := trivial
theorem main.tw10665089971535097683 : True := trivial
theorem main.tw16950194794029067938 : True := trivial
theorem main.tw16877947373546393871 : True := trivial
theorem main.tw750237026923860459 : True := trivial
theorem main.tw1372806426800153423 : True := trivial
theorem main.tw11982392923317675503 : True := trivial
theorem main.tw13962693860625380366 : True := trivial
theorem main.tw15060185592220127646 : True := trivial
theorem main.tw10953687544409504101 : True := trivial
theorem main.tw5502569546826302122 : True := trivial
theorem main.tw16274502184877008141 : True := trivial
theorem main.tw17223442867436993403 : True := trivial
theorem main.tw4333880214566435006 : True := trivial
theorem main.tw8068379698969174043 : True := trivial
theorem main.tw18418235949754561950 : True := trivial
theorem main.tw13293747886898857621 : True := trivial
theorem main.tw3960113756560652017 : True := trivial
theorem main.tw7623511443260959870 : True := trivial
theorem main.tw10391951854915411234 : True := trivial
theorem main.tw4817600198373253283 : True := trivial
theorem main.tw16057503054469045564 : True := trivial
theorem main.tw12987577155417789579 : True := trivial
theorem main.tw14216407083858561409 : True := trivial
theorem main.tw9808303207383738048 : True := trivial
theorem main.tw5456330333991267789 : True := trivial
theorem main.tw15087427406127887449 : True := trivial
theorem main.tw11728771520666845194 : True := trivial
theorem main.tw14639212616227390028 : True := trivial
theorem main.tw2428412748925179849 : True := trivial
theorem main.tw2012372014189735793 : True := trivial
theorem main.tw3404965551341049163 : True := trivial
theorem main.tw2599750674813586877 : True := trivial
theorem main.tw18325589031809861271 : True := trivial
theorem main.tw4917070330192852093 : True := trivial
theorem main.tw16357356043003861740 : True := trivial
theorem main.tw7682646441695089857 : True := trivial
theorem main.tw16187894506366716058 : True := trivial
theorem main.tw6862492499505807319 : True := trivial
theorem main.tw5400957986263281647 : True := trivial
theorem main.tw6702130215012162313 : True := trivial
theorem main.tw2156145737304315219 : True := trivial
theorem main.tw8548823596671561066 : True := trivial
theorem main.tw7884273913378172499 : True := trivial
theorem main.tw8344883900605922461 : True := trivial
theorem main.tw10939538800803721631 : True := trivial
theorem main.tw4036238207498611232 : True := trivial
theorem main.tw2921621734765799159 : True := trivial
theorem main.tw15957597259013190341 : True := trivial
theorem main.tw7761410557224570781 : True := trivial
theorem main.tw7054876372555587774 : True := trivial
theorem main.tw4502447428920916452 : True := trivial
theorem main.tw1415428593365352553 : True := trivial
theorem main.tw9156686268802561153 : True := trivial
theorem main.tw17864028415675338326 : True := trivial
theorem main.tw4088224383575840552 : True := trivial
theorem main.tw9361300454564663673 : True := trivial
theorem main.tw10177057350305019805 : True := trivial
theorem main.tw15514936471743626214 : True := trivial
theorem main.tw18431692314602308842 : True := trivial
theorem main.tw3994622017586750766 : True := trivial
theorem main.tw1777545030009416734 : True := trivial
theorem main.tw10159738436595150677 : True := trivial
theorem main.tw918671981122897330 : True := trivial
theorem main.tw10094358506670053839 : True := trivial
theorem main.tw6640438233256266117 : True := trivial
theorem main.tw16153842264607907944 : True := trivial
theorem main.tw6087835443962453003 : True := trivial
theorem main.tw12675357926760492328 : True := trivial
theorem main.tw4948327476702027199 : True := trivial
theorem main.tw983542388872702638 : True := trivial
theorem main.tw3714520120236048840 : True := trivial
theorem main.tw12623159325031504133 : True := trivial
theorem main.tw8074507844701363242 : True := trivial
theorem main.tw765107192605250810 : True := trivial
theorem main.tw1255815211270559930 : True := trivial
theorem main.tw17767330081159143506 : True := trivial
theorem main.tw7165207203227711834 : True := trivial
theorem main.tw17493723678399337961 : True := trivial
theorem main.tw7697417962357392202 : True := trivial
theorem main.tw9458421452666605423 : True := trivial
theorem main.tw18328743936084910167 : True := trivial
theorem main.tw4044139247061151142 : True := trivial
theorem main.tw1615045767204293396 : True := trivial
theorem main.tw10219080375879083632 : True := trivial
theorem main.tw5671064798259553346 : True := trivial
theorem main.tw16203622797070002922 : True := trivial
theorem main.tw11041858737867550897 : True := trivial
theorem main.tw6605025701479795990 : True := trivial
theorem main.tw8834365191522931223 : True := trivial
theorem main.tw16676564476587882173 : True := trivial
theorem main.tw17734603463515337306 : True := trivial
theorem main.tw2136821422063795447 : True := trivial
theorem main.tw18442785490491869365 : True := trivial
theorem main.tw13591255225166038476 : True := trivial
theorem main.tw2007339730380871907 : True := trivial
theorem main.tw12332102779922042578 : True := trivial
theorem main.tw834873547066669988 : True := trivial
theorem main.tw52199770228462824 : True := trivial
theorem main.tw17715262827843222689 : True := trivial
theorem main.tw1050151122526681168 : True := trivial
theorem main.tw3033833032746330586 : True := trivial
theorem main.tw16251939892948500945 : True := trivial
theorem main.tw1781223760143429554 : True := trivial
theorem main.tw7188284251151334629 : True := trivial
theorem main.tw657867468410044558 : True := trivial
theorem main.tw13590572293223372214 : True := trivial
theorem main.tw3288582142898991060 : True := trivial
theorem main.tw6385024630547198690 : True := trivial
theorem main.tw8652556701797213591 : True := trivial
theorem main.tw14377180257169084997 : True := trivial
theorem main.tw2442773178527959075 : True := trivial
theorem main.tw12255313618399501761 : True := trivial
theorem main.tw1552421926411342777 : True := trivial
theorem main.tw6898400011967081535 : True := trivial
theorem main.tw12751799325998411230 : True := trivial
theorem main.tw6557543464795787104 : True := trivial
theorem main.tw9942282790977331292 : True := trivial
theorem main.tw9360745474812902239 : True := trivial
theorem main.tw7742616358663508648 : True := trivial
theorem main.tw14849204138880929251 : True := trivial
theorem main.tw3572792404084808712 : True := trivial
theorem main.tw3262662943086543052 : True := trivial
theorem main.tw7010351842590255796 : True := trivial
theorem main.tw2433702464844828792 : True := trivial
theorem main.tw1886080085820668685 : True := trivial
theorem main.tw1099256609624015869 : True := trivial
theorem main.tw5871769198996169552 : True := trivial
theorem main.tw2287093442842179507 : True := trivial
theorem main.tw1253437644075932092 : True := trivial
theorem main.tw3796207824708393856 : True := trivial
theorem main.tw16707527281638135014 : True := trivial
theorem main.tw12023146180999706270 : True := trivial
theorem main.tw432790634136133436 : True := trivial
theorem main.tw13803360072150633466 : True := trivial
theorem main.tw5061512775090418087 : True := trivial
theorem main.tw8090509862211737132 : True := trivial
theorem main.tw17438294365789470252 : True := trivial
theorem main.tw1355085073191494161 : True := trivial
theorem main.tw5870225077901225703 : True := trivial
theorem main.tw9253799994812790149 : True := trivial
theorem main.tw9387813752240222933 : True := trivial
theorem main.tw832900586485598795 : True := trivial
theorem main.tw6662919308723722847 : True := trivial
theorem main.tw1098248734344127483 : True := trivial
theorem main.tw11614346279706655073 : True := trivial
theorem main.tw2524017781993486291 : True := trivial
theorem main.tw11463369355524808266 : True := trivial
theorem main.tw15465920861327815835 : True := trivial
theorem main.tw17659147809683748901 : True := trivial
theorem main.tw13642826006792871662 : True := trivial
theorem main.tw16790050636404226231 : True := trivial
theorem main.tw5665406974723832613 : True := trivial
theorem main.tw15491723280356408159 : True := trivial
theorem main.tw13194694976546938235 : True := trivial
theorem main.tw4573282807186111410 : True := trivial
theorem main.tw962193829226610041 : True := trivial
theorem main.tw9011639564254621642 : True := trivial
theorem main.tw16049902774474827687 : True := trivial
theorem main.tw6785432497481299714 : True := trivial
theorem main.tw8952462522180670554 : True := trivial
theorem main.tw14327529596952217943 : True := trivial
theorem main.tw13154001654789283132 : True := trivial
theorem main.tw10609540516017602915 : True := trivial
theorem main.tw4585930131862741453 : True := trivial
theorem main.tw66260789543402106 : True := trivial
theorem main.tw12106859168716417752 : True := trivial
theorem main.tw1606137496264982490 : True := trivial
theorem main.tw15643365686152983790 : True := trivial
theorem main.tw7074144079889050967 : True := trivial
theorem main.tw4409510580461579534 : True := trivial
theorem main.tw9324701786144819629 : True := trivial
theorem main.tw18031918436515192882 : True := trivial
theorem main.tw13313126695403321540 : True := trivial
theorem main.tw11815829001073249272 : True := trivial
theorem main.tw1628013610222277130 : True := trivial
theorem main.tw12429675835336498981 : True := trivial
theorem main.tw16784772322866675431 : True := trivial
theorem main.tw13116522157475607773 : True := trivial
theorem main.tw8207831470162742035 : True := trivial
theorem main.tw9067231828042526015 : True := trivial
theorem main.tw7073996269223845280 : True := trivial
theorem main.tw14009396871252706886 : True := trivial
theorem main.tw16721930046160240684 : True := trivial
theorem main.tw5842977544298395883 : True := trivial
theorem main.tw11614107205274993552 : True := trivial
theorem main.tw9175052073728820173 : True := trivial
theorem main.tw12870486517592710932 : True := trivial
theorem main.tw9848185148710128376 : True := trivial
theorem main.tw656089360051881306 : True := trivial
theorem main.tw10463206416058312583 : True := trivial
theorem main.tw12245857906982125569 : True := trivial
theorem main.tw10210597933619972095 : True := trivial
theorem main.tw14286279103370969706 : True := trivial
theorem main.tw7929128423345735474 : True := trivial
theorem main.tw12900284412222446716 : True := trivial
theorem main.tw645136716886899192 : True := trivial
theorem main.tw18425317256667529438 : True := trivial
theorem main.tw2566753976717531306 : True := trivial
theorem main.tw13403271247416244815 : True := trivial
theorem main.tw16097269412956081036 : True := trivial
theorem main.tw17144978775634262171 : True := trivial
theorem main.tw3343439749351644125 : True := trivial
theorem main.tw15023316991559800185 : True := trivial
theorem main.tw6449824600675878752 : True := trivial
theorem main.tw48596604365144762 : True := trivial
theorem main.tw15244097889725654702 : True := trivial
theorem main.tw12574995316784493246 : True := trivial
theorem main.tw5491092008493831813 : True := trivial
theorem main.tw3750506576032048294 : True := trivial
theorem main.tw6112859857366181021 : True := trivial
theorem main.tw14313897822631088780 : True := trivial
theorem main.tw17110241357884498264 : True := trivial
theorem main.tw6248026722116248852 : True := trivial
theorem main.tw49674306023711395 : True := trivial
theorem main.tw1242282695825638017 : True := trivial
theorem main.tw17817656438006933710 : True := trivial
theorem main.tw15589955886551607785 : True := trivial
theorem main.tw16193401482309157537 : True := trivial
theorem main.tw18392154025008590481 : True := trivial
theorem main.tw8748973510418095054 : True := trivial
theorem main.tw15772080087578916929 : True := trivial
theorem main.tw13402765919934010277 : True := trivial
theorem main.tw2190695567426971638 : True := trivial
theorem main.tw16959884160788844718 : True := trivial
theorem main.tw16757190730947197508 : True := trivial
theorem main.tw2921958311620399285 : True := trivial
theorem main.tw18403998269306519403 : True := trivial
theorem main.tw14909365282108701170 : True := trivial
theorem main.tw12785325919471990445 : True := trivial
theorem main.tw7860819179221955721 : True := trivial
theorem main.tw15365013842991253249 : True := trivial
theorem main.tw13797323745857372409 : True := trivial
theorem main.tw11183452524601008856 : True := trivial
theorem main.tw3549514262204291990 : True := trivial
theorem main.tw13914785722749861914 : True := trivial
theorem main.tw2337230598321646361 : True := trivial
theorem main.tw161903638078081290 : True := trivial
theorem main.tw1157997071576566072 : True := trivial
theorem main.tw9889869242142760280 : True := trivial
theorem main.tw5461779845614304980 : True := trivial
theorem main.tw10044588960856096794 : True := trivial
theorem main.tw14721343552236136636 : True := trivial
theorem main.tw2702614204127132176 : True := trivial
theorem main.tw12093647306153771053 : True := trivial
theorem main.tw16480584520131690045 : True := trivial
theorem main.tw6788695710022549768 : True := trivial
theorem main.tw17920292393507637884 : True := trivial
theorem main.tw12915833801598196605 : True := trivial
theorem main.tw14439473939278146460 : True := trivial
theorem main.tw3934531018447913466 : True := trivial
theorem main.tw6639522245352263942 : True := trivial
theorem main.tw221546546901971840 : True := trivial
theorem main.tw13148611719377898607 : True := trivial
theorem main.tw7070123817558143148 : True := trivial
theorem main.tw9681375758050803366 : True := trivial
theorem main.tw12057704586751987240 : True := trivial
theorem main.tw9483696857397876608 : True := trivial
theorem main.tw11789403723227289746 : True := trivial
theorem main.tw8930851030842425676 : True := trivial
theorem main.tw12681957500809781501 : True := trivial
theorem main.tw18438843042052247593 : True := trivial
theorem main.tw15079240505294077160 : True := trivial
theorem main.tw1027651156746619712 : True := trivial
theorem main.tw13350764725976880583 : True := trivial
theorem main.tw5303952258864922383 : True := trivial
theorem main.tw1191263595243908205 : True := trivial
theorem main.tw7083192437325867461 : True := trivial
theorem main.tw14390754486103292620 : True := trivial
theorem main.tw9693634834776466397 : True := trivial
theorem main.tw13978478705568000493 : True := trivial
theorem main.tw9274054859765456524 : True := trivial
theorem main.tw9392487213469676918 : True := trivial
theorem main.tw17185042187573640451 : True := trivial
theorem main.tw9071729483887776986 : True := trivial
theorem main.tw17943756269633507525 : True := trivial
theorem main.tw4719957520787936630 : True := trivial
theorem main.tw3626430660855392483 : True := trivial
theorem main.tw8283060676807011144 : True := trivial
theorem main.tw2744014450722944760 : True := trivial
theorem main.tw8475525182357872103 : True := trivial
theorem main.tw11531331273489700057 : True := trivial
theorem main.tw3848698983108048278 : True := trivial
theorem main.tw17290568124846718506 : True := trivial
theorem main.tw4047586217144654443 : True := trivial
theorem main.tw11487549891475536569 : True := trivial
theorem main.tw5352104535322881683 : True := trivial
theorem main.tw6877560268529008848 : True := trivial
theorem main.tw12670839924663504800 : True := trivial
theorem main.tw15768048840197415361 : True := trivial
theorem main.tw4871624949866520906 : True := trivial
theorem main.tw861011362418597151 : True := trivial
theorem main.tw14662554035588321541 : True := trivial
theorem main.tw9561784451562097942 : True := trivial
theorem main.tw18162592725011693541 : True := trivial
theorem main.tw11251407683458634364 : True := trivial
theorem main.tw14689642411216604063 : True := trivial
theorem main.tw8905464785575363620 : True := trivial
theorem main.tw5837888446457221635 : True := trivial
theorem main.tw7483713754202142201 : True := trivial
theorem main.tw15015129292197451723 : True := trivial
theorem main.tw8153860185051352139 : True := trivial
theorem main.tw16355746345580011080 : True := trivial
theorem main.tw12170992721606120685 : True := trivial
theorem main.tw17477492558424962760 : True := trivial
theorem main.tw13478642292854932123 : True := trivial
theorem main.tw6880717277089553138 : True := trivial
theorem main.tw8947760058931562597 : True := trivial
theorem main.tw8402242094647718915 : True := trivial
theorem main.tw12252054271945606052 : True := trivial
theorem main.tw13381974486344185354 : True := trivial
theorem main.tw6868236387235032019 : True := trivial
theorem main.tw4156893749530806270 : True := trivial
theorem main.tw6635558491612396129 : True := trivial
theorem main.tw17028514697001254897 : True := trivial
theorem main.tw10199874654664476236 : True := trivial
theorem main.tw4189750870438640210 : True := trivial
theorem main.tw16922381011570985944 : True := trivial
theorem main.tw13113777628852026922 : True := trivial
theorem main.tw13260870731297125680 : True := trivial
theorem main.tw9272984997812220495 : True := trivial
theorem main.tw8201407320365606102 : True := trivial
theorem main.tw2855982326401850692 : True := trivial
theorem main.tw11909259528454963219 : True := trivial
theorem main.tw11332626419695707122 : True := trivial
theorem main.tw13995172100960836882 : True := trivial
theorem main.tw17725498274588495791 : True := trivial
theorem main.tw10564528347858357063 : True := trivial
theorem main.tw7108953243070827183 : True := trivial
theorem main.tw5665735395497279834 : True := trivial
theorem main.tw2110754180369666209 : True := trivial
theorem main.tw3160845607165458772 : True := trivial
theorem main.tw11129844816282181526 : True := trivial
theorem main.tw54841869916938688 : True := trivial
theorem main.tw3864431920445960829 : True := trivial
theorem main.tw4839478117068044826 : True := trivial
theorem main.tw12942913107403878096 : True := trivial
theorem main.tw15970538086172389420 : True := trivial
theorem main.tw6164561884633627433 : True := trivial
theorem main.tw15660686498588105780 : True := trivial
theorem main.tw8356715770997125795 : True := trivial
theorem main.tw13115884678310671301 : True := trivial
theorem main.tw17201416709059790184 : True := trivial
theorem main.tw14106445559736802775 : True := trivial
theorem main.tw4644634924443464280 : True := trivial
theorem main.tw14097447854668400296 : True := trivial
theorem main.tw16551855485269240956 : True := trivial
theorem main.tw11213863890663495067 : True := trivial
theorem main.tw1054321117371714560 : True := trivial
theorem main.tw3557749057250611081 : True := trivial
theorem main.tw13711685867348743795 : True := trivial
theorem main.tw9391614825396419720 : True := trivial
theorem main.tw7697325545964645800 : True := trivial
theorem main.tw13676971244355772609 : True := trivial
theorem main.tw9557352009045844224 : True := trivial
theorem main.tw8681388529863501421 : True := trivial
theorem main.tw14161465996007527954 : True := trivial
theorem main.tw11707585526205722907 : True := trivial
theorem main.tw5181119749688162637 : True := trivial
theorem main.tw3454311308915712629 : True := trivial
theorem main.tw9069182735580402390 : True := trivial
theorem main.tw1130211791997205004 : True := trivial
theorem main.tw7142256002058171272 : True := trivial
theorem main.tw10992214633131536827 : True := trivial
theorem main.tw11374851513655246148 : True := trivial
theorem main.tw16989488325979979065 : True := trivial
theorem main.tw14722489848711283861 : True := trivial
theorem main.tw10876229203375891673 : True := trivial
theorem main.tw14755733875199540201 : True := trivial
theorem main.tw437699149556213733 : True := trivial
theorem main.tw18317609476662902477 : True := trivial
theorem main.tw5839530249802149432 : True := trivial
theorem main.tw17749094844149355310 : True := trivial
theorem main.tw12974819211118642341 : True := trivial
theorem main.tw15928290008803537013 : True := trivial
theorem main.tw6124416833075167902 : True := trivial
theorem main.tw4491334807805099456 : True := trivial
theorem main.tw10500737211492114793 : True := trivial
theorem main.tw6106196091520820027 : True := trivial
theorem main.tw7173623326730630234 : True := trivial
theorem main.tw15616401959046598769 : True := trivial
theorem main.tw6203846247750671552 : True := trivial
theorem main.tw14966384500751655702 : True := trivial
theorem main.tw13255245976751338989 : True := trivial
theorem main.tw2215267417292685860 : True := trivial
theorem main.tw13974046611088194958 : True := trivial
theorem main.tw7691172733374981047 : True := trivial
theorem main.tw6222487380544312443 : True := trivial
theorem main.tw14788915703135433725 : True := trivial
theorem main.tw16292202817602668162 : True := trivial
theorem main.tw17016820405989369747 : True := trivial
theorem main.tw12338497608069007261 : True := trivial
theorem main.tw7639352225515584698 : True := trivial
theorem main.tw15579395750891953841 : True := trivial
theorem main.tw6981580820607432535 : True := trivial
theorem main.tw7416775174125063854 : True := trivial
theorem main.tw7788533954027902341 : True := trivial
theorem main.tw4554758830490901076 : True := trivial
theorem main.tw17128476026691140212 : True := trivial
theorem main.tw14168887731352723522 : True := trivial
theorem main.tw5240536507193477226 : True := trivial
theorem main.tw15734200111481486640 : True := trivial
theorem main.tw4587069139193485165 : True := trivial
theorem main.tw7521444476212097132 : True := trivial
theorem main.tw5343319030673445083 : True := trivial
theorem main.tw5309058905264134205 : True := trivial
theorem main.tw18005423509665057918 : True := trivial
theorem main.tw9470667924834194258 : True := trivial
theorem main.tw13514204307011423542 : True := trivial
theorem main.tw2399826469436781019 : True := trivial
theorem main.tw14443092014599818573 : True := trivial
theorem main.tw545269030811804461 : True := trivial
theorem main.tw14814594519894181452 : True := trivial
theorem main.tw5289026146741335887 : True := trivial
theorem main.tw15097543051748444868 : True := trivial
theorem main.tw13180746182150919023 : True := trivial
theorem main.tw17413806152003534235 : True := trivial
theorem main.tw13689083923384677848 : True := trivial
theorem main.tw785246043732427063 : True := trivial
theorem main.tw6418098437765475518 : True := trivial
theorem main.tw9670510015898674028 : True := trivial
theorem main.tw9189880136782149556 : True := trivial
theorem main.tw17456035664235451855 : True := trivial
theorem main.tw7139307881021679148 : True := trivial
theorem main.tw3905226178654972811 : True := trivial
theorem main.tw6657087868060814 : True := trivial
theorem main.tw16952715711813285254 : True := trivial
theorem main.tw6660377722381337597 : True := trivial
theorem main.tw5234446048077146213 : True := trivial
theorem main.tw5401703158475992631 : True := trivial
theorem main.tw3299218664060906527 : True := trivial
theorem main.tw17280665378484479262 : True := trivial
theorem main.tw18342001204779339714 : True := trivial
theorem main.tw9389665374557996460 : True := trivial
theorem main.tw11774690029378154688 : True := trivial
theorem main.tw11041547156204584376 : True := trivial
theorem main.tw1236483940969888574 : True := trivial
theorem main.tw16320215318167395912 : True := trivial
theorem main.tw1645717771770832407 : True := trivial
theorem main.tw1390771862084280389 : True := trivial
set_option Elab.async true in
theorem main : PySem.Challenge.rw_mj0268_01.Holds := by
  (w_on; o_law; k_head; (case hw => w_witness2))
  k_fill
  intro w s₀ s₁ mg mb G Y fa o pm cd doc dV kV ho hdd hcd hD hmg hg args vals as hpre hlay hrd hwl hlo
  have KX : (K0 w.params).In s₁.heap := in_of_eq (by kernel_rfl) (kIn_of Y)
  refine Ground.open G ?_
  intro T B D TE TW
  try (refine guard_noD D (by decide +kernel) ?_; clear D)
  obtain ⟨bm, ob, M⟩ := bmod_of_top T
  wrow_args hpre hlay hrd hwl hlo
  refine enter_call ?_
  rename_i ns _ _ _ _ _ _ _ a vs _ hL _ _ _ hI _ hc63 _
  have hfa := mg_of KX (Top.g T) (show nsIn (K0 w.params) mainGlobals (Str.ofString "law") = some (some (.ref 809)) by k_is)
  have hmg' : mg (Str.ofString "law") = some (.ref fa) := hmg
  rw [hfa] at hmg'
  cases hmg'
  have hjo := mg_of KX (Top.g T) (show nsIn (K0 w.params) mainGlobals (Str.ofString "join") = some (some (.ref 763)) by k_is)
  have hbt := based_of_top T (name := Str.ofString "join") rfl hjo (KX 763 _ rfl) rfl
  obtain ⟨c, P, hc, hB⟩ := hbt
  have hc' : (Value.ref 762) = Value.ref c := hc
  cases hc'
  have hP : P = 758 := by
    obtain ⟨⟨o', vs', e1, _, e3, e4⟩, _⟩ := hB.tab
    have e0 := KX 762 _ rfl
    rw [e0] at e1
    cases e1
    cases e3
    have e5 : some (Value.ref 758) = some (Value.ref P) := e4
    cases e5
    rfl
  subst hP
  have Z : Site w (_, _) mg mb 30 200 callerA s₁ := ⟨rfl, by decide, by decide, KX, topRead_of T, ⟨#[], hB.code, hB.tab⟩, ⟨bm, ob, M⟩⟩
  refine law_call Z hL hI (by omega) (.of_eq hg) ?_
  intro h' g' tk' Mx hG'
  exact ⟨.inl ⟨.bool true, .bool true, [], rfl, fun _ => rfl, .bool _, post_ok _ _, fun _ => ⟨List.nodup_nil, fun a ha => by cases ha⟩⟩, oldK_of Mx hB.code hB.tab, rfl, hG'⟩
end Mine
theorem PySem.Challenge.cw_mj0268_01_holds : PySem.Challenge.rw_mj0268_01.Holds := by
  exact Mine.main
