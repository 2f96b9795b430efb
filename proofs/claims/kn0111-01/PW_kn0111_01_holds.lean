import PyProof.Rows.All
import Wide.All
import OpenK.AllK
import Wide.FinOn
import PySem.Challenge.RW_kn0111_01
set_option Elab.async false
section
open PySem PySem.W PyProof.Rows
namespace Mine
set_option maxRecDepth 100000 in
set_option maxHeartbeats 8000000 in
open_top hd for PySem.Challenge.rw_kn0111_01
end Mine
end
section
open PySem PySem.W PySem.Calls PySem.Spec PyProof.Rows
namespace Mine
section
variable {prog : Program} {w : World} {A : Around} {E : Value → Shared → Prop} {s : Shared} {h₀ : Heap} {L l : Addr}
theorem item_made {value slice : PySem.Expr} {news : List (Addr × Obj)} {us : List Value} {n : Nat} {k : Int} {u : Tok} {v : Value} {Q : Value → Shared → Prop}
    (N : News h₀ L s.heap news) (hm : (l, W.listOf us.toArray n) ∈ news) (h0 : 0 ≤ k) (hfit : k < 2 ^ 63) (hx : us[k.toNat]? = some v) (h : Q v s)
    (hs : subscripted slice false (.ref l) (.int k u) = operate [.ref l, .int k u] (getItem (.ref l) (.int k u)) := by with_unfolding_all rfl) :
    wpAny (model prog w) A (subscriptTail value slice (.ref l) (.int k u)) Q E s := by
  have hl : s.heap.IsList l us.toArray := ⟨_, (N _ hm).1, rfl, n, rfl⟩
  exact tail_any hl.typeIs slot_list_getitem.lookup (wpAny_getItem_list hl h0 hfit (by simpa using hx) h) hs
theorem zone_item {value slice : PySem.Expr} {news : List (Addr × Obj)} {a b : Int} {t1 t2 t3 : Tok} {n : Nat} {x : Int} {u : Tok} {Q : Value → Shared → Prop}
    (N : News h₀ L s.heap news) (hm : (l, W.listOf [Value.none, Value.int 0 t1, Value.int a t2, Value.int b t3].toArray n) ∈ news) (ha : 0 ≤ a ∧ a < 1440) (hb : b = -a)
    (h1 : Q .none s) (h2 : ∀ z t, -1440 < z → z < 1440 → Q (.int z t) s)
    (hs : ∀ k, subscripted slice false (.ref l) (.int k u) = operate [.ref l, .int k u] (getItem (.ref l) (.int k u)) := by intro k; with_unfolding_all rfl) :
    wpAny (model prog w) A (subscriptTail value slice (.ref l) (.int (x.fmod 4) u)) Q E s := by
  have hx : 0 ≤ x.fmod 4 ∧ x.fmod 4 < 4 := ⟨Int.fmod_nonneg_of_pos _ (by decide), Int.fmod_lt_of_pos _ (by decide)⟩
  generalize x.fmod 4 = k at hx
  rcases (by lia : k = 0 ∨ k = 1 ∨ k = 2 ∨ k = 3) with rfl | rfl | rfl | rfl
  · exact item_made N hm (by decide) (by decide) rfl h1 (hs _)
  · exact item_made N hm (by decide) (by decide) rfl (h2 _ _ (by decide) (by decide)) (hs _)
  · exact item_made N hm (by decide) (by decide) rfl (h2 _ _ (by lia) (by lia)) (hs _)
  · exact item_made N hm (by decide) (by decide) rfl (h2 _ _ (by lia) (by lia)) (hs _)
end
section
variable {M : Model} {A : Around} {E : Value → Shared → Prop} {s : Shared} {env : Env} {pos : Pos} {first : List Value} {Q : Value → Shared → Prop} {q : Addr} {kws : List Keyword}
theorem callWith_made_kw (X : FnAt q s.heap) (hall : (backToKw pos (keywordEach kws env)).all (·.1.isSome) = true)
    (h : wpAny M A (evalAll ((backToKw pos (keywordEach kws env)).map (·.2))) (fun ks s₂ => FnAt q s₂.heap ∧ wpAny M A (call (.ref q) (first ++ []) (((backToKw pos (keywordEach kws env)).filterMap (·.1)).zip ks)) Q E s₂) E s)
    (hplain : ((backTo pos (starEach [] env)).any (·.1) || (backToKw pos (keywordEach kws env)).any (·.1.isNone)) = false := by rfl) :
    wpAny M A (callWith pos (.ref q) first (backTo pos (starEach [] env)) (backToKw pos (keywordEach kws env))) Q E s :=
  have _ := X
  callWith_of hplain keeps_F (evalArgs_kw2_nil hall h)
end
section
variable {prog : Program} {w : World} {A A₀ : Around} {s : Shared} {K : Frag} {L : Addr} {h₀ base : Heap} {m mg mb : Str → Option Value} {news : List (Addr × Obj)} {p : Program} {loose : List Str} {mean : ExcName → Option Value}
theorem lam_kw {env : Env} {outer : List Env} {R : Result → Shared → Prop} {name qual : Str} {params : Arguments} {body : Expr} {scope : Scope} {cl : List (Str × Addr)} {pm ctv : Value} {c' : Addr} {f : Addr} {args : Args} {nm k : Str} {v : Value} {DD : List (PyData × PyData)} {g₁ : Addr → Sem (List (Str × Value))}
    (B : Below A₀ base outer h₀) (F : Fr h₀ L s.heap m) (X₀ : K.In h₀) (N : News h₀ L s.heap news) (T : Top p loose mean mg mb h₀) (hA : A.frames = some (env :: outer)) (hf : env.frame = some L) (hke : env.scope.kind = .function)
    (ho : (f, kla_obj name qual params body scope cl pm c' ctv) ∈ news) (hcd : s.heap.CodeRec (.ref c') qual) (hroom : A.depth < recursionLimit)
    (hp : peekA K ⟨prog, w.params⟩ (bindArgs (kla_fn name qual params body scope cl pm (.ref c') ctv) args) = some (dictOf [] 0, g₁))
    (hk₁ : ∀ D, g₁ D = (forIn [(k, v)] PUnit.unit (fun x _ => (nsSet D x.1 x.2 >>= fun _ => pure (ForInStep.yield PUnit.unit))) >>= fun _ => pure [(nm, Value.ref D)]))
    (hD : PyProof.V.FlatPairs PyData.str [(k, v)] DD) (hloc : ∀ D, ∀ y ∈ [(nm, Value.ref D)], scope.names.lookup y.1 = some .local)
    (h : ∀ D o g L' h₁ tk, (∀ p ∈ news, p.1 < D) → (D == sysModules) = false → o.IsDictOf (strKind prog w) [(k, v)] → PyProof.V.FlatPairs PyData.str [(k, v)] DD → Fr h₀ L g m → Fr g L' h₁ (fun y => [(nm, Value.ref D)].reverse.lookup y) → News g L' h₁ ((D, o) :: news) → Below A base (env :: outer) g → K.In g → Top p loose mean mg mb g →
      wpAny (model prog w) (A.deeper (envX qual scope L' f (.ref c') cl)) (eval body (envX qual scope L' f (.ref c') cl))
        (fun v s' => LeaveK h₀ L m g R v s')
        (fun e s' => wpAny (model prog w) (A.deeper (envX qual scope L' f (.ref c') cl)) (leaving (envX qual scope L' f (.ref c') cl) e) (fun _ s'' => R (.error e) s'') (fun e' s'' => R (.error e') s'') s')
        { s with heap := h₁, toks := tk })
    (hco : scope.isCoroutine = false) (hgen : scope.isGenerator = false) (hk : scope.kind = .function)
    (hcell : ∀ x ∈ scope.names, x.2 ≠ .cell) : codeAny (model prog w) A (.call (.ref f) args) R s := by
  refine kla_callFunE hroom (N _ ho).1 rfl hco hgen rfl hcd ?_
  refine wp_of_peekA (o := dictOf [] 0) F N (X₀.keeps F.keep) rfl _ g₁ hp fun h' F' N' l => ?_
  rw [hk₁]
  refine wpAny_bind (kp_fill [(k, v)] { s with heap := h' } [] 0 F' N' (fun p hp => Nat.ne_of_lt (l p hp)) (fun _ he => nomatch he) (fun _ he => nomatch he) (by simp) fun h'' F'' N'' => wpAny_pure ?_)
  have N3 : News h₀ L h'' ((s.heap.objs.size, dictOf [⟨PyData.keyHash w.params k, .str k s.toks, v⟩] 1) :: news) := N''
  obtain ⟨FG, BG, st, lv⟩ := groundX (R := R) (s := { s with heap := h'', toks := s.toks + 1 }) B F'' N3 hA hf hke
  refine wpAny_newFunctionEnv (s := { s with heap := h'', toks := s.toks + 1 }) hcell (hloc _) (fun h₁ hns hsb => ⟨((T.nolimit).keeps F''.keep).fresh _ hsb, ?_⟩) hk
  show codeAny _ _ (.expr body (envX qual scope h''.objs.size f (.ref c') cl)) _ _
  have hk₁ : ∀ b o, h''.get? b = some o → h₁.get? b = some o := fun b o e => hsb.extBut b o (Nat.ne_of_lt (Heap.lt_size e)) (Heap.get?_push_of_some _ e)
  exact kla_codeExpr (wpAny_mono (h _ _ _ h''.objs.size h₁ _ l (F.notModules (modules_low T.nolimit)) (kp_isDict s.toks (0 + 1) (by simp)) hD FG ⟨hns, fun b o e => hk₁ b o (of_hideAll _ e), Nat.le_of_eq (hideAll_size _ _)⟩
    (fun p hp => ⟨hk₁ _ _ (N3 p hp).1, Nat.ne_of_lt (Heap.lt_size (N3 p hp).1), hideAll_none _ (List.mem_map_of_mem hp)⟩) BG (X₀.keeps st) (T.keeps st)) (fun v s' hl => lv _ _ hl) fun _ _ y => y)
end
end Mine
namespace Mine
open PySem
theorem fm (x k : Int) (h : 0 < k) : 0 ≤ x.fmod k ∧ x.fmod k < k := ⟨Int.fmod_nonneg_of_pos _ h, Int.fmod_lt_of_pos _ h⟩
theorem yr_b (x : Int) : 1 ≤ x.fmod 9999 + 1 ∧ x.fmod 9999 + 1 ≤ 9999 := by have := fm x 9999 (by decide); lia
theorem mo_b (x : Int) : 1 ≤ x.fmod 12 + 1 ∧ x.fmod 12 + 1 ≤ 12 := by have := fm x 12 (by decide); lia
theorem dy_b (x : Int) : 1 ≤ (x.fdiv 12).fmod 28 + 1 ∧ (x.fdiv 12).fmod 28 + 1 ≤ 28 := by have := fm (x.fdiv 12) 28 (by decide); lia
theorem hr_b (x : Int) : 0 ≤ (x.fdiv 3).fmod 24 ∧ (x.fdiv 3).fmod 24 ≤ 23 := by have := fm (x.fdiv 3) 24 (by decide); lia
theorem mi_b (x : Int) : 0 ≤ (x.fdiv 5).fmod 60 ∧ (x.fdiv 5).fmod 60 ≤ 59 := by have := fm (x.fdiv 5) 60 (by decide); lia
theorem se_b (x : Int) : 0 ≤ x.fmod 60 ∧ x.fmod 60 ≤ 59 := by have := fm x 60 (by decide); lia
theorem us_b (x : Int) : 0 ≤ (x * 7919).fmod 1000000 ∧ (x * 7919).fmod 1000000 ≤ 999999 := by have := fm (x * 7919) 1000000 (by decide); lia
/-- a text by its signs' numbers -/
def S (l : List Nat) : Str := ⟨l.toArray⟩
theorem S_app (a b : List Nat) : S a ++ S b = S (a ++ b) := by
  show Str.append (S a) (S b) = S (a ++ b)
  simp [S, Str.append]
theorem S_len (a : List Nat) : (S a).length = a.length := by simp [S, Str.length]
/-- a figure's sign -/
def fig (n : Int) : Nat := 48 + (n.fmod 10).toNat
/-- two figures of a number -/
def two (n : Int) : Str := S [fig (n.fdiv 10), fig n]
theorem two_len (n : Int) : (two n).length = 2 := S_len _
theorem one_text (n : Int) (h0 : 0 ≤ n) (h1 : n < 10) : Str.ofString (toString n) = S [fig n] := by
  rcases (by lia : n = 0 ∨ n = 1 ∨ n = 2 ∨ n = 3 ∨ n = 4 ∨ n = 5 ∨ n = 6 ∨ n = 7 ∨ n = 8 ∨ n = 9) with rfl | rfl | rfl | rfl | rfl | rfl | rfl | rfl | rfl | rfl <;> decide +kernel
theorem two_eq (n : Int) (h : 0 ≤ n ∧ n < 100) : Str.ofString (toString (n.fdiv 10)) ++ Str.ofString (toString (n.fmod 10)) = two n := by
  have hm := fm n 10 (by decide)
  have hd : n.fdiv 10 = n / 10 := Int.fdiv_eq_ediv_of_nonneg n (by decide)
  have e : (n.fmod 10).fmod 10 = n.fmod 10 := by
    rw [Int.fmod_eq_emod_of_nonneg _ (by decide), Int.fmod_eq_emod_of_nonneg _ (by decide)]; lia
  rw [one_text (n.fdiv 10) (by lia) (by lia), one_text (n.fmod 10) hm.1 hm.2, S_app]
  show S [fig (n.fdiv 10), fig (n.fmod 10)] = S [fig (n.fdiv 10), fig n]
  unfold fig; rw [e]
theorem cut_ss {l : List Nat} {i j : Int} (h : 0 ≤ i ∧ i ≤ j ∧ j ≤ l.length) : Txt.slice (S l) (some i) (some j) = S ((l.drop i.toNat).take (j - i).toNat) := by
  have := eq_of_beq (slice_closes (x := S l) (i := i) (j := j) (by simpa [S] using h))
  rw [this]; simp [S]
theorem cut_sn {l : List Nat} {i : Int} (h : 0 ≤ i ∧ i ≤ l.length) : Txt.slice (S l) (some i) none = S (l.drop i.toNat) := by
  have hl : ((S l).length : Int) = l.length := by rw [S_len]
  have := slice_from_eq (x := S l) (i := i) (b := l.length) h.1 (by lia) hl.symm
  rw [this]
  have e : (l.drop i.toNat).take ((l.length : Int) - i).toNat = l.drop i.toNat := List.take_of_length_le (by rw [List.length_drop]; lia)
  simp only [S]
  rw [e]
theorem lit_dash : Str.ofString "-" = S [45] := by decide +kernel
theorem lit_T : Str.ofString "T" = S [84] := by decide +kernel
theorem lit_colon : Str.ofString ":" = S [58] := by decide +kernel
theorem two_S (n : Int) : two n = S [fig (n.fdiv 10), fig n] := rfl
section
variable {prog : Program} {w : World} {A : Around} {E : Value → Shared → Prop} {s : Shared} {x y : Str} {t u : Tok} {a b c : List Nat} {Q : Value → Shared → Prop}
theorem add_S (e1 : x = S a) (e2 : y = S b) (hl : a.length + b.length ≤ 1000) (hc : a ++ b = c) (h : ∀ t' tk, Q (.str (S c) t') { s with toks := tk }) : wpAny (model prog w) A (binaryOp .Add (.str x t) (.str y u)) Q E s := by
  subst e1 e2 hc
  refine add_str (fun t' tk => ?_) (by rw [S_len, S_len, sizeLine_eq]; lia)
  rw [S_app]; exact h t' tk
theorem iadd_S (e1 : x = S a) (e2 : y = S b) (hl : a.length + b.length ≤ 1000) (hc : a ++ b = c) (h : ∀ t' tk, Q (.str (S c) t') { s with toks := tk }) : wpAny (model prog w) A (inplaceOp .Add (.str x t) (.str y u)) Q E s := by
  subst e1 e2 hc
  refine iadd_str (fun t' tk => ?_) (by rw [S_len, S_len, sizeLine_eq]; lia)
  rw [S_app]; exact h t' tk
end
/-- the count of tokens under a letter, with the word that it is not nought -/
theorem gen_toks {α : Type} {M : Model} {A : Around} {t : Sem α} {Q : α → Shared → Prop} {E : Value → Shared → Prop} {h : Heap} {g : Array GenState} {d : Drawn} {X : Nat} {o : OsState}
    (k : ∀ tk : Nat, 0 < tk → wpAny M A t Q E ⟨h, g, d, tk, o⟩) : wpAny M A t Q E ⟨h, g, d, X + 1, o⟩ := k _ (Nat.succ_pos _)
theorem filt_join (c : Nat) : ∀ parts : List Str, (∀ p ∈ parts, c ∉ p.cps.toList) → (Str.join ⟨#[c]⟩ parts).cps.toList.filter (fun x => x != c) = (Str.join ⟨#[]⟩ parts).cps.toList
  | [], _ => rfl
  | [p], h => by
    show p.cps.toList.filter (fun x => x != c) = p.cps.toList
    refine List.filter_eq_self.mpr fun a ha => ?_
    have := h p (List.mem_singleton.mpr rfl)
    simp only [bne_iff_ne, ne_eq]
    rintro rfl; exact this ha
  | p :: q :: r, h => by
    have ih := filt_join c (q :: r) fun a ha => h a (List.mem_cons_of_mem _ ha)
    have hp : p.cps.toList.filter (fun x => x != c) = p.cps.toList := by
      refine List.filter_eq_self.mpr fun a ha => ?_
      have := h p (List.mem_cons_self ..)
      simp only [bne_iff_ne, ne_eq]
      rintro rfl; exact this ha
    show (p ++ ⟨#[c]⟩ ++ Str.join ⟨#[c]⟩ (q :: r)).cps.toList.filter (fun x => x != c) = (p ++ ⟨#[]⟩ ++ Str.join ⟨#[]⟩ (q :: r)).cps.toList
    simp only [Str.cps_append, Array.toList_append, List.filter_append]
    rw [hp, ih]
    simp
theorem replace_cut (l : List Nat) : Txt.replace (S l) (S [45]) (S []) = S (l.filter fun x => x != 45) := by
  show Txt.replace (S l) ⟨#[45]⟩ ⟨#[]⟩ = _
  rw [StrLaws.replace_one]
  apply Str.ext'
  apply Array.toList_inj.mp
  rw [← filt_join 45 _ (StrLaws.split_free (S l) 45), StrLaws.join_split]
  simp [S]
theorem lit_none : Str.ofString "" = S [] := by decide +kernel
section
variable {prog : Program} {w : World} {A : Around} {E : Value → Shared → Prop} {s : Shared} {x y z : Str} {t u v : Tok} {l c : List Nat} {Q : Value → Shared → Prop}
theorem replace_S {n : Nat} (hn : 0 < n) (hx : x = S l) (hl : l.length ≤ 1000) (hc : (l.filter fun x => x != 45) = c)
    (h : ∀ t' k, Q (.str (S c) t') { s with toks := k }) : wpAny (model prog w) A (call (.builtin "str.replace") [.str x t, .str (Str.ofString "-") n, .str (Str.ofString "") (n + 1)]) Q E s := by
  subst hx hc
  refine SC.replace (Nat.ne_of_gt hn) (Nat.succ_ne_zero n) (Nat.ne_of_lt (Nat.lt_succ_self n)) (by decide +kernel) ?_ fun t' k => ?_
  · rw [S_len, lit_none, S_len]; simp only [List.length_nil]; lia
  · rw [lit_dash, lit_none, replace_cut]; exact h t' k
end
theorem fig_ne (n : Int) (k : Nat) (h : k < 48) : (fig n != k) = true := by
  simp only [fig, bne_iff_ne, ne_eq]; lia
section
variable {prog : Program} {w : World} {A : Around} {E : Value → Shared → Prop} {s : Shared} {x y : Str} {t u : Tok} {z : List Nat} {Q : Value → Shared → Prop} {value slice : PySem.Expr} {h₀ : Heap} {L : Addr} {mm : Str → Option Value} {news : List (Addr × Obj)}
theorem len_S {v : Int} (hz : z.length ≤ 1000) (hv : (z.length : Int) = v) (hq : Q (.int v (s.toks + 1)) { s with toks := s.toks + 1 + 1 }) : wpAny (model prog w) A (call (.builtin "len") [.str (S z) t]) Q E s := by
  refine PyProof.Rows.len_str ?_ ?_
  · rw [S_len]; lia
  · rw [S_len, hv]; exact hq
theorem ne_T (hq : Q (.bool false) s) : wpAny (model prog w) A (compareOp .NotEq (.str (S [84, 58, 58]) t) (.str (Str.ofString "T::") u)) Q E s := by
  refine PyProof.Rows.ne_str ?_
  have e : (S [84, 58, 58] != Str.ofString "T::") = false := by decide +kernel
  rw [e]; exact hq
theorem not_in_figures {n : Nat} (h : 48 ≤ n ∧ n ≤ 57) (hq : Q (.bool false) s) : wpAny (model prog w) A (compareOp .NotIn (.str ⟨#[n]⟩ t) (.str (Str.ofString "0123456789") u)) Q E s := by
  refine PyProof.Rows.notIn_str ?_
  have e : (!(!(Builtin.Str.occurrences (Str.ofString "0123456789") ⟨#[n]⟩ 0 (Str.ofString "0123456789").length 1).isEmpty)) = false := by
    rcases (by lia : n = 48 ∨ n = 49 ∨ n = 50 ∨ n = 51 ∨ n = 52 ∨ n = 53 ∨ n = 54 ∨ n = 55 ∨ n = 56 ∨ n = 57) with rfl | rfl | rfl | rfl | rfl | rfl | rfl | rfl | rfl | rfl <;> decide +kernel
  rw [e]; exact hq
theorem int_S {v : Int} (hd : ∀ c ∈ z, 48 ≤ c ∧ c ≤ 57) (hne : z ≠ []) (hz : z.length ≤ 640) (hv : ((NumText.digitsVal z : Nat) : Int) = v) (hq : Q (.int v s.toks) { s with toks := s.toks + 1 }) : wpAny (model prog w) A (call (.type "int") [.str (S z) t]) Q E s := by
  have e : (S z).cps.toList = z := rfl
  refine KIN.call_text (n := v) ?_ (by rw [S_len]; exact hz) hq
  have := intText_digits (x := S z) (by rw [e]; exact hd) (by rw [e]; exact hne) (by rw [S_len]; lia)
  rw [this, e, hv]
section
variable {a b c d e f g h i j k l m n o p q : Nat}
theorem item_8 {nm : Str} {ps ps2 : Pos} {kd : PySem.Const} {kn : Nat} (hq : ∀ t' k', Q (.str (S [i]) t') { s with toks := k' }) : wpAny (model prog w) A (subscriptTail (PySem.Expr.Name nm ps) (PySem.Expr.Constant kd kn ps2) (.str (S [a, b, c, d, e, f, g, h, i, j, k, l, m, n, o, p, q]) t) (.int 8 u)) Q E s :=
  item_str (by decide) (by rw [S_len]; exact (by decide : -((17 : Nat) : Int) ≤ 8)) (by rw [S_len]; exact (by decide : (8 : Int) < ((17 : Nat) : Int))) (fun _ => hq _ _)
theorem item_11 {nm : Str} {ps ps2 : Pos} {kd : PySem.Const} {kn : Nat} (hq : ∀ t' k', Q (.str (S [l]) t') { s with toks := k' }) : wpAny (model prog w) A (subscriptTail (PySem.Expr.Name nm ps) (PySem.Expr.Constant kd kn ps2) (.str (S [a, b, c, d, e, f, g, h, i, j, k, l, m, n, o, p, q]) t) (.int 11 u)) Q E s :=
  item_str (by decide) (by rw [S_len]; exact (by decide : -((17 : Nat) : Int) ≤ 11)) (by rw [S_len]; exact (by decide : (11 : Int) < ((17 : Nat) : Int))) (fun _ => hq _ _)
theorem item_14 {nm : Str} {ps ps2 : Pos} {kd : PySem.Const} {kn : Nat} (hq : ∀ t' k', Q (.str (S [o]) t') { s with toks := k' }) : wpAny (model prog w) A (subscriptTail (PySem.Expr.Name nm ps) (PySem.Expr.Constant kd kn ps2) (.str (S [a, b, c, d, e, f, g, h, i, j, k, l, m, n, o, p, q]) t) (.int 14 u)) Q E s :=
  item_str (by decide) (by rw [S_len]; exact (by decide : -((17 : Nat) : Int) ≤ 14)) (by rw [S_len]; exact (by decide : (14 : Int) < ((17 : Nat) : Int))) (fun _ => hq _ _)
theorem len_17 (hq : Q (.int 17 (s.toks + 1)) { s with toks := s.toks + 1 + 1 }) : wpAny (model prog w) A (call (.builtin "len") [.str (S [a, b, c, d, e, f, g, h, i, j, k, l, m, n, o, p, q]) t]) Q E s :=
  len_S (Nat.le_of_ble_eq_true rfl) rfl hq
theorem size_17 : (S [a, b, c, d, e, f, g, h, i, j, k, l, m, n, o, p, q]).length ≤ sizeLine := by rw [S_len, sizeLine_eq]; exact Nat.le_of_ble_eq_true rfl
theorem at_15 : Txt.slice (S [a, b, c, d, e, f, g, h, i, j, k, l, m, n, o, p, q]) (some 15) none = S [p, q] := by
  rw [cut_sn ⟨by decide, (by decide : (15 : Int) ≤ ((17 : Nat) : Int))⟩]; rfl
theorem at_9 : Txt.slice (S [a, b, c, d, e, f, g, h, i, j, k, l, m, n, o, p, q]) (some 9) (some 11) = S [j, k] := by
  rw [cut_ss ⟨by decide, by decide, (by decide : (11 : Int) ≤ ((17 : Nat) : Int))⟩]; rfl
theorem at_12 : Txt.slice (S [a, b, c, d, e, f, g, h, i, j, k, l, m, n, o, p, q]) (some 12) (some 14) = S [m, n] := by
  rw [cut_ss ⟨by decide, by decide, (by decide : (14 : Int) ≤ ((17 : Nat) : Int))⟩]; rfl
theorem cut_8 {nm : Str} {ps ps2 : Pos} {u2 : PySem.Expr} {uj : Tok} (hF : Fr h₀ L s.heap mm) (hN : News h₀ L s.heap news) (hq : ∀ h' t' k', Fr h₀ L h' mm → News h₀ L h' news → Q (.str (S [a, b, c, d, e, f, g, h]) t') { s with heap := h', toks := k' }) :
    wpAny (model prog w) A (subscriptTail (PySem.Expr.Name nm ps) (PySem.Expr.Slice none (some u2) none ps2) (.str (S [a, b, c, d, e, f, g, h, i, j, k, l, m, n, o, p, q]) t) (.ref s.heap.objs.size)) Q E { s with heap := s.heap.push { cls := .type "slice", data := .fields #[.none, .int 8 uj, .none] } } :=
  slice_strN_ns hF hN (fun h' t' k' F' N' => hq h' t' k' F' N') (hsz := size_17)
theorem cut_9_11 {nm : Str} {ps ps2 : Pos} {u1 u2 : PySem.Expr} {ui uj : Tok} (hF : Fr h₀ L s.heap mm) (hN : News h₀ L s.heap news) (hq : ∀ h' t' k', Fr h₀ L h' mm → News h₀ L h' news → Q (.str (S [j, k]) t') { s with heap := h', toks := k' }) :
    wpAny (model prog w) A (subscriptTail (PySem.Expr.Name nm ps) (PySem.Expr.Slice (some u1) (some u2) none ps2) (.str (S [a, b, c, d, e, f, g, h, i, j, k, l, m, n, o, p, q]) t) (.ref s.heap.objs.size)) Q E { s with heap := s.heap.push { cls := .type "slice", data := .fields #[.int 9 ui, .int 11 uj, .none] } } :=
  slice_strN_ss hF hN (fun h' t' k' F' N' => by rw [at_9]; exact hq h' t' k' F' N') (hsz := size_17)
theorem cut_12_14 {nm : Str} {ps ps2 : Pos} {u1 u2 : PySem.Expr} {ui uj : Tok} (hF : Fr h₀ L s.heap mm) (hN : News h₀ L s.heap news) (hq : ∀ h' t' k', Fr h₀ L h' mm → News h₀ L h' news → Q (.str (S [m, n]) t') { s with heap := h', toks := k' }) :
    wpAny (model prog w) A (subscriptTail (PySem.Expr.Name nm ps) (PySem.Expr.Slice (some u1) (some u2) none ps2) (.str (S [a, b, c, d, e, f, g, h, i, j, k, l, m, n, o, p, q]) t) (.ref s.heap.objs.size)) Q E { s with heap := s.heap.push { cls := .type "slice", data := .fields #[.int 12 ui, .int 14 uj, .none] } } :=
  slice_strN_ss hF hN (fun h' t' k' F' N' => by rw [at_12]; exact hq h' t' k' F' N') (hsz := size_17)
theorem cut_15 {nm : Str} {ps ps2 : Pos} {u1 : PySem.Expr} {ui : Tok} (hF : Fr h₀ L s.heap mm) (hN : News h₀ L s.heap news) (hq : ∀ h' t' k', Fr h₀ L h' mm → News h₀ L h' news → Q (.str (S [p, q]) t') { s with heap := h', toks := k' }) :
    wpAny (model prog w) A (subscriptTail (PySem.Expr.Name nm ps) (PySem.Expr.Slice (some u1) none none ps2) (.str (S [a, b, c, d, e, f, g, h, i, j, k, l, m, n, o, p, q]) t) (.ref s.heap.objs.size)) Q E { s with heap := s.heap.push { cls := .type "slice", data := .fields #[.int 15 ui, .none, .none] } } :=
  slice_strN_sn hF hN (fun h' t' k' F' N' => by rw [at_15]; exact hq h' t' k' F' N') (hsz := size_17)
end
end
theorem fig_b (n : Int) : 48 ≤ fig n ∧ fig n ≤ 57 := by
  have := fm n 10 (by decide)
  unfold fig; lia
theorem fig_val (n : Int) (h : 0 ≤ n ∧ n < 10) : ((fig n - 48 : Nat) : Int) = n := by
  have e : n.fmod 10 = n := by rw [Int.fmod_eq_emod_of_nonneg _ (by decide)]; lia
  unfold fig; rw [e]; lia
theorem ten (n : Int) (h : 0 ≤ n ∧ n < 100) : ((fig (n.fdiv 10) - 48 : Nat) : Int) = n / 10 ∧ ((fig n - 48 : Nat) : Int) = n % 10 := by
  have hd : n.fdiv 10 = n / 10 := Int.fdiv_eq_ediv_of_nonneg n (by decide)
  refine ⟨?_, ?_⟩
  · rw [fig_val _ (by lia)]; exact hd
  · have e : n.fmod 10 = n % 10 := Int.fmod_eq_emod_of_nonneg n (by decide)
    unfold fig; rw [e]; lia
theorem val_2 (n : Int) (h : 0 ≤ n ∧ n < 100) : ((NumText.digitsVal [fig (n.fdiv 10), fig n] : Nat) : Int) = n := by
  obtain ⟨e1, e2⟩ := ten n h
  simp only [NumText.digitsVal, List.foldl_cons, List.foldl_nil]
  lia
theorem val_8 (y m d : Int) (hy : 0 ≤ y ∧ y < 10000) (hm : 0 ≤ m ∧ m < 100) (hd : 0 ≤ d ∧ d < 100) :
    ((NumText.digitsVal [fig ((y.fdiv 100).fdiv 10), fig (y.fdiv 100), fig ((y.fmod 100).fdiv 10), fig (y.fmod 100), fig (m.fdiv 10), fig m, fig (d.fdiv 10), fig d] : Nat) : Int) = (y * 100 + m) * 100 + d := by
  have hd' : y.fdiv 100 = y / 100 := Int.fdiv_eq_ediv_of_nonneg y (by decide)
  have hm' : y.fmod 100 = y % 100 := Int.fmod_eq_emod_of_nonneg y (by decide)
  obtain ⟨a1, a2⟩ := ten (y.fdiv 100) (by lia)
  obtain ⟨b1, b2⟩ := ten (y.fmod 100) (by lia)
  obtain ⟨c1, c2⟩ := ten m hm
  obtain ⟨d1, d2⟩ := ten d hd
  rw [hd'] at a1 a2
  rw [hm'] at b1 b2
  simp only [NumText.digitsVal, List.foldl_cons, List.foldl_nil]
  rw [hd', hm']
  lia
section
variable {prog : Program} {w : World} {A : Around} {E : Value → Shared → Prop} {s : Shared} {env : Env} {h₀ : Heap} {x : Str} {body : List Stmt} {Q : Flow → Shared → Prop}
theorem signs_iter {l : List Nat} {tx : Tok} {news : List (Addr × Obj)} {m₀ : Str → Option Value} (hh : A.handled = none) (F : Fr h₀ env.locals s.heap m₀) (N : News h₀ env.locals s.heap news)
    (turn : ∀ n ∈ l, ∀ t (h : Heap) tk own, OwnOff own (news.map (·.1)) → Fr h₀ env.locals h (fun y => if y = x then some (.str ⟨#[n]⟩ t) else m₀ y) → News h₀ env.locals h (news ++ own) →
      wpAny (model prog w) A (execs body env) (fun f s₂ => f = .next ∧ ∃ tk', s₂ = { s with heap := h, toks := tk' }) E { s with heap := h, toks := tk })
    (done : ∀ (u : Str → Option Value) h tk, Fr h₀ env.locals h (fun y => if y = x then u y else m₀ y) → News h₀ env.locals h news → Q .next { s with heap := h, toks := tk }) :
    wpAny (model prog w) A (pyIter (.str (S l) tx)) (fun it s₂ => LoopAtV prog w A h₀ env x body Q E it s₂) E s := by
  refine KStt.kst_text (σ := Unit) (fun _ => news) (fun _ => []) (fun _ => True) [] (fun _ _ => True) () hh F N trivial (fun _ h => nomatch h) trivial ?_ ?_
  · rintro ⟨⟩ pre post n t u h tk own e hoff _ _ F₁ N₁
    have hn : n ∈ l := by
      have : ((n : Nat) : Int) ∈ KStt.codes (S l) := by rw [e]; simp
      obtain ⟨a, ha, e'⟩ : ∃ a, a ∈ l ∧ ((a : Nat) : Int) = (n : Int) := by simpa [KStt.codes, S] using this
      have : a = n := by lia
      exact this ▸ ha
    refine wpAny_mono (turn n hn t h tk own hoff (by simpa [kstB] using F₁) N₁) (fun f s₂ hf => ?_) fun _ _ z => z
    obtain ⟨rfl, tk', rfl⟩ := hf
    refine ⟨h, tk', _, _, news, rfl, F₁, N₁, fun p hp => List.mem_append_left _ hp, fun p hp => List.mem_append_right _ hp, rfl, (), rfl, trivial, (fun p hp => absurd hp (List.not_mem_nil)), (fun z hz _ _ => ?_), trivial⟩
    simp [hz, kstB]
  · rintro ⟨⟩ u h tk _ _ F₁ N₁
    exact done u h tk (by simpa [kstB] using F₁) N₁
end
end Mine
end
section
open PySem PySem.W PySem.Calls PySem.Spec PyProof.Rows
namespace Mine
section
variable {prog : Program} {w : World} {A : Around} {E : Value → Shared → Prop} {s : Shared}
theorem ne_same {a : Int} {t u : Tok} {Q : Value → Shared → Prop} (h : Q (.bool false) s) : wpAny (model prog w) A (compareOp .NotEq (.int a t) (.int a u)) Q E s := by
  refine ne_int ?_
  rw [show (a != a) = false from bne_self_eq_false a]
  exact h
end
end Mine
namespace Mine
theorem q100 (y : Int) (h : 1 ≤ y ∧ y ≤ 9999) : 0 ≤ y.fdiv 100 ∧ y.fdiv 100 < 100 := by
  have e : y.fdiv 100 = y / 100 := Int.fdiv_eq_ediv_of_nonneg y (by decide)
  rw [e]; omega
theorem r100 (y : Int) : 0 ≤ y.fmod 100 ∧ y.fmod 100 < 100 := ⟨Int.fmod_nonneg_of_pos _ (by decide), Int.fmod_lt_of_pos _ (by decide)⟩
end Mine
end
section
open PySem PySem.W PySem.Calls PySem.Spec PyProof.Rows
namespace Mine
open AutoSeq1 (wpAny_loadPart')
open MeetsSeq3 (plain_eq_loop entry_eq_loop)
open SeqRoads2
/-- eqBool gives True here, in this world -/
def Same (prog : Program) (w : World) (A : Around) (s : Shared) (x y : Value) : Prop :=
  ∀ (E : Value → Shared → Prop) (Q : Bool → Shared → Prop), Q true s → wpAny (model prog w) A (eqBool x y) Q E s
theorem Same.of {prog : Program} {w : World} {A : Around} {s : Shared} {x y : Value} (h : SeqAt.EqAt A s x y true) : Same prog w A s x y := fun E Q hq => h prog w E Q hq
theorem Same.refl {prog : Program} {w : World} {A : Around} {s : Shared} (x : Value) : Same prog w A s x x := .of (SeqAt.EqAt.same x)
theorem Same.str {prog : Program} {w : World} {A : Around} {s : Shared} (x : Str) (t u : Tok) : Same prog w A s (.str x t) (.str x u) := by
  have := SeqAt.EqAt.str_str (A := A) (s := s) x t x u
  rw [beq_self_eq_true] at this
  exact .of this
theorem Same.int {prog : Program} {w : World} {A : Around} {s : Shared} (x : Int) (t u : Tok) : Same prog w A s (.int x t) (.int x u) := by
  have := SeqAt.EqAt.int_int (A := A) (s := s) x t x u
  rw [beq_self_eq_true] at this
  exact .of this
section
variable {prog : Program} {w : World} {l b : Addr} {items items2 : Array Value} {n n2 : Nat} {dd dd2 : Option Addr} {sl sl2 : Array (Option Value)}
/-- the loop over two lists whose items are the same, by == (2) or != (3) -/
theorem same_loop (op : Int) (r : Bool) (hop : (op = 2 ∧ r = true) ∨ (op = 3 ∧ r = false)) (hsz : items.size = items2.size) (k : Nat) :
    ∀ i : Nat, items.size - i = k → MeetsIn prog w (Builtin.«list.__eq__.loop» ⟨[.ref l, .ref b, rawInt i, rawInt op], []⟩)
      (fun A R s => s.heap.get? l = some { cls := .type "list", dict := dd, data := .seq items n, slots := sl } ∧ s.heap.get? b = some { cls := .type "list", dict := dd2, data := .seq items2 n2, slots := sl2 } ∧
        (∀ j (h1 : j < items.size) (h2 : j < items2.size), Same prog w A.in1 s items[j] items2[j]) ∧ R (.ok (.ret (.bool r))) s) := by
  induction k with
  | zero =>
    intro i hk A R s h
    obtain ⟨hp, g, d, tk, os⟩ := s; obtain ⟨hl, hb, he, h⟩ := h
    have hi1 : items[((i : Nat) : Int).toNat]? = none := by simp; omega
    have hi2 : items2[((i : Nat) : Int).toNat]? = none := by simp; omega
    rcases hop with ⟨rfl, rfl⟩ | ⟨rfl, rfl⟩
    · wp_walk using wpAny_loadPart' hl, wpAny_loadPart' hb
      rw [hi1, hi2]
      wp_walk using wpAny_loadPart' hl, wpAny_loadPart' hb
      show R (.ok (.ret (.bool (items.size == items2.size)))) _
      rw [hsz, beq_self_eq_true]; exact h
    · wp_walk using wpAny_loadPart' hl, wpAny_loadPart' hb
      rw [hi1, hi2]
      wp_walk using wpAny_loadPart' hl, wpAny_loadPart' hb
      show R (.ok (.ret (.bool (items.size != items2.size)))) _
      rw [hsz, bne_self_eq_false]; exact h
  | succ k ih =>
    intro i hk A R s h
    obtain ⟨hp, g, d, tk, os⟩ := s; obtain ⟨hl, hb, he, h⟩ := h
    have hlt : i < items.size := by omega
    have hlt2 : i < items2.size := by omega
    have hi1 : items[((i : Nat) : Int).toNat]? = some items[i] := by simp [hlt]
    have hi2 : items2[((i : Nat) : Int).toNat]? = some items2[i] := by simp [hlt2]
    have hc : ((i : Int) + 1) = ((i + 1 : Nat) : Int) := by push_cast; rfl
    rcases hop with ⟨rfl, rfl⟩ | ⟨rfl, rfl⟩
    all_goals
      wp_walk using wpAny_loadPart' hl, wpAny_loadPart' hb
      rw [hi1, hi2]
      refine wpAny_bind (he i hlt hlt2 _ _ ?_)
      wp_walk
      rw [hc]
      exact ⟨plainId_quiet plain_eq_loop _, codeAny_builtin entry_eq_loop (by
        rw [Around.under_plainId plain_eq_loop _]
        exact ih (i + 1) (by omega) A R _ ⟨hl, hb, he, h⟩)⟩
theorem same_eq (hsz : items.size = items2.size) : MeetsIn prog w (Builtin.«list.__eq__» ⟨[.ref l, .ref b], []⟩)
      (fun A R s => s.heap.get? l = some { cls := .type "list", dict := dd, data := .seq items n, slots := sl } ∧ s.heap.get? b = some { cls := .type "list", dict := dd2, data := .seq items2 n2, slots := sl2 } ∧
        (∀ j (h1 : j < items.size) (h2 : j < items2.size), Same prog w A.in1 s items[j] items2[j]) ∧ R (.ok (.ret (.bool true))) s) := by
  intro A R s h
  obtain ⟨hp, g, d, tk, os⟩ := s; obtain ⟨hl, hb, he, h⟩ := h
  have f3 := AutoSeq1.sub_list_list
  have hne : ¬ (items.size != items2.size) = true := by simp [hsz]
  wp_walk using wpAny_loadPart' hl, wpAny_loadPart' hb
  exact ⟨plainId_quiet plain_eq_loop _, codeAny_builtin entry_eq_loop (by
    rw [Around.under_plainId plain_eq_loop _]
    exact same_loop 2 true (.inl ⟨rfl, rfl⟩) hsz _ 0 rfl A R _ ⟨hl, hb, he, h⟩)⟩
theorem same_ne (hsz : items.size = items2.size) : MeetsIn prog w (Builtin.«list.__ne__» ⟨[.ref l, .ref b], []⟩)
      (fun A R s => s.heap.get? l = some { cls := .type "list", dict := dd, data := .seq items n, slots := sl } ∧ s.heap.get? b = some { cls := .type "list", dict := dd2, data := .seq items2 n2, slots := sl2 } ∧
        (∀ j (h1 : j < items.size) (h2 : j < items2.size), Same prog w A.in1 s items[j] items2[j]) ∧ R (.ok (.ret (.bool false))) s) := by
  intro A R s h
  obtain ⟨hp, g, d, tk, os⟩ := s; obtain ⟨hl, hb, he, h⟩ := h
  have f3 := AutoSeq1.sub_list_list
  have hne : ¬ (items.size != items2.size) = true := by simp [hsz]
  wp_walk using wpAny_loadPart' hl, wpAny_loadPart' hb
  exact ⟨plainId_quiet plain_eq_loop _, codeAny_builtin entry_eq_loop (by
    rw [Around.under_plainId plain_eq_loop _]
    exact same_loop 3 false (.inr ⟨rfl, rfl⟩) hsz _ 0 rfl A R _ ⟨hl, hb, he, h⟩)⟩
end
section
variable {prog : Program} {w : World} {A : Around} {E : Value → Shared → Prop} {s : Shared} {l b : Addr} {xs ys : List Value} {Q : Value → Shared → Prop}
/-- item by item -/
inductive SameAll (prog : Program) (w : World) (A : Around) (s : Shared) : List Value → List Value → Prop
  | nil : SameAll prog w A s [] []
  | cons {x y : Value} {r t : List Value} : Same prog w A s x y → SameAll prog w A s r t → SameAll prog w A s (x :: r) (y :: t)
theorem SameAll.len (h : SameAll prog w A s xs ys) : xs.length = ys.length := by
  induction h with
  | nil => rfl
  | cons _ _ ih => rw [List.length_cons, List.length_cons, ih]
theorem SameAll.get (h : SameAll prog w A s xs ys) : ∀ j (h1 : j < xs.length) (h2 : j < ys.length), Same prog w A s xs[j] ys[j] := by
  induction h with
  | nil => intro j h1; exact absurd h1 (Nat.not_lt_zero _)
  | cons h _ ih =>
    intro j h1 h2
    cases j with
    | zero => exact h
    | succ j => exact ih j (Nat.lt_of_succ_lt_succ h1) (Nat.lt_of_succ_lt_succ h2)
theorem ne_lists (hl : s.heap.IsList l xs.toArray) (hb : s.heap.IsList b ys.toArray) (hu : A.units < cLine) (he : SameAll prog w A.in1 s xs ys) (h : Q (.bool false) s) :
    wpAny (model prog w) A (compareOp .NotEq (.ref l) (.ref b)) Q E s := by
  obtain ⟨⟨cls, dd, data, sl⟩, ho, hc, n, hd⟩ := id hl
  obtain ⟨⟨cls2, dd2, data2, sl2⟩, ho2, hc2, n2, hd2⟩ := id hb
  simp only at hc hd hc2 hd2
  subst hc hd hc2 hd2
  have hsz : xs.toArray.size = ys.toArray.size := by simpa using he.len
  refine wpAny_richCompare_same_room (op := .NotEq) ⟨_, ho, rfl⟩ ⟨_, ho2, rfl⟩ F.slot_list_ne (call_meetsIn F.slot_list_ne ⟨_, ho, rfl⟩ F.entry_list_ne (F.args_list_ne_2 _ _) (same_ne hsz)
    ⟨ho, ho2, fun j h1 h2 => ?_, show Value.bool false ≠ Value.notImplemented ∧ Q (.bool false) s from ⟨(fun x => nomatch x), h⟩⟩) hu
  have := he.get j (by simpa using h1) (by simpa using h2)
  simpa using this
theorem Same.lists (hne : l ≠ b) (hl : s.heap.IsList l xs.toArray) (hb : s.heap.IsList b ys.toArray) (hu : A.units < cLine) (he : SameAll prog w A.in1 s xs ys) : Same prog w A s (.ref l) (.ref b) := fun E Q hq => by
  obtain ⟨⟨cls, dd, data, sl⟩, ho, hc, n, hd⟩ := id hl
  obtain ⟨⟨cls2, dd2, data2, sl2⟩, ho2, hc2, n2, hd2⟩ := id hb
  simp only at hc hd hc2 hd2
  subst hc hd hc2 hd2
  have hsz : xs.toArray.size = ys.toArray.size := by simpa using he.len
  unfold eqBool
  refine wpAny_holding ?_
  refine wpAny_ite_split (fun hab => absurd (by have := eq_of_beq hab; injection this) hne) (fun _ => ?_)
  refine wpAny_bind (wpAny_richCompare_same_room (op := .Eq) ⟨_, ho, rfl⟩ ⟨_, ho2, rfl⟩ F.slot_list_eq (call_meetsIn F.slot_list_eq ⟨_, ho, rfl⟩ F.entry_list_eq (F.args_list_eq_2 _ _) (same_eq hsz)
    ⟨ho, ho2, fun j h1 h2 => ?_, show Value.bool true ≠ Value.notImplemented ∧ wpAny (model prog w) A _ Q E s from ⟨(fun x => nomatch x), wpAny_truthy_bool hq⟩⟩) hu)
  have := he.get j (by simpa using h1) (by simpa using h2)
  simpa using this
theorem Same.dicts {oa ob : Obj} {ka kb : List (Str × Value)} {h₀ : Heap} {L : Addr} {news : List (Addr × Obj)} (hne : l ≠ b) (N : News h₀ L s.heap news) (pa : (l, oa) ∈ news) (pb : (b, ob) ∈ news) (da : oa.IsDictOf (PySem.strKind prog w) ka) (db : ob.IsDictOf (PySem.strKind prog w) kb)
    (la : (l == sysModules) = false) (lb : (b == sysModules) = false) (hl : ka.length = kb.length) (hu : A.units < cLine) (hits : KeqHits A.in1 s kb ka true) : Same prog w A s (.ref l) (.ref b) := fun E Q hq => by
  unfold eqBool
  refine wpAny_holding ?_
  refine wpAny_ite_split (fun hab => absurd (by have := eq_of_beq hab; injection this) hne) (fun _ => ?_)
  exact wpAny_bind (keq_pairs (knd := PySem.strKind prog w) N pa pb da db la lb hl hu hits (wpAny_truthy_bool hq))
theorem hits_one {k : Str} {x y : Value} (h : SeqAt.EqAt A s x y true) : KeqHits A s [(k, y)] [(k, x)] true := by
  have e : valueAt [(k, y)] k = some y := by simp [valueAt]
  exact KeqHits.hit (b := true) e h .nil
end
end Mine
namespace Mine
open PySem
theorem eqat_str {A : Around} {s : Shared} (x : Str) (t u : Tok) : SeqAt.EqAt A s (.str x t) (.str x u) true := by
  have := SeqAt.EqAt.str_str (A := A) (s := s) x t x u
  rw [beq_self_eq_true] at this
  exact this
end Mine
end
section
open PySem PySem.W PySem.Calls PySem.Spec PyProof.Rows
namespace Mine
def gallopS : Bool → Keyed → Array Keyed → Nat → Nat → Nat → StateT SortSt Sem (Option Nat) := sortPriv% PySem.Builtin.gallop
def mergeLoS : Array Keyed → Array Keyed → StateT SortSt Sem (Array Keyed) := sortPriv% PySem.Builtin.mergeLo
def mergeHiS : Array Keyed → Array Keyed → StateT SortSt Sem (Array Keyed) := sortPriv% PySem.Builtin.mergeHi
def countS : Nat → Nat → StateT SortSt Sem (Option Nat) := sortPriv% PySem.Builtin.countRun

def LtOk (prog : Program) (w : World) (A : Around) (s : Shared) (knd : SortKind) (κ : PyProof.Rows.KeyKind) : Prop :=
  ∀ (E : Value → Shared → Prop) (x y : Value) (a b : κ.α) (Q : Bool → Shared → Prop), κ.keyOf x = some a → κ.keyOf y = some b → Q (κ.blt a b) s → wpAny (model prog w) A (keyLt' knd x y) Q E s
structure SB (knd : SortKind) (a₀ : Array Keyed) (st : SortSt) : Prop where
  perm : (arrOf st).Perm a₀
  kind : kindOf st = knd
  failed : failedOf st = none
/-- the key of an item -/
def kk (κ : PyProof.Rows.KeyKind) (p : Keyed) : κ.α := (κ.keyOf p.1).getD κ.dflt
def Keyd (κ : PyProof.Rows.KeyKind) (p : Keyed) : Prop := κ.keyOf p.1 = some (kk κ p)
theorem keyd_of {κ : PyProof.Rows.KeyKind} {p : Keyed} (h : ∃ a, κ.keyOf p.1 = some a) : Keyd κ p := by
  obtain ⟨a, h⟩ := h; unfold Keyd kk; rw [h]; rfl
theorem KK_at {κ : PyProof.Rows.KeyKind} {xs : Array Keyed} {i : Nat} (h : i < xs.size) : KK κ xs i = kk κ xs[i] := by
  unfold KK; rw [getElem?_pos xs i h]; rfl
section
variable {prog : Program} {w : World} {A : Around} {E : Value → Shared → Prop} {s : Shared} {knd : SortKind} {κ : PyProof.Rows.KeyKind} {a₀ : Array Keyed}
theorem SB.size {st : SortSt} (h : SB knd a₀ st) : (arrOf st).size = a₀.size := h.perm.size_eq
theorem SB.setArr {st : SortSt} (h : SB knd a₀ st) {xs : Array Keyed} (hp : xs.Perm (arrOf st)) : SB knd a₀ (setArr st xs) := ⟨hp.trans h.perm, h.kind, h.failed⟩
theorem SB.keyd {st : SortSt} (h : SB knd a₀ st) (h0 : KeysOf κ a₀) : ∀ p ∈ (arrOf st).toList, Keyd κ p := fun p hp =>
  keyd_of (h0 p ((Array.perm_iff_toList_perm.mp h.perm).mem_iff.mp hp))
theorem lt_el {st : SortSt} {x y : Keyed} {Q : Option Bool → SortSt → Prop} (hO : LtOk prog w A s knd κ) (hk : kindOf st = knd) (hx : Keyd κ x) (hy : Keyd κ y) (h : Q (some (κ.blt (kk κ x) (kk κ y))) st) :
    wpS (model prog w) A E s (lt' x y) Q st := by
  rw [lt'_eq]
  refine wpS_bind (wpS_get ?_)
  rw [hk]
  refine wpS_bind (wpS_lift (wpAny_attempt (hO _ _ _ _ _ _ hx hy ⟨rfl, ?_⟩)))
  exact wpS_pure h
theorem elem_at {st : SortSt} {arr : Array Keyed} {i : Nat} {Q : Keyed → SortSt → Prop} (hi : i < arr.size) (h : Q arr[i] st) : wpS (model prog w) A E s (elem' arr i) Q st := by
  rw [elem'_eq, getElem?_pos arr i hi]
  exact wpS_pure h
theorem bind_elem {β : Type} {st : SortSt} {arr : Array Keyed} {i : Nat} {f : Keyed → StateT SortSt Sem β} {Q : β → SortSt → Prop} (hi : i < arr.size) (h : wpS (model prog w) A E s (f arr[i]) Q st) : wpS (model prog w) A E s (elem' arr i >>= f) Q st := wpS_bind (elem_at hi h)
theorem lt_at {st : SortSt} {i j : Nat} {Q : Option Bool → SortSt → Prop} (hO : LtOk prog w A s knd κ) (h0 : KeysOf κ a₀) (hB : SB knd a₀ st) (hi : i < a₀.size) (hj : j < a₀.size)
    (h : Q (some (κ.blt (KK κ (arrOf st) i) (KK κ (arrOf st) j))) st) : wpS (model prog w) A E s (ltAt' i j) Q st := by
  have hi' : i < (arrOf st).size := by rw [hB.size]; exact hi
  have hj' : j < (arrOf st).size := by rw [hB.size]; exact hj
  rw [ltAt'_eq]
  refine wpS_bind (wpS_get ?_)
  refine wpS_bind (elem_at hi' (wpS_bind (elem_at hj' (lt_el hO hB.kind (hB.keyd h0 _ (by simp)) (hB.keyd h0 _ (by simp)) ?_))))
  rw [KK_at hi', KK_at hj'] at h
  exact h

/-- beyond: the place's item goes ahead of the key -/
def Bey (κ : PyProof.Rows.KeyKind) (left : Bool) (key : Keyed) (arr : Array Keyed) (base i : Nat) : Bool :=
  if left then κ.blt (KK κ arr (base + i)) (kk κ key) else !κ.blt (kk κ key) (KK κ arr (base + i))
theorem gallop_S {left : Bool} {key : Keyed} {arr : Array Keyed} {base n hint : Nat} {st : SortSt} {Q : Option Nat → SortSt → Prop} (hO : LtOk prog w A s knd κ) (hk : kindOf st = knd) (hkey : Keyd κ key)
    (harr : ∀ p ∈ arr.toList, Keyd κ p) (hbase : base + n ≤ arr.size) (hh : hint < n) (hmono : ∀ i j, i ≤ j → j < n → Bey κ left key arr base j = true → Bey κ left key arr base i = true)
    (h : ∀ k, k ≤ n → (∀ i, i < k → Bey κ left key arr base i = true) → (∀ i, k ≤ i → i < n → Bey κ left key arr base i = false) → Q (some k) st) :
    wpS (model prog w) A E s (gallopS left key arr base n hint) Q st := by
  have bey : ∀ i (R : Option Bool → SortSt → Prop), i < n → R (some (Bey κ left key arr base i)) st → wpS (model prog w) A E s (do
      let x ← elem' arr (base + i)
      if left = true then lt' x key else do
        let r ← lt' key x
        pure (Option.map (fun x => !x) r)) R st := by
    intro i R hi hR
    have hb : base + i < arr.size := by lia
    refine wpS_bind (elem_at hb ?_)
    have hx : Keyd κ arr[base + i] := harr _ (by simp)
    unfold Bey at hR
    rw [KK_at hb] at hR
    cases left with
    | true =>
      simp only [if_true] at hR ⊢
      exact lt_el hO hk hx hkey hR
    | false =>
      simp only [Bool.false_eq_true, if_false] at hR ⊢
      exact wpS_bind (lt_el hO hk hkey hx (wpS_pure hR))
  refine wpS_bind (bey hint _ hh ?_)
  rcases hb : Bey κ left key arr base hint with _ | _
  focus
    simp only [Bool.false_eq_true, if_false]
    refine wpS_bind (wpS_mono (wpS_forRange (I := fun x c st' => st' = st ∧ ∃ l o, c = (none, l, o) ∧ l < o ∧ x < o ∧ l ≤ hint ∧ Bey κ left key arr base (hint - l) = false)
      (Q := fun c st' => st' = st ∧ ∃ l o, c = (none, l, o) ∧ l < o ∧ l ≤ hint ∧ Bey κ left key arr base (hint - l) = false ∧ (o < hint + 1 → Bey κ left key arr base (hint - o) = true)) ?_ ?_ ⟨rfl, 0, 1, rfl, by lia, by lia, by lia, hb⟩) ?_)
    · rintro x c st' _ hx ⟨rfl, l, o, rfl, h1, h2, h3, h4⟩
      dsimp only
      by_cases hge : o ≥ hint + 1
      · rw [if_pos hge]
        exact wpS_pure ⟨rfl, l, o, rfl, h1, h3, h4, fun h => by lia⟩
      · rw [if_neg hge]
        refine wpS_bind (bey _ _ (by lia) ?_)
        cases hb' : Bey κ left key arr base (hint - o) with
        | true =>
          simp only [if_true]
          exact wpS_pure ⟨rfl, l, o, rfl, h1, h3, h4, fun _ => hb'⟩
        | false =>
          simp only [Bool.false_eq_true, if_false]
          exact wpS_pure ⟨rfl, o, _, rfl, by lia, by lia, by lia, hb'⟩
    · rintro c st' ⟨rfl, l, o, rfl, h1, h2, h3, h4⟩
      exact ⟨rfl, l, o, rfl, h1, h3, h4, fun h => by lia⟩
    rintro c st' ⟨rfl, l, o, rfl, h1, h3, h4, h5⟩
    dsimp only
    have b1 : hint + 1 - min o (hint + 1) ≤ hint - l := by lia
    have b2 : hint - l ≤ n := by lia
    have b3 : ∀ i, i < hint + 1 - min o (hint + 1) → Bey κ left key arr base i = true := fun i hi => by
      by_cases ho : o < hint + 1
      · exact hmono i (hint - o) (by lia) (by lia) (h5 ho)
      · lia
    have b4 : ∀ i, hint - l ≤ i → i < n → Bey κ left key arr base i = false := fun i hi1 hi2 => by
      cases hb' : Bey κ left key arr base i with
      | false => rfl
      | true =>
        have := hmono (hint - l) i hi1 hi2 hb'
        rw [h4] at this; exact absurd this (by simp)
    generalize hint + 1 - min o (hint + 1) = lo at b1 b3 ⊢
    generalize hint - l = hi at b1 b2 b4 ⊢
  rotate_left
  focus
    simp only [if_true]
    refine wpS_bind (wpS_mono (wpS_forRange (I := fun x c st' => st' = st ∧ ∃ l o, c = (none, l, o) ∧ l < o ∧ x < o ∧ l < n - hint ∧ Bey κ left key arr base (hint + l) = true)
      (Q := fun c st' => st' = st ∧ ∃ l o, c = (none, l, o) ∧ l < o ∧ l < n - hint ∧ Bey κ left key arr base (hint + l) = true ∧ (o < n - hint → Bey κ left key arr base (hint + o) = false)) ?_ ?_ ⟨rfl, 0, 1, rfl, by lia, by lia, by lia, hb⟩) ?_)
    · rintro x c st' _ hx ⟨rfl, l, o, rfl, h1, h2, h3, h4⟩
      dsimp only
      by_cases hge : o ≥ n - hint
      · rw [if_pos hge]
        exact wpS_pure ⟨rfl, l, o, rfl, h1, h3, h4, fun h => by lia⟩
      · rw [if_neg hge]
        refine wpS_bind (bey _ _ (by lia) ?_)
        cases hb' : Bey κ left key arr base (hint + o) with
        | true =>
          simp only [Bool.not_true, Bool.false_eq_true, if_false]
          exact wpS_pure ⟨rfl, o, _, rfl, by lia, by lia, by lia, hb'⟩
        | false =>
          simp only [Bool.not_false, if_true]
          exact wpS_pure ⟨rfl, l, o, rfl, h1, h3, h4, fun _ => hb'⟩
    · rintro c st' ⟨rfl, l, o, rfl, h1, h2, h3, h4⟩
      exact ⟨rfl, l, o, rfl, h1, h3, h4, fun h => by lia⟩
    rintro c st' ⟨rfl, l, o, rfl, h1, h3, h4, h5⟩
    dsimp only
    have b1 : hint + l + 1 ≤ hint + min o (n - hint) := by lia
    have b2 : hint + min o (n - hint) ≤ n := by lia
    have b3 : ∀ i, i < hint + l + 1 → Bey κ left key arr base i = true := fun i hi => hmono i (hint + l) (by lia) (by lia) h4
    have b4 : ∀ i, hint + min o (n - hint) ≤ i → i < n → Bey κ left key arr base i = false := fun i hi1 hi2 => by
      by_cases ho : o < n - hint
      · cases hb' : Bey κ left key arr base i with
        | false => rfl
        | true =>
          have := hmono (hint + o) i (by lia) hi2 hb'
          rw [h5 ho] at this; exact absurd this (by simp)
      · lia
    generalize hint + l + 1 = lo at b1 b3 ⊢
    generalize hint + min o (n - hint) = hi at b1 b2 b4 ⊢
  all_goals
    refine wpS_bind (wpS_mono (wpS_forRange (I := fun x c st'' => st'' = st' ∧ ∃ l r, c = (none, l, r) ∧ l ≤ r ∧ r ≤ n ∧ r - l ≤ n - x ∧ (∀ i, i < l → Bey κ left key arr base i = true) ∧ (∀ i, r ≤ i → i < n → Bey κ left key arr base i = false))
      (Q := fun c st'' => st'' = st' ∧ ∃ l, c = (none, l, l) ∧ l ≤ n ∧ (∀ i, i < l → Bey κ left key arr base i = true) ∧ (∀ i, l ≤ i → i < n → Bey κ left key arr base i = false)) ?_ ?_ ⟨rfl, lo, hi, rfl, b1, b2, by lia, b3, b4⟩) ?_)
    · rintro x c st'' _ hx ⟨rfl, l, r, rfl, h1, h2, h3, h4, h5⟩
      dsimp only
      by_cases hge : l ≥ r
      · rw [if_pos hge]
        have : l = r := by lia
        subst this
        exact wpS_pure ⟨rfl, l, rfl, h2, h4, h5⟩
      · rw [if_neg hge]
        have hm : l + (r - l) / 2 < n := by lia
        refine wpS_bind (bey _ _ hm ?_)
        cases hb : Bey κ left key arr base (l + (r - l) / 2) with
        | true =>
          simp only [if_true]
          refine wpS_pure ⟨rfl, _, _, rfl, by lia, h2, by lia, fun i hi => ?_, h5⟩
          exact hmono i _ (by lia) hm hb
        | false =>
          simp only [Bool.false_eq_true, if_false]
          refine wpS_pure ⟨rfl, _, _, rfl, by lia, by lia, by lia, h4, fun i hi1 hi2 => ?_⟩
          cases hb' : Bey κ left key arr base i with
          | false => rfl
          | true => rw [hmono _ _ hi1 hi2 hb'] at hb; exact absurd hb (by simp)
    · rintro c st'' ⟨rfl, l, r, rfl, h1, h2, h3, h4, h5⟩
      have : l = r := by lia
      subst this
      exact ⟨rfl, l, rfl, h2, h4, h5⟩
    · rintro c st'' ⟨rfl, l, rfl, h2, h4, h5⟩
      exact wpS_pure (h l h2 h4 h5)
end
/-- what a merge has taken so far: i of X, j of Y -/
structure MInv (κ : PyProof.Rows.KeyKind) (X Y o : List Keyed) (i j : Nat) : Prop where
  perm : o.Perm (X.take i ++ Y.take j)
  srt : o.Pairwise fun p q => κ.kle (kk κ p) (kk κ q)
  bx : ∀ p ∈ o, ∀ q ∈ X.drop i, κ.kle (kk κ p) (kk κ q)
  bY : ∀ p ∈ o, ∀ q ∈ Y.drop j, κ.kle (kk κ p) (kk κ q)
def Good (κ : PyProof.Rows.KeyKind) (X Y r : List Keyed) : Prop := r.Perm (X ++ Y) ∧ r.Pairwise fun p q => κ.kle (kk κ p) (kk κ q)
section
variable {κ : PyProof.Rows.KeyKind} {X Y o : List Keyed} {i j : Nat}
theorem MInv.swap (h : MInv κ X Y o i j) : MInv κ Y X o j i := ⟨h.perm.trans List.perm_append_comm, h.srt, h.bY, h.bx⟩
theorem Good.swap {r : List Keyed} (h : Good κ X Y r) : Good κ Y X r := ⟨h.1.trans List.perm_append_comm, h.2⟩
theorem MInv.stepx (h : MInv κ X Y o i j) (hX : X.Pairwise fun p q => κ.kle (kk κ p) (kk κ q)) (k : Nat) (hle : ∀ p ∈ (X.drop i).take k, ∀ q ∈ Y.drop j, κ.kle (kk κ p) (kk κ q)) : MInv κ X Y (o ++ (X.drop i).take k) (i + k) j := by
  have hd : (X.drop i).Pairwise fun p q => κ.kle (kk κ p) (kk κ q) := hX.sublist (List.drop_sublist _ _)
  have hsplit := hd
  rw [← List.take_append_drop k (X.drop i), List.pairwise_append] at hsplit
  refine ⟨?_, ?_, ?_, ?_⟩
  · rw [List.take_add, List.append_assoc]
    refine (h.perm.append_right _).trans ?_
    rw [List.append_assoc]
    exact List.Perm.append_left _ List.perm_append_comm
  · rw [List.pairwise_append]
    exact ⟨h.srt, hsplit.1, fun p hp q hq => h.bx p hp q (List.mem_of_mem_take hq)⟩
  · intro p hp q hq
    rw [← List.drop_drop] at hq
    rcases List.mem_append.mp hp with hp | hp
    · exact h.bx p hp q (List.mem_of_mem_drop hq)
    · exact hsplit.2.2 p hp q hq
  · intro p hp q hq
    rcases List.mem_append.mp hp with hp | hp
    · exact h.bY p hp q hq
    · exact hle p hp q hq
theorem MInv.stepy (h : MInv κ X Y o i j) (hY : Y.Pairwise fun p q => κ.kle (kk κ p) (kk κ q)) (k : Nat) (hle : ∀ p ∈ (Y.drop j).take k, ∀ q ∈ X.drop i, κ.kle (kk κ p) (kk κ q)) : MInv κ X Y (o ++ (Y.drop j).take k) i (j + k) :=
  (h.swap.stepx hY k hle).swap
theorem MInv.endY (h : MInv κ X Y o X.length j) (hY : Y.Pairwise fun p q => κ.kle (kk κ p) (kk κ q)) : Good κ X Y (o ++ Y.drop j) := by
  refine ⟨?_, ?_⟩
  · have e := h.perm.append_right (Y.drop j)
    rw [List.append_assoc, List.take_append_drop, List.take_length] at e
    exact e
  · rw [List.pairwise_append]
    exact ⟨h.srt, hY.sublist (List.drop_sublist _ _), fun p hp q hq => h.bY p hp q hq⟩
/-- the rest of X, then the rest of Y -/
theorem MInv.done (h : MInv κ X Y o i j) (hX : X.Pairwise fun p q => κ.kle (kk κ p) (kk κ q)) (hY : Y.Pairwise fun p q => κ.kle (kk κ p) (kk κ q)) (hle : ∀ p ∈ X.drop i, ∀ q ∈ Y.drop j, κ.kle (kk κ p) (kk κ q)) : Good κ X Y (o ++ X.drop i ++ Y.drop j) := by
  by_cases hi : i ≤ X.length
  · have e : (X.drop i).take (X.length - i) = X.drop i := List.take_of_length_le (by rw [List.length_drop]; exact Nat.le_refl _)
    have h' := h.stepx hX (X.length - i) (by rw [e]; exact hle)
    rw [e, show i + (X.length - i) = X.length by lia] at h'
    exact h'.endY hY
  · have e : X.drop i = [] := List.drop_of_length_le (by lia)
    have h' : MInv κ X Y o X.length j := ⟨by rw [List.take_length]; have := h.perm; rwa [List.take_of_length_le (by lia)] at this, h.srt, fun p _ q hq => by simp at hq, h.bY⟩
    rw [e, List.append_nil]
    exact h'.endY hY
theorem MInv.last (h : MInv κ X Y o i j) (hX : X.Pairwise fun p q => κ.kle (kk κ p) (kk κ q)) (hY : Y.Pairwise fun p q => κ.kle (kk κ p) (kk κ q)) (hle : ∀ p ∈ Y.drop j, ∀ q ∈ X.drop i, κ.kle (kk κ p) (kk κ q)) : Good κ X Y (o ++ Y.drop j ++ X.drop i) :=
  (h.swap.done hY hX hle).swap
theorem head_le {p : Keyed} (hX : X.Pairwise fun p q => κ.kle (kk κ p) (kk κ q)) (hi : i < X.length) (h : κ.kle (kk κ p) (kk κ X[i])) : ∀ q ∈ X.drop i, κ.kle (kk κ p) (kk κ q) := by
  have hd : (X.drop i).Pairwise fun p q => κ.kle (kk κ p) (kk κ q) := hX.sublist (List.drop_sublist _ _)
  rw [List.drop_eq_getElem_cons hi] at hd ⊢
  intro q hq
  rcases List.mem_cons.mp hq with rfl | hq
  · exact h
  · exact KeyOrd.kle_trans h (List.rel_of_pairwise_cons hd hq)
theorem take_one (hi : i < X.length) : (X.drop i).take 1 = [X[i]] := by
  rw [List.drop_eq_getElem_cons hi]; rfl
end
theorem ext_rest (x : Array Keyed) (i : Nat) : (x.extract i).toList = x.toList.drop i := by
  rw [Array.toList_extract, List.extract_eq_take_drop]
  exact List.take_of_length_le (by rw [List.length_drop]; simp)
theorem ext_mid (x : Array Keyed) (i k : Nat) : (x.extract i (i + k)).toList = (x.toList.drop i).take k := by
  rw [Array.toList_extract, List.extract_eq_take_drop, show i + k - i = k by lia]
section
variable {κ : PyProof.Rows.KeyKind} {x y o : Array Keyed} {i j : Nat}
abbrev Sorted (κ : PyProof.Rows.KeyKind) (l : List Keyed) : Prop := l.Pairwise fun p q => κ.kle (kk κ p) (kk κ q)
theorem push_x (hM : MInv κ x.toList y.toList o.toList i j) (hX : Sorted κ x.toList) (hi : i < x.size) (hle : ∀ q ∈ y.toList.drop j, κ.kle (kk κ x[i]) (kk κ q)) : MInv κ x.toList y.toList (o.push x[i]).toList (i + 1) j := by
  have hi' : i < x.toList.length := by simpa using hi
  have e := take_one hi'
  have h := hM.stepx hX 1 (by rw [e]; intro p hp q hq; rw [List.mem_singleton.mp hp]; simpa using hle q hq)
  rw [e] at h
  simpa using h
theorem push_y (hM : MInv κ x.toList y.toList o.toList i j) (hY : Sorted κ y.toList) (hj : j < y.size) (hle : ∀ q ∈ x.toList.drop i, κ.kle (kk κ y[j]) (kk κ q)) : MInv κ x.toList y.toList (o.push y[j]).toList i (j + 1) :=
  (push_x hM.swap hY hj hle).swap
theorem app_x (hM : MInv κ x.toList y.toList o.toList i j) (hX : Sorted κ x.toList) (k : Nat) (hle : ∀ p ∈ (x.toList.drop i).take k, ∀ q ∈ y.toList.drop j, κ.kle (kk κ p) (kk κ q)) : MInv κ x.toList y.toList (o ++ x.extract i (i + k)).toList (i + k) j := by
  rw [Array.toList_append, ext_mid]; exact hM.stepx hX k hle
theorem app_y (hM : MInv κ x.toList y.toList o.toList i j) (hY : Sorted κ y.toList) (k : Nat) (hle : ∀ p ∈ (y.toList.drop j).take k, ∀ q ∈ x.toList.drop i, κ.kle (kk κ p) (kk κ q)) : MInv κ x.toList y.toList (o ++ y.extract j (j + k)).toList i (j + k) :=
  (app_x hM.swap hY k hle).swap
theorem done_ok (hM : MInv κ x.toList y.toList o.toList i j) (hX : Sorted κ x.toList) (hY : Sorted κ y.toList) (hd : x.size ≤ i ∨ y.size ≤ j) : Good κ x.toList y.toList (o ++ x.extract i ++ y.extract j).toList := by
  rw [Array.toList_append, Array.toList_append, ext_rest, ext_rest]
  refine hM.done hX hY fun p hp q hq => ?_
  rcases hd with h | h
  · rw [List.drop_of_length_le (by simpa using h)] at hp; simp at hp
  · rw [List.drop_of_length_le (by simpa using h)] at hq; simp at hq
theorem last_ok (hM : MInv κ x.toList y.toList o.toList i j) (hX : Sorted κ x.toList) (hY : Sorted κ y.toList) (hL : ∀ p ∈ y.toList, ∀ q ∈ x.toList.drop (x.size - 1), κ.kle (kk κ p) (kk κ q)) (hi : i + 1 = x.size) : Good κ x.toList y.toList (o ++ y.extract j ++ x.extract i).toList := by
  rw [Array.toList_append, Array.toList_append, ext_rest, ext_rest]
  exact hM.last hX hY fun p hp q hq => hL p (List.mem_of_mem_drop hp) q (by rw [show x.size - 1 = i by lia]; exact hq)
theorem head_arr {p : Keyed} (hX : Sorted κ x.toList) (hi : i < x.size) (h : κ.kle (kk κ p) (kk κ x[i])) : ∀ q ∈ x.toList.drop i, κ.kle (kk κ p) (kk κ q) :=
  head_le hX (by simpa using hi) (by simpa using h)
theorem sorted_at (hX : Sorted κ x.toList) (hij : i ≤ j) (hj : j < x.size) : κ.kle (KK κ x i) (KK κ x j) := by
  rw [KK_at (by lia), KK_at hj]
  by_cases e : i = j
  · subst e; exact KeyOrd.kle_refl _
  · have := List.pairwise_iff_getElem.mp hX i j (by simp; lia) (by simpa using hj) (by lia)
    simpa using this
theorem bey_mono {left : Bool} {key : Keyed} {base n : Nat} (hb : base + n ≤ x.size) (hX : Sorted κ x.toList) : ∀ i j, i ≤ j → j < n → Bey κ left key x base j = true → Bey κ left key x base i = true := by
  intro i j hij hj h
  have hs := sorted_at (i := base + i) (j := base + j) hX (by lia) (by lia)
  unfold Bey at h ⊢
  cases left with
  | true =>
    simp only [if_true] at h ⊢
    exact KeyOrd.klt_of_kle_of_klt hs h
  | false =>
    simp only [Bool.false_eq_true, if_false, Bool.not_eq_true'] at h ⊢
    exact KeyOrd.kle_trans hs h
theorem mem_take_drop {k : Nat} {p : Keyed} (h : p ∈ (x.toList.drop i).take k) : ∃ m, m < k ∧ ∃ hm : i + m < x.size, p = x[i + m] := by
  obtain ⟨m, hm, rfl⟩ := List.getElem_of_mem h
  have h1 : m < k := by rw [List.length_take] at hm; lia
  have h2 : i + m < x.size := by rw [List.length_take, List.length_drop] at hm; simp at hm; lia
  exact ⟨m, h1, h2, by simp⟩
end
def SS (st st' : SortSt) : Prop := kindOf st' = kindOf st ∧ arrOf st' = arrOf st ∧ pendingOf st' = pendingOf st ∧ failedOf st' = failedOf st
theorem SS.refl (st : SortSt) : SS st st := ⟨rfl, rfl, rfl, rfl⟩
theorem SS.trans {a b c : SortSt} (h : SS a b) (k : SS b c) : SS a c := ⟨k.1.trans h.1, k.2.1.trans h.2.1, k.2.2.1.trans h.2.2.1, k.2.2.2.trans h.2.2.2⟩
section
variable {prog : Program} {w : World} {A : Around} {E : Value → Shared → Prop} {s : Shared} {knd : SortKind} {κ : PyProof.Rows.KeyKind} {x y : Array Keyed}
def setGS : Nat → StateT SortSt Sem Unit := sortPriv% PySem.Builtin.setMinGallop
theorem set_gallop {g : Nat} {st : SortSt} {R : Unit → SortSt → Prop} (h : ∀ st2, SS st st2 → R () st2) : wpS (model prog w) A E s (setGS g) R st :=
  wpS_modify (h _ ⟨rfl, rfl, rfl, rfl⟩)
@[elab_as_elim] theorem elI4 {T1 T2 T3 T4 C : Type} {S : Prop} {g : T1 → T2 → T3 → T4 → C} {R : T1 → T2 → T3 → T4 → Prop} {motive : C → Prop} {c : C} (h : S ∧ ∃ a b d e, c = g a b d e ∧ R a b d e) (k : S → ∀ a b d e, R a b d e → motive (g a b d e)) : motive c := by
  obtain ⟨hS, a, b, d, e, rfl, hR⟩ := h
  exact k hS a b d e hR
@[elab_as_elim] theorem elI5 {T1 T2 T3 T4 T5 C : Type} {S : Prop} {g : T1 → T2 → T3 → T4 → T5 → C} {R : T1 → T2 → T3 → T4 → T5 → Prop} {motive : C → Prop} {c : C} (h : S ∧ ∃ a b d e f, c = g a b d e f ∧ R a b d e f) (k : S → ∀ a b d e f, R a b d e f → motive (g a b d e f)) : motive c := by
  obtain ⟨hS, a, b, d, e, f, rfl, hR⟩ := h
  exact k hS a b d e f hR
@[elab_as_elim] theorem elI6 {T1 T2 T3 T4 T5 T6 C : Type} {S : Prop} {g : T1 → T2 → T3 → T4 → T5 → T6 → C} {R : T1 → T2 → T3 → T4 → T5 → T6 → Prop} {motive : C → Prop} {c : C} (h : S ∧ ∃ a b d e f i, c = g a b d e f i ∧ R a b d e f i) (k : S → ∀ a b d e f i, R a b d e f i → motive (g a b d e f i)) : motive c := by
  obtain ⟨hS, a, b, d, e, f, i, rfl, hR⟩ := h
  exact k hS a b d e f i hR
@[elab_as_elim] theorem elQ5 {X Y T1 T2 T3 T4 T5 C : Type} {S : Prop} {q : X → Y → C} {G : X → Prop} {g : T1 → T2 → T3 → T4 → T5 → C} {R : T1 → T2 → T3 → T4 → T5 → Prop} {motive : C → Prop} {c : C} (h : S ∧ ((∃ x y, c = q x y ∧ G x) ∨ ∃ a b d e f, c = g a b d e f ∧ R a b d e f)) (k1 : S → ∀ x y, G x → motive (q x y)) (k : S → ∀ a b d e f, R a b d e f → motive (g a b d e f)) : motive c := by
  obtain ⟨hS, ⟨x, y, rfl, hG⟩ | ⟨a, b, d, e, f, rfl, hR⟩⟩ := h
  · exact k1 hS x y hG
  · exact k hS a b d e f hR
@[elab_as_elim] theorem elQ6 {X Y T1 T2 T3 T4 T5 T6 C : Type} {S : Prop} {q : X → Y → C} {G : X → Prop} {g : T1 → T2 → T3 → T4 → T5 → T6 → C} {R : T1 → T2 → T3 → T4 → T5 → T6 → Prop} {motive : C → Prop} {c : C} (h : S ∧ ((∃ x y, c = q x y ∧ G x) ∨ ∃ a b d e f i, c = g a b d e f i ∧ R a b d e f i)) (k1 : S → ∀ x y, G x → motive (q x y)) (k : S → ∀ a b d e f i, R a b d e f i → motive (g a b d e f i)) : motive c := by
  obtain ⟨hS, ⟨x, y, rfl, hG⟩ | ⟨a, b, d, e, f, i, rfl, hR⟩⟩ := h
  · exact k1 hS x y hG
  · exact k hS a b d e f i hR
@[elab_as_elim] theorem el2 {R : Nat → Nat → Prop} {motive : Nat → Nat → Prop} {i j : Nat} (hi : 1 ≤ i) (hj : 1 ≤ j) (h : R i j) (k : ∀ a b, R (a + 1) (b + 1) → motive (a + 1) (b + 1)) : motive i j := by
  obtain ⟨i, rfl⟩ : ∃ k, i = k + 1 := ⟨i - 1, by omega⟩
  obtain ⟨j, rfl⟩ : ∃ k, j = k + 1 := ⟨j - 1, by omega⟩
  exact k i j h
section
variable (κ : PyProof.Rows.KeyKind) (x y : Array Keyed) (st : SortSt)
abbrev LoG (r : Array Keyed) : Prop := Good κ x.toList y.toList r.toList
abbrev LoM (b : Nat) (o : Array Keyed) (i j : Nat) : Prop := MInv κ x.toList y.toList o.toList i j ∧ i + 1 < x.size ∧ j < y.size ∧ b ≤ i + j
abbrev LoI (t : Nat) (c : Option (Array Keyed) × Array Keyed × Nat × Nat × Nat) (st' : SortSt) : Prop := SS st st' ∧ ∃ o i j mg, c = (none, o, i, j, mg) ∧ LoM κ x y (t + 1) o i j
abbrev LoQ (c : Option (Array Keyed) × Array Keyed × Nat × Nat × Nat) (st' : SortSt) : Prop := SS st st' ∧ ∃ r rest, c = (some r, rest) ∧ LoG κ x y r
abbrev LoI2 (t : Nat) (c : Option (Array Keyed) × Array Keyed × Nat × Nat × Nat × Nat) (st' : SortSt) : Prop := SS st st' ∧ ∃ o i j ac bc, c = (none, o, i, j, ac, bc) ∧ LoM κ x y (t + 1) o i j
abbrev LoQ2 (t : Nat) (c : Option (Array Keyed) × Array Keyed × Nat × Nat × Nat × Nat) (st' : SortSt) : Prop := SS st st' ∧ ((∃ r rest, c = (some r, rest) ∧ LoG κ x y r) ∨ ∃ o i j ac bc, c = (none, o, i, j, ac, bc) ∧ LoM κ x y (t + 1) o i j)
abbrev LoI3 (t u : Nat) (c : Option (Array Keyed) × Array Keyed × Nat × Nat × Nat × Nat × Nat) (st' : SortSt) : Prop := SS st st' ∧ ∃ o i j mg ac bc, c = (none, o, i, j, mg, ac, bc) ∧ LoM κ x y (t + 1 + u) o i j
abbrev LoQ3 (t : Nat) (c : Option (Array Keyed) × Array Keyed × Nat × Nat × Nat × Nat × Nat) (st' : SortSt) : Prop := SS st st' ∧ ((∃ r rest, c = (some r, rest) ∧ LoG κ x y r) ∨ ∃ o i j mg ac bc, c = (none, o, i, j, mg, ac, bc) ∧ LoM κ x y (t + 1 + 1) o i j)
end
theorem wpS_pos {prog : Program} {w : World} {A : Around} {E : Value → Shared → Prop} {s : Shared} {σ α : Type} {c : Prop} [Decidable c] {a b : StateT σ Sem α} {Q : α → σ → Prop} {st : σ} (h : c) (k : wpS (model prog w) A E s a Q st) : wpS (model prog w) A E s (if c then a else b) Q st := by
  rw [if_pos h]; exact k
theorem wpS_neg {prog : Program} {w : World} {A : Around} {E : Value → Shared → Prop} {s : Shared} {σ α : Type} {c : Prop} [Decidable c] {a b : StateT σ Sem α} {Q : α → σ → Prop} {st : σ} (h : ¬ c) (k : wpS (model prog w) A E s b Q st) : wpS (model prog w) A E s (if c then a else b) Q st := by
  rw [if_neg h]; exact k
theorem wpS_ite {prog : Program} {w : World} {A : Around} {E : Value → Shared → Prop} {s : Shared} {σ α : Type} {c : Prop} [Decidable c] {a b : StateT σ Sem α} {Q : α → σ → Prop} {st : σ} (h1 : c → wpS (model prog w) A E s a Q st) (h2 : ¬ c → wpS (model prog w) A E s b Q st) : wpS (model prog w) A E s (if c then a else b) Q st := by
  split
  · exact h1 ‹_›
  · exact h2 ‹_›
theorem sub1 (n : Nat) : n + 1 - 1 = n := rfl
theorem share1 {T : Type} {G : T → Prop} {P : Prop} (main : (∀ x, G x) → P) (pf : ∀ x, G x) : P := main pf
theorem share3 {T1 T2 T3 : Type} {R : T1 → T2 → T3 → Prop} {G : T1 → T2 → T3 → Prop} {P : Prop} (main : (∀ a b c, R a b c → G a b c) → P) (pf : ∀ a b c, R a b c → G a b c) : P := main pf
set_option maxHeartbeats 2000000 in
theorem mergeLo_S {st : SortSt} {Q : Array Keyed → SortSt → Prop} (hO : LtOk prog w A s knd κ) (hk : kindOf st = knd) (kx : ∀ p ∈ x.toList, Keyd κ p) (ky : ∀ p ∈ y.toList, Keyd κ p)
    (hX : Sorted κ x.toList) (hY : Sorted κ y.toList) (hx1 : 1 ≤ x.size) (hy1 : 1 ≤ y.size) (h0 : κ.kle (kk κ y[0]) (kk κ x[0]))
    (hL : ∀ p ∈ y.toList, ∀ q ∈ x.toList.drop (x.size - 1), κ.kle (kk κ p) (kk κ q)) (h : ∀ r st', Good κ x.toList y.toList r.toList → SS st st' → Q r st') :
    wpS (model prog w) A E s (mergeLoS x y) Q st := by
  refine wpS_bind (wpS_lift (wpAny_rule ⟨rfl, ?_⟩))
  dsimp only
  refine bind_elem hy1 ?_
  have hM0 : MInv κ x.toList y.toList (#[] : Array Keyed).toList 0 0 := ⟨by simp, by simp, by simp, by simp⟩
  have hM1 : MInv κ x.toList y.toList (#[y[0]] : Array Keyed).toList 0 1 := push_y hM0 hY hy1 (head_arr hX hx1 h0)
  by_cases e1 : y.size = 1
  · refine wpS_pos (by simp [e1]) ?_
    exact wpS_pure (h _ _ (done_ok hM1 hX hY (.inr (by lia))) (SS.refl _))
  refine wpS_neg (by simp; lia) ?_
  by_cases e2 : x.size = 1
  · refine wpS_pos (by simp [e2]) ?_
    exact wpS_pure (h _ _ (last_ok hM1 hX hY hL (by lia)) (SS.refl _))
  refine wpS_neg (by simp; lia) ?_
  refine wpS_bind (wpS_get ?_)
  (try dsimp only)
  refine wpS_bind (wpS_mono (wpS_forRange
    (I := fun t c st' => LoI κ x y st t c st')
    (Q := fun c st' => LoQ κ x y st c st') ?_ ?_ ⟨SS.refl _, _, _, _, _, rfl, hM1, by lia, by lia, by lia⟩) ?_)
  · intro t c st' _ ht hI
    refine elI4 (c := c) hI fun hS o i j mg hR => ?_
    have hM := hR.1; have hi := hR.2.1; have hj := hR.2.2.1; have hc := hR.2.2.2
    (try dsimp only)
    refine wpS_bind (wpS_mono (wpS_forRange
      (I := fun _ c st' => LoI2 κ x y st t c st')
      (Q := fun c st' => LoQ2 κ x y st t c st')
      ?_ ?_ ⟨hS, _, _, _, _, _, rfl, hM, hi, hj, hc⟩) ?_)
    · intro u c st' _ hu hI
      refine elI5 (c := c) hI fun hS o i j ac bc hR => ?_
      have hM := hR.1; have hi := hR.2.1; have hj := hR.2.2.1; have hc := hR.2.2.2
      dsimp only
      refine bind_elem hj (bind_elem (by lia) (wpS_bind (lt_el hO (hS.1.trans hk) (ky _ (by simp)) (kx _ (by simp)) ?_)))
      dsimp only
      cases hlt : κ.blt (kk κ y[j]) (kk κ x[i]) with
      | true =>
        refine wpS_pos rfl ?_
        refine bind_elem hj ?_
        have hM' := push_y hM hY hj (head_arr hX (by lia) (KeyOrd.kle_of_klt hlt))
        by_cases e : j + 1 = y.size
        · refine wpS_pos (by simpa using e) ?_
          exact wpS_pure ⟨hS, .inl ⟨_, _, rfl, done_ok hM' hX hY (.inr (by lia))⟩⟩
        · refine wpS_neg (by simpa using e) ?_
          refine wpS_ite (fun _ => ?_) (fun _ => ?_)
          · exact wpS_pure ⟨hS, .inr ⟨_, _, _, _, _, rfl, hM', hi, by lia, by lia⟩⟩
          · exact wpS_pure ⟨hS, _, _, _, _, _, rfl, hM', hi, by lia, by lia⟩
      | false =>
        refine wpS_neg Bool.false_ne_true ?_
        refine bind_elem (by lia) ?_
        have hM' := push_x hM hX (by lia) (head_arr hY hj hlt)
        by_cases e : i + 1 + 1 = x.size
        · refine wpS_pos (by simpa using e) ?_
          exact wpS_pure ⟨hS, .inl ⟨_, _, rfl, last_ok hM' hX hY hL e⟩⟩
        · refine wpS_neg (by simpa using e) ?_
          refine wpS_ite (fun _ => ?_) (fun _ => ?_)
          · exact wpS_pure ⟨hS, .inr ⟨_, _, _, _, _, rfl, hM', by lia, hj, by lia⟩⟩
          · exact wpS_pure ⟨hS, _, _, _, _, _, rfl, hM', by lia, hj, by lia⟩
    · rintro c st' ⟨hS, o, i, j, ac, bc, rfl, hh⟩
      exact ⟨hS, .inr ⟨_, _, _, _, _, rfl, hh⟩⟩
    intro c st' hI
    refine elQ5 (c := c) hI (fun hS r rest hg => wpS_pure ⟨hS, _, _, rfl, hg⟩) fun hS o i j ac bc hR => ?_
    have hM := hR.1; have hi := hR.2.1; have hj := hR.2.2.1; have hc := hR.2.2.2
    dsimp only
    refine wpS_bind (wpS_lift (wpAny_rule ⟨rfl, ?_⟩))
    (try dsimp only)
    refine wpS_bind (wpS_mono (wpS_forRange
      (I := fun u c st' => LoI3 κ x y st t u c st')
      (Q := fun c st' => LoQ3 κ x y st t c st')
      ?_ ?_ ⟨hS, _, _, _, _, _, _, rfl, hM, hi, hj, hc⟩) ?_)
    · intro u c st' _ hu hI
      refine elI6 (c := c) hI fun hS o i j mg ac bc hR => ?_
      have hM := hR.1; have hi := hR.2.1; have hj := hR.2.2.1; have hc := hR.2.2.2
      dsimp only
      -- the count to gallop plays no part
      apply share1 (T := Nat)
      case main =>
        intro H
        by_cases hg0 : ¬ mg > 1
        · refine wpS_neg hg0 ?_
          generalize mg = mg0
          exact H mg0
        · refine wpS_pos (Decidable.not_not.mp hg0) ?_
          exact H (mg - 1)
      case pf =>
        intro mg'
        refine wpS_bind (set_gallop fun st2 hS2 => ?_)
        have hS1 : SS st st2 := hS.trans hS2
        refine bind_elem hj ?_
        refine wpS_bind (gallop_S (κ := κ) hO (hS1.1.trans hk) (ky _ (by simp)) kx (by lia) (by lia) (bey_mono (by lia) hX) fun k hkn hlo hhi => ?_)
        dsimp only
        have hlo' : ∀ p ∈ (x.toList.drop i).take k, ∀ q ∈ y.toList.drop j, κ.kle (kk κ p) (kk κ q) := by
          intro p hp
          obtain ⟨m, hm, hm2, rfl⟩ := mem_take_drop hp
          have hb := hlo m hm
          simp only [Bey, Bool.false_eq_true, if_false, Bool.not_eq_true', KK_at hm2] at hb
          exact head_arr hY hj hb
        have hhi' : ∀ hq : i + k < x.size, κ.kle (kk κ y[j]) (kk κ x[i + k]) := by
          intro hq
          have hb := hhi k (Nat.le_refl _) (by lia)
          simp only [Bey, Bool.false_eq_true, if_false, Bool.not_eq_false', KK_at hq] at hb
          exact KeyOrd.kle_of_klt hb
        have hMk := app_x hM hX k hlo'
        apply share3 (R := fun (o2 : Array Keyed) (i2 _kz : Nat) => MInv κ x.toList y.toList o2.toList i2 j ∧ i2 + 1 < x.size ∧ (∀ hq : i2 < x.size, κ.kle (kk κ y[j]) (kk κ x[i2])) ∧ t + 1 + u ≤ i2 + j)
        case main =>
          intro H
          rcases Nat.eq_zero_or_pos k with hk0 | hk0
          · refine wpS_neg (by lia) ?_
            generalize ho9 : o = o0
            generalize hi9 : i = i0
            generalize hk9 : k = k0
            exact H o0 i0 k0 (by subst ho9 hi9 hk9; subst hk0; exact ⟨hM, hi, fun hq => hhi' hq, hc⟩)
          refine wpS_pos hk0 ?_
          by_cases f1 : i + k + 1 = x.size
          · refine wpS_pos (by simpa using f1) ?_
            exact wpS_pure ⟨hS1, .inl ⟨_, _, rfl, last_ok hMk hX hY hL f1⟩⟩
          refine wpS_neg (by simpa using f1) ?_
          by_cases f2 : i + k = x.size
          · refine wpS_pos (by simpa using f2) ?_
            exact wpS_pure ⟨hS1, .inl ⟨_, _, rfl, done_ok hMk hX hY (.inl (by lia))⟩⟩
          refine wpS_neg (by simpa using f2) ?_
          exact H (o ++ x.extract i (i + k)) (i + k) k ⟨hMk, by lia, hhi', by lia⟩
        case pf =>
          rintro o2 i2 kz ⟨hM2, hi2, hle2, hc2⟩
          clear hM hi hc hhi' hlo' hMk hhi hlo hR
          refine bind_elem hj ?_
          have hM3 := push_y hM2 hY hj (head_arr hX (by lia) (hle2 (by lia)))
          by_cases f3 : j + 1 = y.size
          · refine wpS_pos (by simpa using f3) ?_
            exact wpS_pure ⟨hS1, .inl ⟨_, _, rfl, done_ok hM3 hX hY (.inr (by lia))⟩⟩
          refine wpS_neg (by simpa using f3) ?_
          refine bind_elem (by lia) ?_
          refine wpS_bind (gallop_S (κ := κ) hO (hS1.1.trans hk) (kx _ (by simp)) ky (by lia) (by lia) (bey_mono (by lia) hY) fun k' hkn' hlo3 hhi3 => ?_)
          dsimp only
          have hlo4 : ∀ p ∈ (y.toList.drop (j + 1)).take k', ∀ q ∈ x.toList.drop i2, κ.kle (kk κ p) (kk κ q) := by
            intro p hp
            obtain ⟨m, hm, hm2, rfl⟩ := mem_take_drop hp
            have hb := hlo3 m hm
            simp only [Bey, if_true, KK_at hm2] at hb
            exact head_arr hX (by lia) (KeyOrd.kle_of_klt hb)
          have hhi4 : ∀ hq : j + 1 + k' < y.size, κ.kle (kk κ (x[i2]'(by lia))) (kk κ y[j + 1 + k']) := by
            intro hq
            have hb := hhi3 k' (Nat.le_refl _) (by lia)
            simp only [Bey, if_true, KK_at hq] at hb
            exact hb
          have hMk := app_y hM3 hY k' hlo4
          apply share3 (R := fun (o3 : Array Keyed) (j3 _kz : Nat) => MInv κ x.toList y.toList o3.toList i2 j3 ∧ j3 < y.size ∧ (∀ hq : j3 < y.size, κ.kle (kk κ (x[i2]'(by lia))) (kk κ y[j3])) ∧ t + 1 + u + 1 ≤ i2 + j3)
          case main =>
            intro H
            rcases Nat.eq_zero_or_pos k' with hk1 | hk1
            · refine wpS_neg (by lia) ?_
              generalize hp3 : o2.push y[j] = o3
              generalize hq3 : j + 1 = j3
              generalize hk9 : k' = k0
              exact H o3 j3 k0 (by subst hp3 hq3 hk9; subst hk1; exact ⟨hM3, by lia, fun hq => hhi4 hq, by lia⟩)
            refine wpS_pos hk1 ?_
            by_cases f4 : j + 1 + k' = y.size
            · refine wpS_pos (by simpa using f4) ?_
              exact wpS_pure ⟨hS1, .inl ⟨_, _, rfl, done_ok hMk hX hY (.inr (by lia))⟩⟩
            refine wpS_neg (by simpa using f4) ?_
            exact H (o2.push y[j] ++ y.extract (j + 1) (j + 1 + k')) (j + 1 + k') k' ⟨hMk, by lia, hhi4, by lia⟩
          case pf =>
            rintro o3 j3 kz3 ⟨hM4, hj4, hle4, hc4⟩
            clear hM3 hhi4 hlo4 hMk hlo3 hhi3 f3
            refine bind_elem (by lia) ?_
            have hM5 := push_x hM4 hX (by lia) (head_arr hY hj4 (hle4 hj4))
            by_cases f5 : i2 + 1 + 1 = x.size
            · refine wpS_pos (by simpa using f5) ?_
              exact wpS_pure ⟨hS1, .inl ⟨_, _, rfl, last_ok hM5 hX hY hL f5⟩⟩
            refine wpS_neg (by simpa using f5) ?_
            refine wpS_ite (fun _ => ?_) (fun _ => ?_)
            · exact wpS_pure ⟨hS1, .inr ⟨_, _, _, _, _, _, rfl, hM5, by lia, hj4, by lia⟩⟩
            · exact wpS_pure ⟨hS1, _, _, _, _, _, _, rfl, hM5, by lia, hj4, by lia⟩
    · rintro c st' ⟨hS, o, i, j, mg, ac, bc, rfl, hM, hi, hj, hc⟩
      exact ⟨hS, .inr ⟨_, _, _, _, _, _, rfl, hM, hi, hj, by lia⟩⟩
    intro c st' hI
    refine elQ6 (c := c) hI (fun hS r rest hg => wpS_pure ⟨hS, _, _, rfl, hg⟩) fun hS o i j mg ac bc hR => ?_
    have hM := hR.1; have hi := hR.2.1; have hj := hR.2.2.1; have hc := hR.2.2.2
    dsimp only
    refine wpS_bind (wpS_modify ?_)
    exact wpS_pure ⟨hS.trans ⟨rfl, rfl, rfl, rfl⟩, _, _, _, _, rfl, hM, hi, hj, hc⟩
  · rintro c st' ⟨hS, o, i, j, mg, rfl, hM, hi, hj, hc⟩
    lia
  · rintro c st' ⟨hS, r, rest, rfl, hg⟩
    exact wpS_pure (h _ _ hg hS)
end
/-- what a merge from behind has taken so far: X from i, Y from j -/
structure HInv (κ : PyProof.Rows.KeyKind) (X Y o : List Keyed) (i j : Nat) : Prop where
  perm : o.Perm (X.drop i ++ Y.drop j)
  srt : Sorted κ o
  bx : ∀ p ∈ X.take i, ∀ q ∈ o, κ.kle (kk κ p) (kk κ q)
  bY : ∀ p ∈ Y.take j, ∀ q ∈ o, κ.kle (kk κ p) (kk κ q)
section
variable {κ : PyProof.Rows.KeyKind} {X Y o : List Keyed} {i j : Nat}
theorem HInv.swap (h : HInv κ X Y o i j) : HInv κ Y X o j i := ⟨h.perm.trans List.perm_append_comm, h.srt, h.bY, h.bx⟩
theorem HInv.stepx (h : HInv κ X Y o i j) (hX : Sorted κ X) (m : Nat) (hm : m ≤ i) (hle : ∀ p ∈ Y.take j, ∀ q ∈ (X.take i).drop m, κ.kle (kk κ p) (kk κ q)) : HInv κ X Y ((X.take i).drop m ++ o) m j := by
  have hd : Sorted κ (X.take i) := hX.sublist (List.take_sublist _ _)
  have hsplit := hd
  unfold Sorted at hsplit
  rw [← List.take_append_drop m (X.take i), List.pairwise_append] at hsplit
  have htt : (X.take i).take m = X.take m := by rw [List.take_take]; congr 1; lia
  refine ⟨?_, ?_, ?_, ?_⟩
  · have e : X.drop m = (X.take i).drop m ++ X.drop i := by
      by_cases hi : i ≤ X.length
      · have := List.take_append_drop i X
        conv => lhs; rw [← this, List.drop_append_of_le_length (by rw [List.length_take]; lia)]
      · have e0 : X.drop i = [] := List.drop_of_length_le (by lia)
        rw [e0, List.append_nil, List.take_of_length_le (by lia)]
    rw [e, List.append_assoc]
    exact List.Perm.append_left _ h.perm
  · show List.Pairwise _ _
    rw [List.pairwise_append]
    exact ⟨hsplit.2.1, h.srt, fun p hp q hq => h.bx p (List.mem_of_mem_drop hp) q hq⟩
  · intro p hp q hq
    rw [← htt] at hp
    rcases List.mem_append.mp hq with hq | hq
    · exact hsplit.2.2 p hp q hq
    · exact h.bx p (List.mem_of_mem_take hp) q hq
  · intro p hp q hq
    rcases List.mem_append.mp hq with hq | hq
    · exact hle p hp q hq
    · exact h.bY p hp q hq
theorem HInv.endX (h : HInv κ X Y o i 0) (hX : Sorted κ X) : Good κ X Y (X.take i ++ o) := by
  refine ⟨?_, ?_⟩
  · have e := h.perm.append_left (X.take i)
    rw [← List.append_assoc, List.take_append_drop] at e
    exact e
  · rw [List.pairwise_append]
    exact ⟨hX.sublist (List.take_sublist _ _), h.srt, h.bx⟩
theorem HInv.done (h : HInv κ X Y o i j) (hX : Sorted κ X) (hY : Sorted κ Y) (hle : ∀ p ∈ X.take i, ∀ q ∈ Y.take j, κ.kle (kk κ p) (kk κ q)) : Good κ X Y (X.take i ++ Y.take j ++ o) := by
  have h' := (h.swap.stepx hY 0 (Nat.zero_le _) (by simpa using hle)).swap.endX hX
  simpa using h'
end
section
variable {κ : PyProof.Rows.KeyKind} {x y o : Array Keyed} {i j : Nat}
theorem ext_cut (x : Array Keyed) (m i : Nat) : (x.extract m i).toList = (x.toList.take i).drop m := by
  rw [Array.toList_extract, List.extract_eq_take_drop, List.drop_take]
theorem happ_x (hM : HInv κ x.toList y.toList o.toList.reverse i j) (hX : Sorted κ x.toList) (m : Nat) (hm : m ≤ i) (hle : ∀ p ∈ y.toList.take j, ∀ q ∈ (x.toList.take i).drop m, κ.kle (kk κ p) (kk κ q)) : HInv κ x.toList y.toList (o ++ (x.extract m i).reverse).toList.reverse m j := by
  rw [Array.toList_append, List.reverse_append, Array.toList_reverse, List.reverse_reverse, ext_cut]
  exact hM.stepx hX m hm hle
theorem happ_y (hM : HInv κ x.toList y.toList o.toList.reverse i j) (hY : Sorted κ y.toList) (m : Nat) (hm : m ≤ j) (hle : ∀ p ∈ x.toList.take i, ∀ q ∈ (y.toList.take j).drop m, κ.kle (kk κ p) (kk κ q)) : HInv κ x.toList y.toList (o ++ (y.extract m j).reverse).toList.reverse i m :=
  (happ_x hM.swap hY m hm hle).swap
theorem cut_one (hi : i < x.size) : (x.toList.take (i + 1)).drop i = [x[i]] := by
  have hi' : i < x.toList.length := by simpa using hi
  rw [List.drop_take, List.drop_eq_getElem_cons hi', show i + 1 - i = 1 by lia]
  simp
theorem hpush_x (hM : HInv κ x.toList y.toList o.toList.reverse (i + 1) j) (hX : Sorted κ x.toList) (hi : i < x.size) (hle : ∀ p ∈ y.toList.take j, κ.kle (kk κ p) (kk κ x[i])) : HInv κ x.toList y.toList (o.push x[i]).toList.reverse i j := by
  have h := hM.stepx hX i (by lia) (by rw [cut_one hi]; intro p hp q hq; rw [List.mem_singleton.mp hq]; exact hle p hp)
  rw [cut_one hi] at h
  simpa using h
theorem hpush_y (hM : HInv κ x.toList y.toList o.toList.reverse i (j + 1)) (hY : Sorted κ y.toList) (hj : j < y.size) (hle : ∀ p ∈ x.toList.take i, κ.kle (kk κ p) (kk κ y[j])) : HInv κ x.toList y.toList (o.push y[j]).toList.reverse i j :=
  (hpush_x hM.swap hY hj hle).swap
theorem hdone_ok (hM : HInv κ x.toList y.toList o.toList.reverse i j) (hX : Sorted κ x.toList) (hY : Sorted κ y.toList) (hd : i = 0 ∨ j = 0) : Good κ x.toList y.toList (x.extract 0 i ++ y.extract 0 j ++ o.reverse).toList := by
  rw [Array.toList_append, Array.toList_append, ext_cut, ext_cut, Array.toList_reverse, List.drop_zero, List.drop_zero]
  refine hM.done hX hY fun p hp q hq => ?_
  rcases hd with rfl | rfl
  · simp at hp
  · simp at hq
theorem hfirst_ok (hM : HInv κ x.toList y.toList o.toList.reverse i 1) (hX : Sorted κ x.toList) (hY : Sorted κ y.toList) (h0 : ∀ p ∈ y.toList.take 1, ∀ q ∈ x.toList, κ.kle (kk κ p) (kk κ q)) : Good κ x.toList y.toList (y.extract 0 1 ++ x.extract 0 i ++ o.reverse).toList := by
  rw [Array.toList_append, Array.toList_append, ext_cut, ext_cut, Array.toList_reverse, List.drop_zero, List.drop_zero]
  exact (hM.swap.done hY hX fun p hp q hq => h0 p hp q (List.mem_of_mem_take hq)).swap
theorem tail_le {q : Keyed} (hX : Sorted κ x.toList) (hi : i < x.size) (h : κ.kle (kk κ x[i]) (kk κ q)) : ∀ p ∈ x.toList.take (i + 1), κ.kle (kk κ p) (kk κ q) := by
  intro p hp
  obtain ⟨m, hm, rfl⟩ := List.getElem_of_mem hp
  have h1 : m < i + 1 := by rw [List.length_take] at hm; lia
  have h2 := sorted_at (i := m) (j := i) hX (by lia) hi
  rw [KK_at (by lia), KK_at hi] at h2
  have e : (x.toList.take (i + 1))[m] = x[m]'(by lia) := by simp
  rw [e]
  exact KeyOrd.kle_trans h2 h
theorem mem_take {p : Keyed} (h : p ∈ x.toList.take i) : ∃ m, m < i ∧ ∃ hm : m < x.size, p = x[m] := by
  obtain ⟨m, hm, rfl⟩ := List.getElem_of_mem h
  have h1 : m < i := by rw [List.length_take] at hm; lia
  have h2 : m < x.size := by rw [List.length_take] at hm; simp at hm; lia
  exact ⟨m, h1, h2, by simp⟩
theorem mem_cut {m : Nat} {p : Keyed} (h : p ∈ (x.toList.take i).drop m) : ∃ k, m ≤ k ∧ k < i ∧ ∃ hk : k < x.size, p = x[k] := by
  rw [List.drop_take] at h
  obtain ⟨k, hk, hk2, rfl⟩ := mem_take_drop h
  exact ⟨m + k, by lia, by lia, hk2, rfl⟩
end
section
variable {prog : Program} {w : World} {A : Around} {E : Value → Shared → Prop} {s : Shared} {knd : SortKind} {κ : PyProof.Rows.KeyKind} {x y : Array Keyed}
set_option maxHeartbeats 2000000 in
theorem mergeHi_S {st : SortSt} {Q : Array Keyed → SortSt → Prop} (hO : LtOk prog w A s knd κ) (hk : kindOf st = knd) (kx : ∀ p ∈ x.toList, Keyd κ p) (ky : ∀ p ∈ y.toList, Keyd κ p)
    (hX : Sorted κ x.toList) (hY : Sorted κ y.toList) (hx1 : 1 ≤ x.size) (hy1 : 1 ≤ y.size) (h0 : ∀ p ∈ y.toList.take 1, ∀ q ∈ x.toList, κ.kle (kk κ p) (kk κ q))
    (hL : ∀ p ∈ y.toList, κ.kle (kk κ p) (kk κ (x[x.size - 1]'(by lia)))) (h : ∀ r st', Good κ x.toList y.toList r.toList → SS st st' → Q r st') :
    wpS (model prog w) A E s (mergeHiS x y) Q st := by
  refine wpS_bind (wpS_lift (wpAny_rule ⟨rfl, ?_⟩))
  dsimp only
  refine bind_elem (by lia) ?_
  have hM0 : HInv κ x.toList y.toList (#[] : Array Keyed).toList.reverse (x.size - 1 + 1) y.size :=
    ⟨by rw [List.drop_of_length_le (by simp; lia), List.drop_of_length_le (by simp)]; simp, by simp, by simp, by simp⟩
  have hM1 : HInv κ x.toList y.toList (#[x[x.size - 1]'(by lia)] : Array Keyed).toList.reverse (x.size - 1) y.size := hpush_x hM0 hX (by lia) (fun p hp => hL p (List.mem_of_mem_take hp))
  by_cases e1 : x.size - 1 = 0
  · refine wpS_pos (by simpa using e1) ?_
    exact wpS_pure (h _ _ (hdone_ok hM1 hX hY (.inl e1)) (SS.refl _))
  refine wpS_neg (by simpa using e1) ?_
  by_cases e2 : y.size = 1
  · refine wpS_pos (by simpa using e2) ?_
    refine wpS_pure (h _ _ ?_ (SS.refl _))
    have hM1' := hM1
    rw [e2] at hM1' ⊢
    exact hfirst_ok hM1' hX hY h0
  refine wpS_neg (by simpa using e2) ?_
  refine wpS_bind (wpS_get ?_)
  (try dsimp only)
  refine wpS_bind (wpS_mono (wpS_forRange
    (I := fun t c st' => SS st st' ∧ ∃ o i j mg, c = (none, i, j, o, mg) ∧ HInv κ x.toList y.toList (o : Array Keyed).toList.reverse i j ∧ 1 ≤ i ∧ i ≤ x.size ∧ 2 ≤ j ∧ j ≤ y.size ∧ t + 1 + i + j ≤ x.size + y.size)
    (Q := fun c st' => SS st st' ∧ ∃ r rest, c = (some r, rest) ∧ Good κ x.toList y.toList (r : Array Keyed).toList) ?_ ?_ ⟨SS.refl _, _, _, _, _, rfl, hM1, by lia, by lia, by lia, by lia, by lia⟩) ?_)
  · intro t c st' _ ht hI
    refine elI4 (c := c) hI fun hS o i j mg hR => ?_
    have hM := hR.1; have hi := hR.2.1; have hi' := hR.2.2.1; have hj := hR.2.2.2.1; have hj' := hR.2.2.2.2.1; have hc := hR.2.2.2.2.2
    (try dsimp only)
    refine wpS_bind (wpS_mono (wpS_forRange
      (I := fun _ c st' => SS st st' ∧ ∃ o i j ac bc, c = (none, i, j, o, ac, bc) ∧ HInv κ x.toList y.toList (o : Array Keyed).toList.reverse i j ∧ 1 ≤ i ∧ i ≤ x.size ∧ 2 ≤ j ∧ j ≤ y.size ∧ t + 1 + i + j ≤ x.size + y.size)
      (Q := fun c st' => SS st st' ∧ ((∃ r rest, c = (some r, rest) ∧ Good κ x.toList y.toList (r : Array Keyed).toList) ∨ ∃ o i j ac bc, c = (none, i, j, o, ac, bc) ∧ HInv κ x.toList y.toList (o : Array Keyed).toList.reverse i j ∧ 1 ≤ i ∧ i ≤ x.size ∧ 2 ≤ j ∧ j ≤ y.size ∧ t + 1 + i + j ≤ x.size + y.size))
      ?_ ?_ ⟨hS, _, _, _, _, _, rfl, hM, hi, hi', hj, hj', hc⟩) ?_)
    · intro u c st' _ hu hI
      refine elI5 (c := c) hI fun hS o i j ac bc hR => ?_
      refine el2 (i := i) (j := j) (R := fun i j => HInv κ x.toList y.toList (o : Array Keyed).toList.reverse i j ∧ 1 ≤ i ∧ i ≤ x.size ∧ 2 ≤ j ∧ j ≤ y.size ∧ t + 1 + i + j ≤ x.size + y.size) hR.2.1 (Nat.le_trans (by decide) hR.2.2.2.1) hR fun i j hR => ?_
      have hM := hR.1; have hi := hR.2.1; have hi' := hR.2.2.1; have hj := hR.2.2.2.1; have hj' := hR.2.2.2.2.1; have hc := hR.2.2.2.2.2
      dsimp only
      dsimp +instances only [sub1]
      refine bind_elem (by lia) (bind_elem (by lia) (wpS_bind (lt_el hO (hS.1.trans hk) (ky _ (by simp)) (kx _ (by simp)) ?_)))
      dsimp only
      cases hlt : κ.blt (kk κ y[j]) (kk κ x[i]) with
      | true =>
        refine wpS_pos rfl ?_
        refine bind_elem (by lia) ?_
        have hM' := hpush_x hM hX (by lia) (tail_le hY (by lia) (KeyOrd.kle_of_klt hlt))
        by_cases e : i = 0
        · refine wpS_pos (by simpa using e) ?_
          exact wpS_pure ⟨hS, .inl ⟨_, _, rfl, hdone_ok hM' hX hY (.inl e)⟩⟩
        · refine wpS_neg (by simpa using e) ?_
          refine wpS_ite (fun _ => ?_) (fun _ => ?_)
          · exact wpS_pure ⟨hS, .inr ⟨_, _, _, _, _, rfl, hM', by lia, by lia, hj, hj', by lia⟩⟩
          · exact wpS_pure ⟨hS, _, _, _, _, _, rfl, hM', by lia, by lia, hj, hj', by lia⟩
      | false =>
        refine wpS_neg Bool.false_ne_true ?_
        refine bind_elem (by lia) ?_
        have hM' := hpush_y hM hY (by lia) (tail_le hX (by lia) hlt)
        by_cases e : j = 1
        · refine wpS_pos (by simpa using e) ?_
          subst e
          exact wpS_pure ⟨hS, .inl ⟨_, _, rfl, hfirst_ok hM' hX hY h0⟩⟩
        · refine wpS_neg (by simpa using e) ?_
          refine wpS_ite (fun _ => ?_) (fun _ => ?_)
          · exact wpS_pure ⟨hS, .inr ⟨_, _, _, _, _, rfl, hM', hi, hi', by lia, by lia, by lia⟩⟩
          · exact wpS_pure ⟨hS, _, _, _, _, _, rfl, hM', hi, hi', by lia, by lia, by lia⟩
    · rintro c st' ⟨hS, o, i, j, ac, bc, rfl, hh⟩
      exact ⟨hS, .inr ⟨_, _, _, _, _, rfl, hh⟩⟩
    intro c st' hI
    refine elQ5 (c := c) hI (fun hS r rest hg => wpS_pure ⟨hS, _, _, rfl, hg⟩) fun hS o i j ac bc hR => ?_
    have hM := hR.1; have hi := hR.2.1; have hi' := hR.2.2.1; have hj := hR.2.2.2.1; have hj' := hR.2.2.2.2.1; have hc := hR.2.2.2.2.2
    dsimp only
    refine wpS_bind (wpS_lift (wpAny_rule ⟨rfl, ?_⟩))
    (try dsimp only)
    refine wpS_bind (wpS_mono (wpS_forRange
      (I := fun u c st' => SS st st' ∧ ∃ o i j mg ac bc, c = (none, i, j, o, mg, ac, bc) ∧ HInv κ x.toList y.toList (o : Array Keyed).toList.reverse i j ∧ 1 ≤ i ∧ i ≤ x.size ∧ 2 ≤ j ∧ j ≤ y.size ∧ t + 1 + u + i + j ≤ x.size + y.size)
      (Q := fun c st' => SS st st' ∧ ((∃ r rest, c = (some r, rest) ∧ Good κ x.toList y.toList (r : Array Keyed).toList) ∨ ∃ o i j mg ac bc, c = (none, i, j, o, mg, ac, bc) ∧ HInv κ x.toList y.toList (o : Array Keyed).toList.reverse i j ∧ 1 ≤ i ∧ i ≤ x.size ∧ 2 ≤ j ∧ j ≤ y.size ∧ t + 1 + 1 + i + j ≤ x.size + y.size))
      ?_ ?_ ⟨hS, _, _, _, _, _, _, rfl, hM, hi, hi', hj, hj', hc⟩) ?_)
    · intro u c st' _ hu hI
      refine elI6 (c := c) hI fun hS o i j mg ac bc hR => ?_
      refine el2 (i := i) (j := j) (R := fun i j => HInv κ x.toList y.toList (o : Array Keyed).toList.reverse i j ∧ 1 ≤ i ∧ i ≤ x.size ∧ 2 ≤ j ∧ j ≤ y.size ∧ t + 1 + u + i + j ≤ x.size + y.size) hR.2.1 (Nat.le_trans (by decide) hR.2.2.2.1) hR fun i j hR => ?_
      have hM := hR.1; have hi := hR.2.1; have hi' := hR.2.2.1; have hj := hR.2.2.2.1; have hj' := hR.2.2.2.2.1; have hc := hR.2.2.2.2.2
      dsimp only
      dsimp +instances only [sub1]
      apply share1 (T := Nat)
      case main =>
        intro H
        by_cases hg0 : ¬ mg > 1
        · refine wpS_neg hg0 ?_
          generalize mg = mg0
          exact H mg0
        · refine wpS_pos (Decidable.not_not.mp hg0) ?_
          exact H (mg - 1)
      case pf =>
        intro mg'
        refine wpS_bind (set_gallop fun st2 hS2 => ?_)
        have hS1 : SS st st2 := hS.trans hS2
        refine bind_elem (by lia) ?_
        refine wpS_bind (gallop_S (κ := κ) hO (hS1.1.trans hk) (ky _ (by simp)) kx (by lia) (by lia) (bey_mono (by lia) hX) fun k hkn hlo hhi => ?_)
        dsimp only
        have hhi' : ∀ p ∈ y.toList.take (j + 1), ∀ q ∈ (x.toList.take (i + 1)).drop k, κ.kle (kk κ p) (kk κ q) := by
          intro p hp q hq
          obtain ⟨m, hm, hm1, hm2, rfl⟩ := mem_cut hq
          have hb := hhi m hm hm1
          simp only [Bey, Bool.false_eq_true, if_false, Bool.not_eq_false', Nat.zero_add, KK_at hm2] at hb
          exact tail_le hY (by lia) (KeyOrd.kle_of_klt hb) p hp
        have hlo' : ∀ p ∈ x.toList.take k, κ.kle (kk κ p) (kk κ (y[j]'(by lia))) := by
          intro p hp
          obtain ⟨m, hm, hm2, rfl⟩ := mem_take hp
          have hb := hlo m hm
          simp only [Bey, Bool.false_eq_true, if_false, Bool.not_eq_true', Nat.zero_add, KK_at hm2] at hb
          exact hb
        have hMk := happ_x hM hX k hkn hhi'
        apply share3 (R := fun (o2 : Array Keyed) (i3 _kz : Nat) => HInv κ x.toList y.toList o2.toList.reverse (i3 + 1) (j + 1) ∧ 1 ≤ i3 + 1 ∧ i3 + 1 ≤ x.size ∧ (∀ p ∈ x.toList.take (i3 + 1), κ.kle (kk κ p) (kk κ (y[j]'(by lia)))) ∧ t + 1 + u + (i3 + 1) + (j + 1) ≤ x.size + y.size)
        case main =>
          intro H
          rcases Nat.eq_zero_or_pos (i + 1 - k) with hk0 | hk0
          · have hke : k = i + 1 := by lia
            refine wpS_neg (by lia) ?_
            generalize ho9 : o = o0
            generalize hkz : i + 1 - k = kz0
            generalize hi9 : i = i0
            exact H o0 i0 kz0 (by subst ho9 hi9; exact ⟨hM, hi, hi', by rw [← hke]; exact hlo', hc⟩)
          refine wpS_pos hk0 ?_
          by_cases f1 : k = 0
          · refine wpS_pos (by simpa using f1) ?_
            exact wpS_pure ⟨hS1, .inl ⟨_, _, rfl, hdone_ok hMk hX hY (.inl f1)⟩⟩
          refine wpS_neg (by simpa using f1) ?_
          obtain ⟨i3, rfl⟩ : ∃ z, k = z + 1 := ⟨k - 1, by lia⟩
          dsimp +instances only [sub1]
          exact H (o ++ (x.extract (i3 + 1) (i + 1)).reverse) i3 (i + 1 - (i3 + 1)) ⟨hMk, by lia, by lia, hlo', by lia⟩
        case pf =>
          rintro o2 i3 kz ⟨hM2, hi2, hi2', hle2, hc2⟩
          clear hM hi hi' hc hhi' hlo' hMk hhi hlo
          refine bind_elem (by lia) ?_
          have hM3 := hpush_y hM2 hY (by lia) hle2
          by_cases f3 : j = 1
          · refine wpS_pos (by simpa using f3) ?_
            subst f3
            exact wpS_pure ⟨hS1, .inl ⟨_, _, rfl, hfirst_ok hM3 hX hY h0⟩⟩
          refine wpS_neg (by simpa using f3) ?_
          refine bind_elem (by lia) ?_
          refine wpS_bind (gallop_S (κ := κ) hO (hS1.1.trans hk) (kx _ (by simp)) ky (by lia) (by lia) (bey_mono (by lia) hY) fun m hmn hlo3 hhi3 => ?_)
          dsimp only
          have hhi4 : ∀ p ∈ x.toList.take (i3 + 1), ∀ q ∈ (y.toList.take j).drop m, κ.kle (kk κ p) (kk κ q) := by
            intro p hp q hq
            obtain ⟨r, hr, hr1, hr2, rfl⟩ := mem_cut hq
            have hb := hhi3 r hr hr1
            simp only [Bey, if_true, Nat.zero_add, KK_at hr2] at hb
            exact tail_le hX (by lia) hb p hp
          have hlo4 : ∀ p ∈ y.toList.take m, κ.kle (kk κ p) (kk κ (x[i3]'(by lia))) := by
            intro p hp
            obtain ⟨r, hr, hr2, rfl⟩ := mem_take hp
            have hb := hlo3 r hr
            simp only [Bey, if_true, Nat.zero_add, KK_at hr2] at hb
            exact KeyOrd.kle_of_klt hb
          have hMk := happ_y hM3 hY m hmn hhi4
          apply share3 (R := fun (o3 : Array Keyed) (m3 _kz : Nat) => HInv κ x.toList y.toList o3.toList.reverse (i3 + 1) m3 ∧ 2 ≤ m3 ∧ m3 ≤ y.size ∧ (∀ p ∈ y.toList.take m3, κ.kle (kk κ p) (kk κ (x[i3]'(by lia)))) ∧ t + 1 + (u + 1) + (i3 + 1) + m3 ≤ x.size + y.size)
          case main =>
            intro H
            rcases Nat.eq_zero_or_pos (j - m) with hk1 | hk1
            · have hme : m = j := by lia
              refine wpS_neg (by lia) ?_
              generalize hp9 : o2.push (y[j]'(by lia)) = o9
              generalize hz9 : j - m = z9
              generalize hj9 : j = j9
              exact H o9 j9 z9 (by subst hp9 hj9; exact ⟨hM3, by lia, by lia, by rw [← hme]; exact hlo4, by lia⟩)
            refine wpS_pos hk1 ?_
            by_cases f4 : m = 1
            · refine wpS_pos (by simpa using f4) ?_
              subst f4
              exact wpS_pure ⟨hS1, .inl ⟨_, _, rfl, hfirst_ok hMk hX hY h0⟩⟩
            refine wpS_neg (by simpa using f4) ?_
            by_cases f5 : m = 0
            · refine wpS_pos (by simpa using f5) ?_
              exact wpS_pure ⟨hS1, .inl ⟨_, _, rfl, hdone_ok hMk hX hY (.inr f5)⟩⟩
            refine wpS_neg (by simpa using f5) ?_
            exact H (o2.push (y[j]'(by lia)) ++ (y.extract m j).reverse) m (j - m) ⟨hMk, by lia, by lia, hlo4, by lia⟩
          case pf =>
            rintro o3 m3 kz3 ⟨hM4, hj4, hj4', hle4, hc4⟩
            clear hMk hhi4 hlo3 hhi3 hlo4
            refine bind_elem (by lia) ?_
            have hM5 := hpush_x hM4 hX (by lia) hle4
            by_cases f6 : i3 = 0
            · refine wpS_pos (by simpa using f6) ?_
              exact wpS_pure ⟨hS1, .inl ⟨_, _, rfl, hdone_ok hM5 hX hY (.inl f6)⟩⟩
            refine wpS_neg (by simpa using f6) ?_
            refine wpS_ite (fun _ => ?_) (fun _ => ?_)
            · exact wpS_pure ⟨hS1, .inr ⟨_, _, _, _, _, _, rfl, hM5, by lia, by lia, hj4, hj4', by lia⟩⟩
            · exact wpS_pure ⟨hS1, _, _, _, _, _, _, rfl, hM5, by lia, by lia, hj4, hj4', by lia⟩
    · rintro c st' ⟨hS, o, i, j, mg, ac, bc, rfl, hM, hi, hi', hj, hj', hc⟩
      exact ⟨hS, .inr ⟨_, _, _, _, _, _, rfl, hM, hi, hi', hj, hj', by lia⟩⟩
    intro c st' hI
    refine elQ6 (c := c) hI (fun hS r rest hg => wpS_pure ⟨hS, _, _, rfl, hg⟩) fun hS o i j mg ac bc hR => ?_
    have hM := hR.1; have hi := hR.2.1; have hi' := hR.2.2.1; have hj := hR.2.2.2.1; have hj' := hR.2.2.2.2.1; have hc := hR.2.2.2.2.2
    (try dsimp only)
    refine wpS_bind (set_gallop fun st2 hS2 => ?_)
    exact wpS_pure ⟨hS.trans hS2, _, _, _, _, rfl, hM, hi, hi', hj, hj', hc⟩
  · rintro c st' ⟨hS, o, i, j, mg, rfl, hM, hi, hi', hj, hj', hc⟩
    lia
  · rintro c st' ⟨hS, r, rest, rfl, hg⟩
    exact wpS_pure (h _ _ hg hS)
end
end Mine
end
section
open PySem PySem.W PySem.Calls PySem.Spec PyProof.Rows
namespace Mine
@[elab_as_elim] theorem elE2 {T1 T2 C : Type} {g : T1 → T2 → C} {R : T1 → T2 → Prop} {motive : C → Prop} {c : C} (h : ∃ a b, c = g a b ∧ R a b) (k : ∀ a b, R a b → motive (g a b)) : motive c := by
  obtain ⟨a, b, rfl, hR⟩ := h
  exact k a b hR
@[elab_as_elim] theorem elE1 {T1 C D : Type} {g : T1 → C} {R : T1 → Prop} {motive : C → D → Prop} {c : C} {e e0 : D} (h : e = e0 ∧ ∃ a, c = g a ∧ R a) (k : ∀ a, R a → motive (g a) e0) : motive c e := by
  obtain ⟨rfl, a, rfl, hR⟩ := h
  exact k a hR
def SegS (κ : PyProof.Rows.KeyKind) (xs : Array Keyed) (lo hi : Nat) : Prop := ∀ i j, lo ≤ i → i ≤ j → j < hi → κ.kle (KK κ xs i) (KK κ xs j)
def SegD (κ : PyProof.Rows.KeyKind) (xs : Array Keyed) (lo hi : Nat) : Prop := ∀ i j, lo ≤ i → i ≤ j → j < hi → κ.kle (KK κ xs j) (KK κ xs i)
/-- as it stood below lo -/
def Kept (κ : PyProof.Rows.KeyKind) (lo : Nat) (st st' : SortSt) : Prop := (∀ k, k < lo → KK κ (arrOf st') k = KK κ (arrOf st) k) ∧ pendingOf st' = pendingOf st
section
variable {prog : Program} {w : World} {A : Around} {E : Value → Shared → Prop} {s : Shared} {knd : SortKind} {κ : PyProof.Rows.KeyKind} {a₀ : Array Keyed}
theorem Kept.refl (lo : Nat) (st : SortSt) : Kept κ lo st st := ⟨fun _ _ => rfl, rfl⟩
theorem Kept.trans {lo : Nat} {a b c : SortSt} (h : Kept κ lo a b) (k : Kept κ lo b c) : Kept κ lo a c := ⟨fun i hi => (k.1 i hi).trans (h.1 i hi), k.2.trans h.2⟩
theorem rev_S {i j : Nat} {st : SortSt} {R : Unit → SortSt → Prop} (h : R () (setArr st (mirror (arrOf st) i j ((j - i) / 2)))) : wpS (model prog w) A E s (reverseSlice' i j) R st := by
  rw [reverseSlice'_eq]; exact wpS_modify h
theorem SB.rev {st : SortSt} (h : SB knd a₀ st) (i j : Nat) : SB knd a₀ (PyProof.Rows.setArr st (mirror (arrOf st) i j ((j - i) / 2))) := h.setArr (mirror_perm _ _ _ _)
theorem Kept.rev {lo i j : Nat} (st : SortSt) (hj : j ≤ (arrOf st).size) (hi : lo ≤ i) : Kept κ lo st (setArr st (mirror (arrOf st) i j ((j - i) / 2))) :=
  ⟨fun k hk => by show KK κ (mirror _ _ _ _) k = _; rw [KK_mirror hj, if_neg (by lia)], rfl⟩
theorem rev_seg {xs : Array Keyed} {lo hi : Nat} (hj : hi ≤ xs.size) (h : SegD κ xs lo hi) : SegS κ (mirror xs lo hi ((hi - lo) / 2)) lo hi := by
  intro i j h1 h2 h3
  rw [KK_mirror hj, KK_mirror hj, if_pos (by lia), if_pos (by lia)]
  exact h _ _ (by lia) (by lia) (by lia)
theorem SegS.one {xs : Array Keyed} {lo : Nat} : SegS κ xs lo (lo + 1) := fun i j h1 h2 h3 => by
  have : i = j := by lia
  subst this; exact KeyOrd.kle_refl _
theorem SegS.grow {xs : Array Keyed} {lo x : Nat} (hx : 1 ≤ x) (h : SegS κ xs lo (lo + x)) (hl : κ.kle (KK κ xs (lo + x - 1)) (KK κ xs (lo + x))) : SegS κ xs lo (lo + (x + 1)) := fun i j h1 h2 h3 => by
  by_cases e : j < lo + x
  · exact h i j h1 h2 e
  · have : j = lo + x := by lia
    subst this
    by_cases e2 : i = lo + x
    · subst e2; exact KeyOrd.kle_refl _
    · exact KeyOrd.kle_trans (h i (lo + x - 1) h1 (by lia) (by lia)) hl
theorem SegD.grow {xs : Array Keyed} {lo x : Nat} (hx : 1 ≤ x) (h : SegD κ xs lo (lo + x)) (hl : κ.kle (KK κ xs (lo + x)) (KK κ xs (lo + x - 1))) : SegD κ xs lo (lo + (x + 1)) := fun i j h1 h2 h3 => by
  by_cases e : j < lo + x
  · exact h i j h1 h2 e
  · have : j = lo + x := by lia
    subst this
    by_cases e2 : i = lo + x
    · subst e2; exact KeyOrd.kle_refl _
    · exact KeyOrd.kle_trans hl (h i (lo + x - 1) h1 (by lia) (by lia))
theorem SegD.same {xs ys : Array Keyed} {lo hi : Nat} (h : SegD κ xs lo hi) (e : ∀ k, KK κ ys k = KK κ xs k) : SegD κ ys lo hi := fun i j h1 h2 h3 => by rw [e, e]; exact h i j h1 h2 h3

theorem binary_S {st : SortSt} {lo n ok : Nat} {Q : Bool → SortSt → Prop} (hO : LtOk prog w A s knd κ) (h0 : KeysOf κ a₀) (hn : lo + n ≤ a₀.size) (hok : ok ≤ n) (hB : SB knd a₀ st) (hs : SegS κ (arrOf st) lo (lo + ok))
    (h : ∀ st', SB knd a₀ st' → SegS κ (arrOf st') lo (lo + n) → Kept κ lo st st' → Q true st') : wpS (model prog w) A E s (binarySort' lo n ok) Q st := by
  rw [binarySort'_eq]
  refine wpS_bind (wpS_mono (wpS_forRange (I := fun k c st' => c = (none, ()) ∧ SB knd a₀ st' ∧ SegS κ (arrOf st') lo (lo + min k n) ∧ Kept κ lo st st')
    (Q := fun c st' => c = (none, ()) ∧ SB knd a₀ st' ∧ SegS κ (arrOf st') lo (lo + n) ∧ Kept κ lo st st') ?step ?fin ?init) ?post)
  case post =>
    rintro c st' ⟨rfl, hB', hs', hK⟩
    exact wpS_pure (h st' hB' hs' hK)
  case init =>
    refine ⟨rfl, hB, fun i j h1 h2 h3 => ?_, Kept.refl _ _⟩
    by_cases e : ok = 0
    · have : i = j := by lia
      subst this; exact KeyOrd.kle_refl _
    · exact hs i j h1 h2 (by lia)
  case fin =>
    rintro c st' ⟨hc, hB', hs', hK⟩
    refine ⟨hc, hB', ?_, hK⟩
    rwa [show min (max (max ok 1) n) n = n by lia] at hs'
  case step =>
    rintro k c st' hak hkn ⟨rfl, hB', hs', hK⟩
    rw [show min k n = k by lia] at hs'
    refine wpS_bind (wpS_mono (wpS_forRange (I := fun x c st'' => st'' = st' ∧ ∃ l r, c = (none, l, r) ∧ l ≤ r ∧ r ≤ k ∧ r - l ≤ k - x ∧
        (∀ i, i < l → κ.kle (KK κ (arrOf st') (lo + i)) (KK κ (arrOf st') (lo + k))) ∧ (∀ i, r ≤ i → i < k → κ.kle (KK κ (arrOf st') (lo + k)) (KK κ (arrOf st') (lo + i))))
      (Q := fun c st'' => st'' = st' ∧ ∃ l r, c = (none, l, r) ∧ l ≤ k ∧
        (∀ i, i < l → κ.kle (KK κ (arrOf st') (lo + i)) (KK κ (arrOf st') (lo + k))) ∧ (∀ i, l ≤ i → i < k → κ.kle (KK κ (arrOf st') (lo + k)) (KK κ (arrOf st') (lo + i)))) ?istep ?ifin ?iinit) ?ipost)
    case iinit => exact ⟨rfl, 0, k, rfl, by lia, by lia, by lia, fun i hi => by lia, fun i h1 h2 => by lia⟩
    case ifin =>
      rintro c st'' ⟨rfl, l, r, rfl, hlr, hrk, hm, hlo, hhi⟩
      have : l = r := by lia
      subst this
      exact ⟨rfl, l, l, rfl, hrk, hlo, hhi⟩
    case istep =>
      rintro x c st'' _ hxk ⟨rfl, l, r, rfl, hlr, hrk, hm, hlo, hhi⟩
      dsimp only
      by_cases hge : l ≥ r
      · rw [if_pos hge]
        have : l = r := by lia
        subst this
        exact wpS_pure ⟨rfl, l, l, rfl, hrk, hlo, hhi⟩
      · rw [if_neg hge]
        refine wpS_bind (lt_at hO h0 hB' (by lia) (by lia) ?_)
        cases hless : κ.blt (KK κ (arrOf st'') (lo + k)) (KK κ (arrOf st'') (lo + (l + r) / 2)) with
        | true =>
          simp only [if_true]
          refine wpS_pure ⟨rfl, l, (l + r) / 2, rfl, by lia, by lia, by lia, hlo, fun i h1 h2 => ?_⟩
          exact KeyOrd.kle_trans (KeyOrd.kle_of_klt hless) (hs' _ _ (by lia) (by lia) (by lia))
        | false =>
          simp only [Bool.false_eq_true, if_false]
          refine wpS_pure ⟨rfl, (l + r) / 2 + 1, r, rfl, by lia, by lia, by lia, fun i h1 => ?_, hhi⟩
          exact KeyOrd.kle_trans (hs' (lo + i) (lo + (l + r) / 2) (by lia) (by lia) (by lia)) hless
    case ipost =>
      rintro c st'' ⟨rfl, l, r, rfl, hlk, hlo, hhi⟩
      show wpS _ _ _ _ (do moveDown' (lo + k) (lo + l); pure (ForInStep.yield (none, ()))) _ _
      rw [moveDown'_eq]
      have hks : lo + k < (arrOf st'').size := by rw [hB'.size]; lia
      refine wpS_bind (wpS_modify (wpS_pure ⟨rfl, hB'.setArr (bubble_perm _ _ _), ?_, hK.trans ⟨fun z hz => ?_, rfl⟩⟩))
      · rw [show min (k + 1) n = k + 1 by lia]
        intro i j h1 h2 h3
        show κ.kle (KK κ (bubble (arrOf st'') (lo + k) (lo + k - (lo + l))) i) (KK κ (bubble (arrOf st'') (lo + k) (lo + k - (lo + l))) j)
        have hlo2 : ∀ i, lo ≤ i → i < lo + l → κ.kle (KK κ (arrOf st'') i) (KK κ (arrOf st'') (lo + k)) := fun i a b => by
          have := hlo (i - lo) (by lia); rwa [show lo + (i - lo) = i by lia] at this
        have hhi2 : ∀ i, lo + l ≤ i → i < lo + k → κ.kle (KK κ (arrOf st'') (lo + k)) (KK κ (arrOf st'') i) := fun i a b => by
          have := hhi (i - lo) (by lia) (by lia); rwa [show lo + (i - lo) = i by lia] at this
        rw [KK_bubble hks (by lia), KK_bubble hks (by lia), show lo + k - (lo + k - (lo + l)) = lo + l by lia]
        repeat' split
        all_goals first
          | (exfalso; lia)
          | exact KeyOrd.kle_refl _
          | exact hlo2 _ (by lia) (by lia)
          | exact hhi2 _ (by lia) (by lia)
          | exact hs' _ _ (by lia) (by lia) (by lia)
      · show KK κ (bubble (arrOf st'') (lo + k) (lo + k - (lo + l))) z = _
        rw [KK_bubble hks (by lia), if_neg (by lia), if_neg (by lia)]

set_option maxHeartbeats 1000000 in
theorem count_S {st : SortSt} {lo nrem : Nat} {Q : Option Nat → SortSt → Prop} (hO : LtOk prog w A s knd κ) (h0 : KeysOf κ a₀) (hn : lo + nrem ≤ a₀.size) (h1 : 1 ≤ nrem) (hB : SB knd a₀ st)
    (h : ∀ m st', SB knd a₀ st' → 1 ≤ m → m ≤ nrem → SegS κ (arrOf st') lo (lo + m) → Kept κ lo st st' → Q (some m) st') : wpS (model prog w) A E s (countRun' lo nrem) Q st := by
  rw [countRun'_eq]
  refine wpS_bind (wpS_mono (wpS_forRange (I := fun x c st' => st' = st ∧ c = (none, x) ∧ SegS κ (arrOf st) lo (lo + x) ∧ x ≤ nrem)
    (Q := fun c st' => st' = st ∧ ∃ m, c = (none, m) ∧ 1 ≤ m ∧ m ≤ nrem ∧ SegS κ (arrOf st) lo (lo + m) ∧ (m = nrem ∨ κ.klt (KK κ (arrOf st) (lo + m)) (KK κ (arrOf st) (lo + m - 1)))) ?_ ?_ ⟨rfl, rfl, SegS.one, h1⟩) ?_)
  · rintro x c st' hx hxn ⟨rfl, rfl, hs, _⟩
    dsimp only
    refine wpS_bind (lt_at hO h0 hB (by lia) (by lia) ?_)
    dsimp only
    cases hl : κ.blt (KK κ (arrOf st') (lo + x)) (KK κ (arrOf st') (lo + x - 1)) with
    | true =>
      simp only [if_true]
      exact wpS_pure ⟨rfl, x, rfl, hx, by lia, hs, .inr hl⟩
    | false =>
      simp only [Bool.false_eq_true, if_false]
      exact wpS_pure ⟨rfl, rfl, hs.grow hx hl, by lia⟩
  · rintro c st' ⟨rfl, rfl, hs, hle⟩
    exact ⟨rfl, max 1 nrem, rfl, by lia, by lia, hs, .inl (by lia)⟩
  intro c st' hI
  refine elE1 (c := c) (e := st') hI fun m hR => ?_
  have hm1 := hR.1; have hm2 := hR.2.1; have hs := hR.2.2.1; have hor := hR.2.2.2
  clear hI hR
  clear st'
  rename SortSt => st'
  dsimp only
  by_cases hmn : m = nrem
  · rw [if_pos (by simpa using hmn)]
    exact wpS_pure (h m _ hB hm1 hm2 hs (Kept.refl _ _))
  rw [if_neg (by simpa using hmn)]
  have hlt := hor.resolve_left hmn
  have hsz : lo + nrem ≤ (arrOf st').size := by rw [hB.size]; exact hn
  rcases Nat.lt_or_ge 1 m with hgt | hgt
  focus
    rw [if_pos hgt]
    refine wpS_bind (lt_at hO h0 hB (by lia) (by lia) ?_)
    dsimp only
    rcases hr : κ.blt (KK κ (arrOf st') lo) (KK κ (arrOf st') (lo + m - 1)) with _ | _
    rotate_left
    · simp only [if_true]
      exact wpS_pure (h m _ hB hm1 hm2 hs (Kept.refl _ _))
    simp only [Bool.false_eq_true, if_false]
    refine wpS_bind (rev_S ?_)
    have heq : ∀ k, lo ≤ k → k < lo + m → KK κ (arrOf st') k = KK κ (arrOf st') (lo + m - 1) := fun k a b => by
      have a1 := hs lo k (by lia) a b
      have a2 := hs k (lo + m - 1) a (by lia) (by lia)
      exact KeyOrd.kle_antisymm a2 (KeyOrd.kle_trans hr a1)
    have e2 : ∀ k, KK κ (mirror (arrOf st') lo (lo + m) ((lo + m - lo) / 2)) k = KK κ (arrOf st') k := KK_mirror_equal (by lia) heq
    have hD0 : SegD κ (arrOf st') lo (lo + m) := fun i j a b c => by rw [heq i a (by lia), heq j (by lia) c]; exact KeyOrd.kle_refl _
    have hD : SegD κ (arrOf (PyProof.Rows.setArr st' (mirror (arrOf st') lo (lo + m) ((lo + m - lo) / 2)))) lo (lo + (m + 1)) :=
      (hD0.grow hm1 (KeyOrd.kle_of_klt hlt)).same e2
    have hB2 := hB.rev lo (lo + m)
    have hK2 : Kept κ lo st' (PyProof.Rows.setArr st' (mirror (arrOf st') lo (lo + m) ((lo + m - lo) / 2))) := Kept.rev st' (by lia) (Nat.le_refl _)
    generalize PyProof.Rows.setArr st' (mirror (arrOf st') lo (lo + m) ((lo + m - lo) / 2)) = st2 at *
    clear e2 hD0 heq
  rotate_left
  focus
    rw [if_neg (by lia)]
    have hme : m = 1 := by lia
    obtain ⟨st2, hst2⟩ : ∃ z, z = st' := ⟨_, rfl⟩
    rw [← hst2]
    have hB2 : SB knd a₀ st2 := by rw [hst2]; exact hB
    have hK2 : Kept κ lo st' st2 := by rw [hst2]; exact Kept.refl _ _
    have hD : SegD κ (arrOf st2) lo (lo + (m + 1)) := by
      rw [hst2]
      refine SegD.grow hm1 (fun i j a b c => ?_) (KeyOrd.kle_of_klt hlt)
      have : i = j := by lia
      subst this; exact KeyOrd.kle_refl _
    clear hst2
  all_goals
    clear hs hor hlt
    refine wpS_bind (wpS_lift (wpAny_rule ⟨rfl, ?_⟩))
    refine wpS_bind (wpS_mono (wpS_forRange (I := fun x c st3 => ∃ neq, c = (none, x, neq) ∧ x ≤ nrem ∧ SB knd a₀ st3 ∧ Kept κ lo st' st3 ∧ SegD κ (arrOf st3) lo (lo + x) ∧ neq + 1 ≤ x ∧
        (∀ i, lo + x - (neq + 1) ≤ i → i < lo + x → KK κ (arrOf st3) i = KK κ (arrOf st3) (lo + x - 1)))
      (Q := fun c st3 => ∃ x neq, c = (none, x, neq) ∧ 1 ≤ x ∧ x ≤ nrem ∧ SB knd a₀ st3 ∧ Kept κ lo st' st3 ∧ SegD κ (arrOf st3) lo (lo + x) ∧ neq + 1 ≤ x ∧
        (∀ i, lo + x - (neq + 1) ≤ i → i < lo + x → KK κ (arrOf st3) i = KK κ (arrOf st3) (lo + x - 1))) ?_ ?_ ⟨0, rfl, by lia, hB2, hK2, hD, by lia, fun i a b => by congr 1; lia⟩) ?_)
    · rintro x c st3 hx hxn ⟨neq, rfl, _, hB3, hK3, hD3, hq, he⟩
      dsimp only
      have hsz3 : lo + nrem ≤ (arrOf st3).size := by rw [hB3.size]; exact hn
      refine wpS_bind (lt_at hO h0 hB3 (by lia) (by lia) ?_)
      dsimp only
      rcases hl : κ.blt (KK κ (arrOf st3) (lo + x)) (KK κ (arrOf st3) (lo + x - 1)) with _ | _
      rotate_left
      · simp only [if_true]
        by_cases hneq : neq > 0
        · rw [if_pos hneq]
          have e3 : ∀ k, KK κ (mirror (arrOf st3) (lo + x - (neq + 1)) (lo + x) ((lo + x - (lo + x - (neq + 1))) / 2)) k = KK κ (arrOf st3) k := KK_mirror_equal (by lia) he
          refine wpS_bind (rev_S (wpS_pure ⟨0, rfl, by lia, hB3.rev _ _, hK3.trans (Kept.rev st3 (by lia) (by lia)), (hD3.grow (by lia) (KeyOrd.kle_of_klt hl)).same e3, by lia, fun i a b => by congr 1; lia⟩))
        · rw [if_neg hneq]
          exact wpS_pure ⟨0, rfl, by lia, hB3, hK3, hD3.grow (by lia) (KeyOrd.kle_of_klt hl), by lia, fun i a b => by congr 1; lia⟩
      simp only [Bool.false_eq_true, if_false]
      refine wpS_bind (lt_at hO h0 hB3 (by lia) (by lia) ?_)
      dsimp only
      rcases hg : κ.blt (KK κ (arrOf st3) (lo + x - 1)) (KK κ (arrOf st3) (lo + x)) with _ | _
      rotate_left
      · simp only [if_true]
        exact wpS_pure ⟨x, neq, rfl, by lia, by lia, hB3, hK3, hD3, hq, he⟩
      simp only [Bool.false_eq_true, if_false]
      have heq : KK κ (arrOf st3) (lo + x) = KK κ (arrOf st3) (lo + x - 1) := KeyOrd.kle_antisymm hg hl
      refine wpS_pure ⟨neq + 1, rfl, by lia, hB3, hK3, hD3.grow (by lia) hg, by lia, fun i a b => ?_⟩
      rw [show lo + (x + 1) - 1 = lo + x by lia]
      by_cases hi : i = lo + x
      · rw [hi]
      · rw [heq]; exact he i (by lia) (by lia)
    · rintro c st3 ⟨neq, rfl, hle, hB3, hK3, hD3, hq, he⟩
      exact ⟨max (m + 1) nrem, neq, rfl, by lia, by lia, hB3, hK3, hD3, hq, he⟩
    intro c st3 hI
    refine elE2 (c := c) hI fun x neq hR => ?_
    have hx1 := hR.1; have hx2 := hR.2.1; have hB3 := hR.2.2.1; have hK3 := hR.2.2.2.1; have hD3 := hR.2.2.2.2.1; have hq := hR.2.2.2.2.2.1; have he := hR.2.2.2.2.2.2
    clear hI hR
    dsimp only
    have hsz3 : lo + nrem ≤ (arrOf st3).size := by rw [hB3.size]; exact hn
    rcases Nat.lt_or_ge 0 neq with hneq | hneq
    focus
      rw [if_pos hneq]
      refine wpS_bind (rev_S ?_)
      have e3 : ∀ k, KK κ (mirror (arrOf st3) (lo + x - (neq + 1)) (lo + x) ((lo + x - (lo + x - (neq + 1))) / 2)) k = KK κ (arrOf st3) k := KK_mirror_equal (by lia) he
      have hB4 := hB3.rev (lo + x - (neq + 1)) (lo + x)
      have hK4 := hK3.trans (Kept.rev (κ := κ) (i := lo + x - (neq + 1)) (j := lo + x) st3 (by lia) (by lia))
      have hD4 : SegD κ (arrOf (PyProof.Rows.setArr st3 (mirror (arrOf st3) (lo + x - (neq + 1)) (lo + x) ((lo + x - (lo + x - (neq + 1))) / 2)))) lo (lo + x) := hD3.same e3
      generalize PyProof.Rows.setArr st3 (mirror (arrOf st3) (lo + x - (neq + 1)) (lo + x) ((lo + x - (lo + x - (neq + 1))) / 2)) = st4 at *
      clear e3
    rotate_left
    focus
      rw [if_neg (by lia)]
      have hB4 := hB3
      have hK4 := hK3
      have hD4 := hD3
      clear hB3 hK3 hD3 he hsz3
      generalize st3 = st4 at *
    all_goals
      have hsz4 : lo + nrem ≤ (arrOf st4).size := by rw [hB4.size]; exact hn
      refine wpS_bind (rev_S ?_)
      have hB5 := hB4.rev lo (lo + x)
      have hK5 := hK4.trans (Kept.rev (κ := κ) (i := lo) (j := lo + x) st4 (by lia) (Nat.le_refl _))
      have hS5 : SegS κ (arrOf (PyProof.Rows.setArr st4 (mirror (arrOf st4) lo (lo + x) ((lo + x - lo) / 2)))) lo (lo + x) := rev_seg (by lia) hD4
      generalize PyProof.Rows.setArr st4 (mirror (arrOf st4) lo (lo + x) ((lo + x - lo) / 2)) = st5 at *
      refine wpS_bind (wpS_mono (wpS_forRange (I := fun z c st6 => st6 = st5 ∧ c = (none, z) ∧ SegS κ (arrOf st5) lo (lo + z) ∧ z ≤ nrem)
        (Q := fun c st6 => st6 = st5 ∧ ∃ m, c = (none, m) ∧ 1 ≤ m ∧ m ≤ nrem ∧ SegS κ (arrOf st5) lo (lo + m)) ?_ ?_ ⟨rfl, rfl, hS5, hx2⟩) ?_)
      · rintro z c st6 hz hzn ⟨rfl, rfl, hs6, _⟩
        dsimp only
        refine wpS_bind (lt_at hO h0 hB5 (by lia) (by lia) ?_)
        dsimp only
        rcases hl : κ.blt (KK κ (arrOf st6) (lo + z)) (KK κ (arrOf st6) (lo + z - 1)) with _ | _
        · simp only [Bool.false_eq_true, if_false]
          exact wpS_pure ⟨rfl, rfl, hs6.grow (by lia) hl, by lia⟩
        · simp only [if_true]
          exact wpS_pure ⟨rfl, z, rfl, by lia, by lia, hs6⟩
      · rintro c st6 ⟨rfl, rfl, hs6, hle⟩
        exact ⟨rfl, max x nrem, rfl, by lia, by lia, hs6⟩
      rintro c st6 ⟨rfl, m', rfl, hm1', hm2', hs6⟩
      dsimp only
      exact wpS_pure (h m' _ hB5 hm1' hm2' hs6 hK5)
end
section
variable {κ : PyProof.Rows.KeyKind} {x : Array Keyed}
theorem bey_seg {left : Bool} {key : Keyed} {base n : Nat} (hs : SegS κ x base (base + n)) : ∀ i j, i ≤ j → j < n → Bey κ left key x base j = true → Bey κ left key x base i = true := by
  intro i j hij hj h
  have hs := hs (base + i) (base + j) (by lia) (by lia) (by lia)
  unfold Bey at h ⊢
  cases left with
  | true =>
    simp only [if_true] at h ⊢
    exact KeyOrd.klt_of_kle_of_klt hs h
  | false =>
    simp only [Bool.false_eq_true, if_false, Bool.not_eq_true'] at h ⊢
    exact KeyOrd.kle_trans hs h
theorem SegS.list {lo hi : Nat} (hs : SegS κ x lo hi) (hh : hi ≤ x.size) : Sorted κ ((x.toList.take hi).drop lo) := by
  show List.Pairwise _ _
  rw [List.pairwise_iff_getElem]
  intro i j hi' hj' hij
  have h1 : lo + j < hi := by rw [List.length_drop, List.length_take] at hj'; lia
  have := hs (lo + i) (lo + j) (by lia) (by lia) h1
  rw [KK_at (by lia), KK_at (by lia)] at this
  simpa using this
theorem SegS.of_list (h : Sorted κ x.toList) : SegS κ x 0 x.size := by
  intro i j _ hij hj
  exact sorted_at h hij hj
theorem fold_sets (sa : Nat) : ∀ (l : List Keyed) (i : Nat) (arr : Array Keyed), sa + i + l.length ≤ arr.size →
    ((l.zipIdx i).foldl (fun a z => a.setIfInBounds (sa + z.2) z.1) arr).toList = arr.toList.take (sa + i) ++ l ++ arr.toList.drop (sa + i + l.length)
  | [], i, arr, _ => by simp
  | p :: l, i, arr, h => by
    rw [List.zipIdx_cons, List.foldl_cons, fold_sets sa l (i + 1) _ (by rw [Array.size_setIfInBounds]; simp only [List.length_cons] at h; lia), Array.toList_setIfInBounds]
    have hlt : sa + i < arr.toList.length := by simp only [List.length_cons] at h; simp; lia
    have e1 : (arr.toList.set (sa + i) p).take (sa + (i + 1)) = arr.toList.take (sa + i) ++ [p] := by
      rw [show sa + (i + 1) = sa + i + 1 by lia, List.take_set, List.take_add_one, List.getElem?_eq_getElem hlt]
      rw [List.set_append_right _ _ (by rw [List.length_take]; lia)]
      congr 1
      rw [List.length_take, show sa + i - min (sa + i) arr.toList.length = 0 by lia]
      rfl
    have e2 : (arr.toList.set (sa + i) p).drop (sa + (i + 1) + l.length) = arr.toList.drop (sa + i + (p :: l).length) := by
      rw [List.drop_set_of_lt (by lia)]
      congr 1; simp only [List.length_cons]; lia
    rw [e1, e2]
    simp
end
section
variable {prog : Program} {w : World} {A : Around} {E : Value → Shared → Prop} {s : Shared} {knd : SortKind} {κ : PyProof.Rows.KeyKind} {a₀ : Array Keyed}
theorem seg_join {xs : Array Keyed} {n1 n2 : Nat} (h1 : 1 ≤ n1) (h2 : 1 ≤ n2) (hs1 : SegS κ xs 0 n1) (hs2 : SegS κ xs n1 (n1 + n2)) (hm : κ.kle (KK κ xs (n1 - 1)) (KK κ xs n1)) : SegS κ xs 0 (n1 + n2) := by
  intro i j _ hij hj
  by_cases a : j < n1
  · exact hs1 i j (by lia) hij a
  · by_cases b : n1 ≤ i
    · exact hs2 i j b hij hj
    · exact KeyOrd.kle_trans (hs1 i (n1 - 1) (by lia) (by lia) (by lia)) (KeyOrd.kle_trans hm (hs2 n1 j (Nat.le_refl _) (by lia) hj))
/-- the list between two places cut out and put back in order -/
theorem back_good {T x y r : List Keyed} {k n1 nb : Nat} (hk : k ≤ n1) (hl : n1 + nb ≤ T.length) (hx : x = (T.take n1).drop k) (hy : y = (T.take (n1 + nb)).drop n1) (hg : Good κ x y r)
    (hs0 : Sorted κ (T.take k)) (hs3 : Sorted κ (T.drop (n1 + nb)))
    (h01 : ∀ p ∈ T.take k, ∀ q ∈ x, κ.kle (kk κ p) (kk κ q)) (h02 : ∀ p ∈ T.take k, ∀ q ∈ y, κ.kle (kk κ p) (kk κ q))
    (h13 : ∀ p ∈ x, ∀ q ∈ T.drop (n1 + nb), κ.kle (kk κ p) (kk κ q)) (h23 : ∀ p ∈ y, ∀ q ∈ T.drop (n1 + nb), κ.kle (kk κ p) (kk κ q)) (h03 : ∀ p ∈ T.take k, ∀ q ∈ T.drop (n1 + nb), κ.kle (kk κ p) (kk κ q)) :
    (T.take k ++ r ++ T.drop (k + r.length)).Perm T ∧ Sorted κ (T.take k ++ r ++ T.drop (k + r.length)) := by
  have hlen : r.length = (n1 - k) + nb := by
    rw [hg.1.length_eq, List.length_append, hx, hy, List.length_drop, List.length_take, List.length_drop, List.length_take]; lia
  have hd : k + r.length = n1 + nb := by lia
  rw [hd]
  have hT : T = T.take k ++ (x ++ y) ++ T.drop (n1 + nb) := by
    have e1 : T.take (n1 + nb) ++ T.drop (n1 + nb) = T := List.take_append_drop _ _
    have e2 : T.take n1 ++ y = T.take (n1 + nb) := by
      have := List.take_append_drop n1 (T.take (n1 + nb))
      rw [List.take_take, show min n1 (n1 + nb) = n1 by lia, ← hy] at this
      exact this
    have e3 : T.take k ++ x = T.take n1 := by
      have := List.take_append_drop k (T.take n1)
      rw [List.take_take, show min k n1 = k by lia, ← hx] at this
      exact this
    rw [← List.append_assoc, e3, e2, e1]
  refine ⟨?_, ?_⟩
  · conv => rhs; rw [hT]
    exact List.Perm.append_right _ (List.Perm.append_left _ hg.1)
  · have hm : ∀ q ∈ r, q ∈ x ∨ q ∈ y := fun q hq => List.mem_append.mp (hg.1.mem_iff.mp hq)
    show List.Pairwise _ _
    rw [List.append_assoc, List.pairwise_append, List.pairwise_append]
    refine ⟨hs0, ⟨hg.2, hs3, fun p hp q hq => ?_⟩, fun p hp q hq => ?_⟩
    · rcases hm p hp with h | h
      · exact h13 p h q hq
      · exact h23 p h q hq
    · rcases List.mem_append.mp hq with hq | hq
      · rcases hm q hq with h | h
        · exact h01 p hp q h
        · exact h02 p hp q h
      · exact h03 p hp q hq
end
section
variable {prog : Program} {w : World} {A : Around} {E : Value → Shared → Prop} {s : Shared} {knd : SortKind} {κ : PyProof.Rows.KeyKind} {a₀ : Array Keyed}
theorem modify_S {f : SortSt → SortSt} {st : SortSt} {R : PUnit → SortSt → Prop} (h : ∀ z, z = f st → R ⟨⟩ z) : wpS (model prog w) A E s (modify f : StateT SortSt Sem PUnit) R st := wpS_modify (h _ rfl)
theorem set_S {st st1 : SortSt} {R : PUnit → SortSt → Prop} (h : ∀ z, z = st1 → R ⟨⟩ z) : wpS (model prog w) A E s (set st1 : StateT SortSt Sem PUnit) R st := by
  unfold wpS
  show wpAny (model prog w) A (pure (PUnit.unit, st1)) _ E s
  exact wpAny_pure ⟨rfl, h _ rfl⟩
set_option maxHeartbeats 2000000 in
theorem mergeAt_S {st : SortSt} {n1 n2 p1 p2 : Nat} {Q : Bool → SortSt → Prop} (hO : LtOk prog w A s knd κ) (h0 : KeysOf κ a₀) (hB : SB knd a₀ st) (hp : pendingOf st = #[(0, n1, p1), (n1, n2, p2)])
    (hn : n1 + n2 = a₀.size) (h1 : 1 ≤ n1) (h2 : 1 ≤ n2) (hs1 : SegS κ (arrOf st) 0 n1) (hs2 : SegS κ (arrOf st) n1 (n1 + n2))
    (h : ∀ st', SB knd a₀ st' → pendingOf st' = #[(0, n1 + n2, p1)] → SegS κ (arrOf st') 0 (n1 + n2) → Q true st') : wpS (model prog w) A E s (mergeAt' 0) Q st := by
  refine wpS_bind (wpS_get ?_)
  have e0 : (pendingOf st)[0]? = some (0, n1, p1) := by rw [hp]; rfl
  have e1 : (pendingOf st)[0 + 1]? = some (n1, n2, p2) := by rw [hp]; rfl
  rw [e0, e1]
  dsimp only
  have hsz : (arrOf st).size = n1 + n2 := by rw [hB.size]; exact hn.symm
  have harr := hB.keyd h0
  refine wpS_bind (set_S fun st1 hst1 => ?_)
  have hp1 : ((pendingOf st).setIfInBounds 0 (0, n1 + n2, p1)).eraseIdxIfInBounds (0 + 1) = #[(0, n1 + n2, p1)] := by
    rw [hp]; simp [Array.eraseIdxIfInBounds]
  have hA1 : arrOf st1 = arrOf st := by rw [hst1]
  have hB1 : SB knd a₀ st1 := ⟨by rw [hA1]; exact hB.perm, by rw [hst1]; exact hB.kind, by rw [hst1]; exact hB.failed⟩
  have hP1 : pendingOf st1 = #[(0, n1 + n2, p1)] := by rw [hst1]; exact hp1
  clear hst1 hp1
  refine wpS_bind (elem_at (by rw [hsz]; lia) ?_)
  refine wpS_bind (gallop_S (κ := κ) hO hB1.kind (harr _ (by simp)) harr (by rw [hsz]; lia) (by lia) (bey_seg (by rw [Nat.zero_add]; exact hs1)) fun k hkn hlo hhi => ?_)
  dsimp only
  have key : ∀ i (hi : i < (arrOf st).size), KK κ (arrOf st) i = kk κ (arrOf st)[i] := fun i hi => KK_at hi
  have hlo' : ∀ i, i < k → κ.kle (KK κ (arrOf st) i) (KK κ (arrOf st) n1) := fun i hi => by
    have hb := hlo i hi
    simp only [Bey, Bool.false_eq_true, if_false, Bool.not_eq_true', Nat.zero_add] at hb
    rw [key n1 (by lia)]; exact hb
  by_cases f1 : n1 - k = 0
  · rw [if_pos (by simpa using f1)]
    refine wpS_pure (h _ hB1 hP1 ?_)
    rw [hA1]
    exact seg_join h1 h2 hs1 hs2 (hlo' _ (by lia))
  rw [if_neg (by simpa using f1)]
  have hlast : 0 + k + (n1 - k) - 1 = n1 - 1 := by lia
  rw [hlast]
  refine wpS_bind (elem_at (by rw [hsz]; lia) ?_)
  refine wpS_bind (gallop_S (κ := κ) hO hB1.kind (harr _ (by simp)) harr (by rw [hsz]; lia) (by lia) (bey_seg hs2) fun nb hnn hlo2 hhi2 => ?_)
  dsimp only
  have hhi2' : ∀ i, n1 + nb ≤ i → i < n1 + n2 → κ.kle (KK κ (arrOf st) (n1 - 1)) (KK κ (arrOf st) i) := fun i a b => by
    have hb := hhi2 (i - n1) (by lia) (by lia)
    simp only [Bey, if_true] at hb
    rw [show n1 + (i - n1) = i by lia] at hb
    rw [key (n1 - 1) (by lia)]; exact hb
  by_cases f2 : nb = 0
  · rw [if_pos (by simpa using f2)]
    refine wpS_pure (h _ hB1 hP1 ?_)
    rw [hA1]
    exact seg_join h1 h2 hs1 hs2 (hhi2' n1 (by lia) (by lia))
  rw [if_neg (by simpa using f2)]
  rw [Nat.zero_add]
  have hxl : ((arrOf st).extract k n1).toList = ((arrOf st).toList.take n1).drop k := ext_cut _ _ _
  have hyl : ((arrOf st).extract n1 (n1 + nb)).toList = ((arrOf st).toList.take (n1 + nb)).drop n1 := ext_cut _ _ _
  have sx : Sorted κ ((arrOf st).extract k n1).toList := by rw [hxl]; exact SegS.list (fun i j a b c => hs1 i j (by lia) b c) (by lia)
  have sy : Sorted κ ((arrOf st).extract n1 (n1 + nb)).toList := by rw [hyl]; exact SegS.list (fun i j a b c => hs2 i j a b (by lia)) (by lia)
  have kx : ∀ p ∈ ((arrOf st).extract k n1).toList, Keyd κ p := fun p hp => harr p (by rw [hxl] at hp; exact List.mem_of_mem_take (List.mem_of_mem_drop hp))
  have ky : ∀ p ∈ ((arrOf st).extract n1 (n1 + nb)).toList, Keyd κ p := fun p hp => harr p (by rw [hyl] at hp; exact List.mem_of_mem_take (List.mem_of_mem_drop hp))
  have zx : ((arrOf st).extract k n1).size = n1 - k := by rw [Array.size_extract]; lia
  have zy : ((arrOf st).extract n1 (n1 + nb)).size = nb := by rw [Array.size_extract]; lia
  have mx : ∀ p ∈ ((arrOf st).toList.take n1).drop k, ∃ i, k ≤ i ∧ i < n1 ∧ kk κ p = KK κ (arrOf st) i := fun p hp => by
    obtain ⟨i, a, b, c, rfl⟩ := mem_cut hp
    exact ⟨i, a, b, (key i c).symm⟩
  have my : ∀ p ∈ ((arrOf st).toList.take (n1 + nb)).drop n1, ∃ i, n1 ≤ i ∧ i < n1 + nb ∧ kk κ p = KK κ (arrOf st) i := fun p hp => by
    obtain ⟨i, a, b, c, rfl⟩ := mem_cut hp
    exact ⟨i, a, b, (key i c).symm⟩
  have m0 : ∀ p ∈ (arrOf st).toList.take k, ∃ i, i < k ∧ kk κ p = KK κ (arrOf st) i := fun p hp => by
    obtain ⟨i, a, c, rfl⟩ := mem_take hp
    exact ⟨i, a, (key i c).symm⟩
  have m3 : ∀ p ∈ (arrOf st).toList.drop (n1 + nb), ∃ i, n1 + nb ≤ i ∧ i < n1 + n2 ∧ kk κ p = KK κ (arrOf st) i := fun p hp => by
    have hp' : p ∈ ((arrOf st).toList.take (n1 + n2)).drop (n1 + nb) := by
      rw [List.take_of_length_le (by simp; lia)]; exact hp
    obtain ⟨i, a, b, c, rfl⟩ := mem_cut hp'
    exact ⟨i, a, b, (key i c).symm⟩
  -- the head of y ahead of all of x, the end of x behind all of y
  have hkx : κ.kle (KK κ (arrOf st) n1) (KK κ (arrOf st) k) := by
    have hb := hhi k (Nat.le_refl _) (by lia)
    simp only [Bey, Bool.false_eq_true, if_false, Bool.not_eq_false', Nat.zero_add] at hb
    rw [key n1 (by lia)]; exact KeyOrd.kle_of_klt hb
  have hyx : ∀ i, n1 ≤ i → i < n1 + nb → κ.kle (KK κ (arrOf st) i) (KK κ (arrOf st) (n1 - 1)) := fun i a b => by
    have hb := hlo2 (i - n1) (by lia)
    simp only [Bey, if_true] at hb
    rw [show n1 + (i - n1) = i by lia] at hb
    rw [key (n1 - 1) (by lia)]; exact KeyOrd.kle_of_klt hb
  have fin : ∀ (r : Array Keyed) (st2 : SortSt), Good κ ((arrOf st).extract k n1).toList ((arrOf st).extract n1 (n1 + nb)).toList r.toList → SS st1 st2 →
      ∀ st3 : SortSt, arrOf st3 = r.toList.zipIdx.foldl (fun a z => a.setIfInBounds (k + z.2) z.1) (arrOf st2) → kindOf st3 = kindOf st2 → pendingOf st3 = pendingOf st2 → failedOf st3 = failedOf st2 →
      SB knd a₀ st3 ∧ pendingOf st3 = #[(0, n1 + n2, p1)] ∧ SegS κ (arrOf st3) 0 (n1 + n2) := by
    intro r st2 hg hS st3 a3 b3 c3 d3
    have hrl : r.toList.length = (n1 - k) + nb := by
      rw [hg.1.length_eq, List.length_append]; simp only [Array.length_toList, zx, zy]
    have hA2 : arrOf st2 = arrOf st := hS.2.1.trans hA1
    have hfold := fold_sets k r.toList 0 (arrOf st) (by lia)
    rw [Nat.add_zero] at hfold
    have hbg := back_good (κ := κ) (T := (arrOf st).toList) (x := ((arrOf st).extract k n1).toList) (y := ((arrOf st).extract n1 (n1 + nb)).toList) (r := r.toList) hkn (by simp; lia) hxl hyl hg
      (by have := SegS.list (κ := κ) (x := arrOf st) (lo := 0) (hi := k) (fun i j a b c => hs1 i j a b (by lia)) (by lia); simpa using this)
      (by
        have := SegS.list (κ := κ) (x := arrOf st) (lo := n1 + nb) (hi := n1 + n2) (fun i j a b c => hs2 i j (by lia) b c) (by lia)
        rwa [List.take_of_length_le (by simp; lia)] at this)
      (fun p hp q hq => by
        rw [hxl] at hq
        obtain ⟨i, a, e⟩ := m0 p hp
        obtain ⟨j, b, c, e'⟩ := mx q hq
        rw [e, e']; exact hs1 i j (by lia) (by lia) c)
      (fun p hp q hq => by
        rw [hyl] at hq
        obtain ⟨i, a, e⟩ := m0 p hp
        obtain ⟨j, b, c, e'⟩ := my q hq
        rw [e, e']; exact KeyOrd.kle_trans (hlo' i a) (hs2 n1 j (by lia) b (by lia)))
      (fun p hp q hq => by
        rw [hxl] at hp
        obtain ⟨i, a, b, e⟩ := mx p hp
        obtain ⟨j, c, d, e'⟩ := m3 q hq
        rw [e, e']; exact KeyOrd.kle_trans (hs1 i (n1 - 1) (by lia) (by lia) (by lia)) (hhi2' j c d))
      (fun p hp q hq => by
        rw [hyl] at hp
        obtain ⟨i, a, b, e⟩ := my p hp
        obtain ⟨j, c, d, e'⟩ := m3 q hq
        rw [e, e']; exact hs2 i j a (by lia) d)
      (fun p hp q hq => by
        obtain ⟨i, a, e⟩ := m0 p hp
        obtain ⟨j, c, d, e'⟩ := m3 q hq
        rw [e, e']; exact KeyOrd.kle_trans (hlo' i a) (hs2 n1 j (by lia) (by lia) d))
    have hl3 : (arrOf st3).toList = (arrOf st).toList.take k ++ r.toList ++ (arrOf st).toList.drop (k + r.toList.length) := by
      rw [a3, hA2, hfold]
    have hperm : (arrOf st3).Perm (arrOf st) := Array.perm_iff_toList_perm.mpr (by rw [hl3]; exact hbg.1)
    refine ⟨⟨hperm.trans hB.perm, b3.trans (hS.1.trans hB1.kind), d3.trans (hS.2.2.2.trans hB1.failed)⟩, c3.trans (hS.2.2.1.trans hP1), ?_⟩
    have := SegS.of_list (κ := κ) (x := arrOf st3) (by rw [hl3]; exact hbg.2)
    rwa [hperm.size_eq, hsz] at this
  rcases Nat.lt_or_ge nb (n1 - k) with f3 | f3
  · rw [if_neg (by lia)]
    refine wpS_bind (mergeHi_S (κ := κ) hO hB1.kind kx ky sx sy (show 1 ≤ ((arrOf st).extract k n1).size by rw [zx]; lia) (show 1 ≤ ((arrOf st).extract n1 (n1 + nb)).size by rw [zy]; lia) (fun p hp q hq => ?_) (fun p hp => ?_) fun r st2 hg hS => ?_)
    · rw [hyl] at hp
      rw [hxl] at hq
      obtain ⟨j, b, c, e'⟩ := mx q hq
      have hp' : p = (arrOf st)[n1]'(by lia) := by
        rw [List.drop_take, show n1 + nb - n1 = nb by lia, List.take_take, show min 1 nb = 1 by lia, take_one (by simp; lia)] at hp
        simpa using hp
      rw [hp', e', ← key n1 (by lia)]
      exact KeyOrd.kle_trans hkx (hs1 k j (by lia) b c)
    · rw [hyl] at hp
      obtain ⟨i, a, b, e⟩ := my p hp
      have ex : ((arrOf st).extract k n1)[((arrOf st).extract k n1).size - 1]'(by lia) = (arrOf st)[n1 - 1]'(by lia) := by
        rw [Array.getElem_extract]; congr 1; lia
      rw [ex, e, ← key (n1 - 1) (by lia)]
      exact hyx i a b
    · refine wpS_bind (modify_S fun st3 hst3 => wpS_bind (wpS_get ?_))
      obtain ⟨a, b, c⟩ := fin r st2 hg hS st3 (by rw [hst3]) (by rw [hst3]) (by rw [hst3]) (by rw [hst3])
      refine wpS_pure ?_
      have hf : (failedOf st3).isNone = true := by rw [a.failed]; rfl
      show Q (failedOf st3).isNone _
      rw [hf]; exact h st3 a b c
  · rw [if_pos f3]
    refine wpS_bind (mergeLo_S (κ := κ) hO hB1.kind kx ky sx sy (show 1 ≤ ((arrOf st).extract k n1).size by rw [zx]; lia) (show 1 ≤ ((arrOf st).extract n1 (n1 + nb)).size by rw [zy]; lia) ?_ (fun p hp q hq => ?_) fun r st2 hg hS => ?_)
    · have ex : ((arrOf st).extract k n1)[0]'(by lia) = (arrOf st)[k]'(by lia) := by
        rw [Array.getElem_extract]; congr 1
      have ey : ((arrOf st).extract n1 (n1 + nb))[0]'(by lia) = (arrOf st)[n1]'(by lia) := by
        rw [Array.getElem_extract]; congr 1
      rw [ex, ey, ← key k (by lia), ← key n1 (by lia)]
      exact hkx
    · rw [hyl] at hp
      obtain ⟨i, a, b, e⟩ := my p hp
      have hq' : q = (arrOf st)[n1 - 1]'(by lia) := by
        rw [zx, hxl, List.drop_drop, List.drop_take, show k + (n1 - k - 1) = n1 - 1 by lia, show n1 - (n1 - 1) = 1 by lia, take_one (by simp; lia)] at hq
        simpa using hq
      rw [hq', e, ← key (n1 - 1) (by lia)]
      exact hyx i a b
    · refine wpS_bind (modify_S fun st3 hst3 => wpS_bind (wpS_get ?_))
      obtain ⟨a, b, c⟩ := fin r st2 hg hS st3 (by rw [hst3]) (by rw [hst3]) (by rw [hst3]) (by rw [hst3])
      refine wpS_pure ?_
      have hf : (failedOf st3).isNone = true := by rw [a.failed]; rfl
      show Q (failedOf st3).isNone _
      rw [hf]; exact h st3 a b c
end
end Mine
end
section
open PySem PySem.W PySem.Calls PySem.Spec PyProof.Rows
namespace Mine
theorem mr_ok (n : Nat) (h2 : 2 ≤ n) (h66 : n ≤ 66) : 1 ≤ minRun' n n 0 ∧ n ≤ 2 * minRun' n n 0 := by
  by_cases h : n < 64
  · have e : minRun' n n 0 = n := by
      obtain ⟨f, hf⟩ : ∃ f, n = f + 1 := ⟨n - 1, by lia⟩
      have : minRun' (f + 1) n 0 = n := by rw [minRun'_succ, if_pos h]; rfl
      rwa [← hf] at this
    rw [e]; lia
  · rcases (by lia : n = 64 ∨ n = 65 ∨ n = 66) with rfl | rfl | rfl <;> decide +kernel
section
variable {prog : Program} {w : World} {A : Around} {E : Value → Shared → Prop} {s : Shared} {knd : SortKind} {κ : PyProof.Rows.KeyKind} {a₀ : Array Keyed}
def Two (κ : PyProof.Rows.KeyKind) (n : Nat) (st : SortSt) : Prop := ∃ n1 n2 pw, pendingOf st = #[(0, n1, pw), (n1, n2, 0)] ∧ n1 + n2 = n ∧ 1 ≤ n1 ∧ 1 ≤ n2 ∧ SegS κ (arrOf st) 0 n1 ∧ SegS κ (arrOf st) n1 (n1 + n2)
theorem SB.same {st st' : SortSt} (h : SB knd a₀ st) (a : arrOf st' = arrOf st) (b : kindOf st' = kindOf st) (c : failedOf st' = failedOf st) : SB knd a₀ st' := ⟨by rw [a]; exact h.perm, b.trans h.kind, c.trans h.failed⟩
set_option maxHeartbeats 2000000 in
theorem runs_S {st : SortSt} {Q : Unit → SortSt → Prop} (hO : LtOk prog w A s knd κ) (h0 : KeysOf κ a₀) (hB : SB knd a₀ st) (hp : pendingOf st = #[]) (h2 : 2 ≤ a₀.size) (h66 : a₀.size ≤ 66)
    (h : ∀ st', SB knd a₀ st' → SegS κ (arrOf st') 0 a₀.size → Q () st') : wpS (model prog w) A E s sortRuns' Q st := by
  rw [sortRuns'_eq]
  refine wpS_bind (wpS_get ?_)
  dsimp only
  obtain ⟨hm1, hm2⟩ := mr_ok a₀.size h2 h66
  rw [hB.size]
  generalize minRun' a₀.size a₀.size 0 = mr at *
  refine wpS_bind (wpS_mono (wpS_forRange (I := fun x c st' => ∃ lo, c = (none, lo) ∧ SB knd a₀ st' ∧ ((x = 0 ∧ lo = 0 ∧ pendingOf st' = #[]) ∨
      (1 ≤ x ∧ 1 ≤ lo ∧ lo ≤ a₀.size ∧ pendingOf st' = #[(0, lo, 0)] ∧ SegS κ (arrOf st') 0 lo ∧ (lo = a₀.size ∨ mr ≤ lo) ∧ (x = 1 ∨ lo = a₀.size)) ∨ (2 ≤ x ∧ lo = a₀.size ∧ Two κ a₀.size st')))
    (Q := fun c st' => ∃ lo, c = (none, lo) ∧ SB knd a₀ st' ∧ ((pendingOf st' = #[(0, a₀.size, 0)] ∧ SegS κ (arrOf st') 0 a₀.size) ∨ Two κ a₀.size st')) ?_ ?_ ⟨0, rfl, hB, .inl ⟨rfl, rfl, hp⟩⟩) ?_)
  · rintro x c st1 _ hx ⟨lo, rfl, hB1, hc⟩
    dsimp only
    by_cases hlo : lo ≥ a₀.size
    · rw [if_pos hlo]
      refine wpS_pure ⟨lo, rfl, hB1, ?_⟩
      rcases hc with ⟨_, e, _⟩ | ⟨_, _, e, hp', hs, _⟩ | ⟨_, _, ht⟩
      · lia
      · have : lo = a₀.size := by lia
        subst this; exact .inl ⟨hp', hs⟩
      · exact .inr ht
    rw [if_neg hlo]
    refine wpS_bind (count_S (κ := κ) hO h0 (by lia) (by lia) hB1 fun m st2 hB2 ha hb hs2 hK2 => ?_)
    dsimp only
    -- the run, made long enough
    rcases Nat.lt_or_ge m mr with hmr | hmr
    focus
      rw [if_pos hmr]
      refine wpS_bind (wpS_lift (wpAny_rule ⟨rfl, ?_⟩))
      refine wpS_bind (binary_S (κ := κ) hO h0 (by lia) (by lia) hB2 hs2 fun st3 hB3 hs3 hK3 => ?_)
      simp only [Bool.not_true, Bool.false_eq_true, if_false]
      have hK := hK2.trans hK3
      have hn1 : 1 ≤ min (a₀.size - lo) mr := by lia
      have hn2 : lo + min (a₀.size - lo) mr ≤ a₀.size := by lia
      have hn3 : lo + min (a₀.size - lo) mr = a₀.size ∨ mr ≤ min (a₀.size - lo) mr := by lia
      clear hK3 hs2 hK2 hB2 hmr
      generalize min (a₀.size - lo) mr = n at *
    rotate_left
    focus
      rw [if_neg (by lia)]
      have hK := hK2
      have hs3 := hs2
      have hB3 := hB2
      have hn1 := ha
      have hn2 : lo + m ≤ a₀.size := by lia
      have hn3 : lo + m = a₀.size ∨ mr ≤ m := .inr hmr
      clear hs2 hK2 hB2 hmr ha hb
      generalize m = n at *
      generalize st2 = st3 at *
    all_goals
      refine wpS_bind (wpS_get ?_)
      rcases hc with ⟨rfl, rfl, hp'⟩ | ⟨_, hl1, hl2, hp', hs, hl3, hl4⟩ | ⟨_, e, _⟩
      · have e : (pendingOf st3).back? = none := by rw [hK.2, hp']; rfl
        rw [e]
        dsimp only
        refine wpS_bind (modify_S fun st4 h4 => ?_)
        refine wpS_pure ⟨_, rfl, hB3.same (by rw [h4]) (by rw [h4]) (by rw [h4]), .inr (.inl ⟨by lia, by lia, by lia, ?_, ?_, by lia, by lia⟩)⟩
        · rw [h4]; show (pendingOf st3).push _ = _
          rw [hK.2, hp', Nat.zero_add]; rfl
        · rw [h4]; exact hs3
      · have hx1 : x = 1 := by lia
        have hnn : lo + n = a₀.size := by lia
        have e : (pendingOf st3).back? = some (0, lo, 0) := by rw [hK.2, hp']; rfl
        rw [e]
        dsimp only
        have hps : pendingOf st3 = #[(0, lo, 0)] := hK.2.trans hp'
        refine wpS_bind (wpS_mono (wpS_forRange (I := fun z c st' => st' = st3 ∧ c = (none, ()) ∧ z = 0) (Q := fun c st' => st' = st3 ∧ c = (none, ())) ?_ ?_ ⟨rfl, rfl, rfl⟩) ?_)
        · rintro z c st' _ _ ⟨rfl, rfl, rfl⟩
          refine wpS_bind (wpS_get ?_)
          rw [if_neg (by rw [hps]; exact (by decide : ¬ 1 > 1))]
          exact wpS_pure ⟨rfl, rfl⟩
        · rintro c st' ⟨rfl, rfl, _⟩
          exact ⟨rfl, rfl⟩
        rintro c st' ⟨rfl, rfl⟩
        dsimp only
        refine wpS_bind (modify_S fun st4 h4 => wpS_bind (modify_S fun st5 h5 => ?_))
        have a5 : arrOf st5 = arrOf st' := by rw [h5]; show arrOf st4 = _; rw [h4]
        refine wpS_pure ⟨_, rfl, hB3.same a5 (by rw [h5]; show kindOf st4 = _; rw [h4]) (by rw [h5]; show failedOf st4 = _; rw [h4]), .inr (.inr ⟨by lia, hnn, lo, n, power' a₀.size (2 * 0 + lo) (2 * 0 + lo + lo + n) a₀.size, ?_, hnn, hl1, hn1, ?_, ?_⟩)⟩
        · rw [h5]; show (pendingOf st4).push _ = _
          rw [h4]; show ((pendingOf st').modify _ _).push _ = _
          rw [hps]
          rfl
        · rw [a5]
          exact fun i j a b c => by rw [hK.1 i (by lia), hK.1 j (by lia)]; exact hs i j a b c
        · rw [a5]; exact hs3
      · lia
  · rintro c st' ⟨lo, rfl, hB', hc⟩
    refine ⟨lo, rfl, hB', ?_⟩
    rcases hc with ⟨e, _⟩ | ⟨_, _, _, hp', hs, _, e⟩ | ⟨_, _, ht⟩
    · lia
    · have : lo = a₀.size := by lia
      subst this; exact .inl ⟨hp', hs⟩
    · exact .inr ht
  rintro c st' ⟨lo, rfl, hB', hc⟩
  dsimp only
  refine wpS_bind (wpS_mono (wpS_forRange (I := fun z c st2 => c = (none, ()) ∧ SB knd a₀ st2 ∧ (((pendingOf st2).size ≤ 1 ∧ SegS κ (arrOf st2) 0 a₀.size) ∨ (z = 0 ∧ Two κ a₀.size st2)))
    (Q := fun c st2 => c = (none, ()) ∧ SB knd a₀ st2 ∧ SegS κ (arrOf st2) 0 a₀.size) ?_ ?_ ⟨rfl, hB', hc.imp (fun q => ⟨by rw [q.1]; exact Nat.le_refl 1, q.2⟩) (fun q => ⟨rfl, q⟩)⟩) ?_)
  · rintro z c st2 _ hz ⟨rfl, hB2, ⟨hq, hs⟩ | ⟨rfl, n1, n2, pw, hpd, hn, h1, h2', hs1, hs2⟩⟩
    · refine wpS_bind (wpS_get ?_)
      rw [if_pos hq]
      exact wpS_pure ⟨rfl, hB2, hs⟩
    · refine wpS_bind (wpS_get ?_)
      rw [if_neg (by rw [hpd]; exact (by decide : ¬ 2 ≤ 1))]
      have ei : (if Option.any (fun x => decide (x < (pendingOf st2)[(pendingOf st2).size - 2 + 1]?.elim 0 fun x => x.snd.fst)) (if (pendingOf st2).size - 2 > 0 then Option.map (fun x => x.snd.fst) (pendingOf st2)[(pendingOf st2).size - 2 - 1]? else none) = true then (pendingOf st2).size - 2 - 1 else (pendingOf st2).size - 2) = 0 := by
        rw [hpd]; rfl
      rw [ei]
      refine wpS_bind (mergeAt_S (κ := κ) hO h0 hB2 hpd hn h1 h2' hs1 hs2 fun st3 hB3 hp3 hs3 => ?_)
      simp only [Bool.not_true, Bool.false_eq_true, if_false]
      rw [hn] at hs3
      exact wpS_pure ⟨rfl, hB3, .inl ⟨by rw [hp3]; exact Nat.le_refl 1, hs3⟩⟩
  · rintro c st2 ⟨rfl, hB2, ⟨_, hs⟩ | ⟨e, _⟩⟩
    · exact ⟨rfl, hB2, hs⟩
    · lia
  rintro c st2 ⟨rfl, hB2, hs⟩
  exact wpS_pure (h _ hB2 hs)
end
end Mine
end
section
open PySem PySem.W PySem.Calls PySem.Spec PyProof.Rows
namespace Mine
/-- s' holds what s held, but at a -/
def Old (s s' : Shared) (a : Addr) : Prop := ∀ b o, b ≠ a → s.heap.get? b = some o → s'.heap.get? b = some o
section
variable {prog : Program} {w : World} {A : Around} {E : Value → Shared → Prop} {s : Shared} {knd : SortKind} {κ : PyProof.Rows.KeyKind}
def vkey (κ : PyProof.Rows.KeyKind) (v : Value) : κ.α := (κ.keyOf v).getD κ.dflt
theorem out_of {vs : List Value} {xs : Array Keyed} (hp : xs.Perm (pairsOf vs)) (hs : SegS κ xs 0 (pairsOf vs).size) :
    (xs.map (·.2)).toList.Perm vs ∧ (xs.map (·.2)).toList.Pairwise fun x y => κ.kle (vkey κ x) (vkey κ y) := by
  have hl : xs.toList.Perm (vs.zip vs) := by rw [← pairsOf_toList]; exact Array.perm_iff_toList_perm.mp hp
  have hmem : ∀ p, p ∈ xs.toList → p.1 = p.2 := fun p hp' => (mem_zip_self (hl.mem_iff.mp hp')).1
  refine ⟨?_, ?_⟩
  · rw [Array.toList_map]
    have h1 := hl.map Prod.snd
    rwa [List.map_snd_zip (Nat.le_refl _)] at h1
  · rw [Array.toList_map, List.pairwise_map]
    have hsz : (pairsOf vs).size = xs.size := hp.size_eq.symm
    rw [hsz] at hs
    have h1 := SegS.list hs (Nat.le_refl _)
    rw [List.drop_zero, List.take_of_length_le (by simp)] at h1
    refine List.Pairwise.imp_of_mem ?_ h1
    intro p q hp' hq' h2
    unfold kk at h2
    rw [hmem p hp', hmem q hq'] at h2
    exact h2
theorem list_sort_S {a : Addr} {vs : List Value} {n : Nat} {P : Fin → Shared → Prop} (ho : s.heap.get? a = some (seqObj "list" vs.toArray n)) (hk : ∀ s', Old s s' a → ∀ Q : SortKind → Shared → Prop, Q knd s' → wpAny (model prog w) A (keyKind' vs.toArray) Q E s')
    (hO : ∀ s', Old s s' a → LtOk prog w A s' knd κ) (h0 : ∀ v ∈ vs, ∃ k, κ.keyOf v = some k) (h2 : 2 ≤ vs.length) (h66 : vs.length ≤ 66)
    (h : ∀ out : Array Value, out.toList.Perm vs → (out.toList.Pairwise fun x y => κ.kle (vkey κ x) (vkey κ y)) → P (.done (.ret .none)) { s with heap := sortedHeap s.heap a vs out }) :
    wpAny (model prog w) A (Builtin.«list.sort» ⟨[.ref a], []⟩) P E s := by
  rw [list_sort_plain]
  have ha : a < s.heap.objs.size := Heap.lt_size ho
  refine wpAny_bind (listItems_at ho rfl ?_)
  refine wpAny_bind (listUpdate_at ho rfl ?_ (by rw [List.size_toArray, sizeLine_eq]; omega))
  obtain ⟨e1, ho1⟩ : ∃ e1, (s.heap.update a (Obj.mapSeq fun _ => #[])).get? a = some (seqObj "list" #[] e1) := ⟨_, get?_update_seq ho (fun _ => #[])⟩
  refine wpAny_bind (seqEpoch_at ho1 rfl ?_)
  refine wpAny_bind (wpAny_newTuple ?_ (by rw [sizeLine_eq]; simp; omega))
  refine wpAny_bind (wpAny_newList ?_)
  refine wpAny_holding ?_
  have ho6 : (((s.heap.update a (Obj.mapSeq fun _ => #[])).push (seqObj "tuple" vs.toArray 0)).push (seqObj "list" #[] 0)).get? a = some (seqObj "list" #[] e1) := by
    rw [Heap.get?_push_ne _ _ _ (by rw [size_push', Heap.size_update]; exact Nat.ne_of_lt (Nat.lt_succ_of_lt ha)), Heap.get?_push_ne _ _ _ (by rw [Heap.size_update]; exact Nat.ne_of_lt ha)]
    exact ho1
  show wpAny (model prog w) A _ P E { s with heap := ((s.heap.update a (Obj.mapSeq fun _ => #[])).push (seqObj "tuple" vs.toArray 0)).push (seqObj "list" #[] 0) }
  have hold : Old s { s with heap := ((s.heap.update a (Obj.mapSeq fun _ => #[])).push (seqObj "tuple" vs.toArray 0)).push (seqObj "list" #[] 0) } a := fun b o hb e => by
    have hlt : b < s.heap.objs.size := Heap.lt_size e
    show Heap.get? _ b = some o
    rw [Heap.get?_push_ne _ _ _ (by rw [size_push', Heap.size_update]; exact Nat.ne_of_lt (Nat.lt_succ_of_lt hlt)), Heap.get?_push_ne _ _ _ (by rw [Heap.size_update]; exact Nat.ne_of_lt hlt), Heap.get?_update_ne _ _ _ _ hb]
    exact e
  dsimp only
  rw [if_neg (by rw [List.size_toArray]; omega), if_neg (by rw [List.size_toArray]; omega)]
  refine wpAny_bind (hk _ hold _ ?_)
  refine wpAny_bind (wpAny_mono (runs_S (κ := κ) (knd := knd) (a₀ := pairsOf vs) (st := SortSt.mk' knd (vs.toArray.zip vs.toArray) #[] 7 none)
    (Q := fun _ st' => (arrOf st').Perm (pairsOf vs) ∧ failedOf st' = none ∧ SegS κ (arrOf st') 0 (pairsOf vs).size)
    (hO _ hold) (fun p hp => by rw [pairsOf_toList] at hp; exact h0 _ (mem_zip_self hp).2) ⟨Array.Perm.refl _, rfl, rfl⟩ rfl (by rw [pairsOf_size]; exact h2) (by rw [pairsOf_size]; exact h66) fun st' a1 a2 => ⟨a1.perm, a1.failed, a2⟩) ?_ fun _ _ e => e)
  rintro ⟨⟨⟩, st'⟩ s' ⟨rfl, hp, hf, hs⟩
  dsimp only
  refine wpAny_bind (seqEpoch_at ho6 rfl ?_)
  refine wpAny_bind (listUpdate_at ho6 rfl ?_ (hsz2 := by refine Nat.le_trans (Nat.le_of_eq ((Array.size_map ..).trans (hp.size_eq.trans (pairsOf_size _)))) ?_; rw [sizeLine_eq]; omega))
  rw [hf]
  simp only [bne_self_eq_false, Bool.false_eq_true, if_false]
  obtain ⟨o1, o2⟩ := out_of hp hs
  exact wpAny_pure (h _ o1 o2)
theorem sorted_S {l : Addr} {vs : List Value} {Q : Value → Shared → Prop} (hl : s.heap.IsList l vs.toArray)
    (hk : ∀ s', Old s s' s.heap.objs.size → ∀ (E : Value → Shared → Prop) (Q : SortKind → Shared → Prop), Q knd s' → wpAny (model prog w) A.in1.in1 (keyKind' vs.toArray) Q E s')
    (hO : ∀ s', Old s s' s.heap.objs.size → LtOk prog w A.in1.in1 s' knd κ) (h0 : ∀ v ∈ vs, ∃ k, κ.keyOf v = some k) (h2 : 2 ≤ vs.length) (h66 : vs.length ≤ 66)
    (h : ∀ out : Array Value, out.toList.Perm vs → (out.toList.Pairwise fun x y => κ.kle (vkey κ x) (vkey κ y)) → Q (.ref (s.heap.objs.size + 1)) { s with heap := sortedAll s.heap vs out }) :
    wpAny (model prog w) A (call (.builtin "sorted") [.ref l]) Q E s := by
  refine Calls.call_function_entry kind_sorted plain_sorted entry_sorted (args_sorted1 _) ?_
  unfold Builtin.«sorted»
  refine wpAny_bind (m := checkCount "sorted" 1 1 _) (wpAny_pure ?_)
  refine wpAny_bind (collect_list hl ?_ (by rw [sizeLine_eq]; omega))
  refine wpAny_bind (wpAny_newList ?_ (by rw [sizeLine_eq]; omega))
  have hsz : ((s.heap.push (seqObj "list" #[] 0)).update s.heap.objs.size (Obj.mapSeq (· ++ vs.toArray))).objs.size = s.heap.objs.size + 1 := by
    rw [Heap.size_update, size_push']
  have hoL : (((s.heap.push (seqObj "list" #[] 0)).update s.heap.objs.size (Obj.mapSeq (· ++ vs.toArray))).push (seqObj "list" vs.toArray 0)).get? (s.heap.objs.size + 1) = some (seqObj "list" vs.toArray 0) := by
    rw [← hsz]; exact Heap.get?_push_size _ rfl
  show wpAny _ _ _ _ _ { s with heap := ((s.heap.push (seqObj "list" #[] 0)).update s.heap.objs.size (Obj.mapSeq (· ++ vs.toArray))).push (seqObj "list" vs.toArray 0) }
  rw [hsz]
  have hold : ∀ s', Old { s with heap := ((s.heap.push (seqObj "list" #[] 0)).update s.heap.objs.size (Obj.mapSeq (· ++ vs.toArray))).push (seqObj "list" vs.toArray 0) } s' (s.heap.objs.size + 1) → Old s s' s.heap.objs.size := fun s' q b o hb e => by
    have hlt : b < s.heap.objs.size := Heap.lt_size e
    refine q b o (Nat.ne_of_lt (Nat.lt_succ_of_lt hlt)) ?_
    show Heap.get? _ b = some o
    rw [Heap.get?_push_ne _ _ _ (by rw [hsz]; exact Nat.ne_of_lt (Nat.lt_succ_of_lt hlt)), Heap.get?_update_ne _ _ _ _ hb, Heap.get?_push_ne _ _ _ (Nat.ne_of_lt hlt)]
    exact e
  refine wpAny_bind (wpAny_holding (wpAny_call_entry slot_list_sort ⟨_, hoL, rfl⟩ entry_list_sort (list_sort_S (knd := knd) (κ := κ) hoL (fun s' q Q hq => hk s' (hold s' q) _ Q hq) (fun s' q => hO s' (hold s' q)) h0 h2 h66 fun out a1 a2 => ⟨_, rfl, ?_⟩) (args_list_sort _)))
  exact wpAny_pure ⟨_, rfl, h out a1 a2⟩
theorem sorted_SN {h₀ : Heap} {L : Addr} {m : Str → Option Value} {news : List (Addr × Obj)} {l : Addr} {vs : List Value} {Q : Value → Shared → Prop} (F : Fr h₀ L s.heap m) (N : News h₀ L s.heap news) (hl : s.heap.IsList l vs.toArray)
    (hk : ∀ s', Old s s' s.heap.objs.size → ∀ (E : Value → Shared → Prop) (Q : SortKind → Shared → Prop), Q knd s' → wpAny (model prog w) A.in1.in1 (keyKind' vs.toArray) Q E s')
    (hO : ∀ s', Old s s' s.heap.objs.size → LtOk prog w A.in1.in1 s' knd κ) (h0 : ∀ v ∈ vs, ∃ k, κ.keyOf v = some k) (h2 : 2 ≤ vs.length) (h66 : vs.length ≤ 66)
    (h : ∀ (h' : Heap) (vs' : List Value) (e : Nat), Fr h₀ L h' m → News h₀ L h' ((s.heap.objs.size + 1, seqObj "list" vs'.toArray e) :: news) → (∀ p ∈ news, p.1 < s.heap.objs.size + 1) → vs'.Perm vs → (vs'.Pairwise fun x y => κ.kle (vkey κ x) (vkey κ y)) → Q (.ref (s.heap.objs.size + 1)) { s with heap := h' }) :
    wpAny (model prog w) A (call (.builtin "sorted") [.ref l]) Q E s := by
  refine sorted_S hl hk hO h0 h2 h66 fun out a1 a2 => ?_
  obtain ⟨e, he⟩ := sortedAll_at s.heap vs out
  exact h _ out.toList e (F.kept fun _ _ => sortedAll_old) (N.kept_cons F (fun _ _ => sortedAll_old) (Nat.le_succ _) he) (fun p hp => Nat.lt_succ_of_lt (Heap.lt_size (N p hp).1)) a1 a2
end
end Mine
end
section
open PySem PySem.W PySem.Calls PySem.Spec PyProof.Rows
namespace Mine
open AutoSeq1 (wpAny_loadPart')
open MeetsSeq3 (plain_eq_loop entry_eq_loop)
open SeqRoads2
/-- two lists of ints of one length, by < -/
def lexlt : List Int → List Int → Bool
  | a :: r, b :: t => if a = b then lexlt r t else decide (a < b)
  | _, _ => false
theorem lexlt_cons (a b : Int) (r t : List Int) : lexlt (a :: r) (b :: t) = if a = b then lexlt r t else decide (a < b) := rfl
section
variable {prog : Program} {w : World} {l b : Addr} {xs ys : List Value} {ns ms : List Int} {n n2 : Nat} {dd dd2 : Option Addr} {sl sl2 : Array (Option Value)}
theorem lt_loop (hi : IntsAre xs ns) (hj : IntsAre ys ms) (hsz : ns.length = ms.length) (k : Nat) :
    ∀ i : Nat, ns.length - i = k → MeetsIn prog w (Builtin.«list.__eq__.loop» ⟨[.ref l, .ref b, rawInt i, rawInt 0], []⟩)
      (fun _ R s => s.heap.get? l = some { cls := .type "list", dict := dd, data := .seq xs.toArray n, slots := sl } ∧ s.heap.get? b = some { cls := .type "list", dict := dd2, data := .seq ys.toArray n2, slots := sl2 } ∧
        R (.ok (.ret (.bool (lexlt (ns.drop i) (ms.drop i))))) s) := by
  have hl1 := hi.length
  have hl2 := hj.length
  induction k with
  | zero =>
    intro i hk A R s h
    obtain ⟨hp, g, d, tk, os⟩ := s; obtain ⟨hl, hb, h⟩ := h
    have hi1 : xs.toArray[((i : Nat) : Int).toNat]? = none := by simp; omega
    have hi2 : ys.toArray[((i : Nat) : Int).toNat]? = none := by simp; omega
    rw [List.drop_of_length_le (by omega)] at h
    wp_walk using wpAny_loadPart' hl, wpAny_loadPart' hb
    rw [hi1, hi2]
    wp_walk using wpAny_loadPart' hl, wpAny_loadPart' hb
    show R (.ok (.ret (.bool (decide (xs.toArray.size < ys.toArray.size))))) _
    have e : decide (xs.toArray.size < ys.toArray.size) = false := by simp; omega
    rw [e]; exact h
  | succ k ih =>
    intro i hk A R s h
    obtain ⟨hp, g, d, tk, os⟩ := s; obtain ⟨hl, hb, h⟩ := h
    have hlt : i < ns.length := by omega
    have hlt2 : i < ms.length := by omega
    obtain ⟨t, e1⟩ := hi.get i _ (List.getElem?_eq_getElem hlt)
    obtain ⟨u, e2⟩ := hj.get i _ (List.getElem?_eq_getElem hlt2)
    have hi1 : xs.toArray[((i : Nat) : Int).toNat]? = some (.int ns[i] t) := by simpa using e1
    have hi2 : ys.toArray[((i : Nat) : Int).toNat]? = some (.int ms[i] u) := by simpa using e2
    have hc : ((i : Int) + 1) = ((i + 1 : Nat) : Int) := by push_cast; rfl
    rw [List.drop_eq_getElem_cons hlt, List.drop_eq_getElem_cons hlt2, lexlt_cons] at h
    wp_walk using wpAny_loadPart' hl, wpAny_loadPart' hb
    rw [hi1, hi2]
    refine wpAny_bind (SeqAt.EqAt.int_int ns[i] t ms[i] u prog w _ _ ?_)
    cases hq : (ns[i] == ms[i]) with
    | true =>
      have he : ns[i] = ms[i] := eq_of_beq hq
      rw [if_pos he] at h
      wp_walk
      rw [hc]
      exact ⟨plainId_quiet plain_eq_loop _, codeAny_builtin entry_eq_loop (by
        rw [Around.under_plainId plain_eq_loop _]
        exact ih (i + 1) (by omega) A R _ ⟨hl, hb, h⟩)⟩
    | false =>
      have he : ¬ ns[i] = ms[i] := by simpa using hq
      rw [if_neg he] at h
      wp_walk using wpAny_loadPart' hl, wpAny_loadPart' hb
      rw [hi1, hi2]
      refine wpAny_bind (show wpAny _ _ (richCompare .Lt (.int ns[i] t) (.int ms[i] u)) _ _ _ from PyProof.Rows.lt_int ?_)
      wp_walk
      exact h
theorem list_lt (hi : IntsAre xs ns) (hj : IntsAre ys ms) (hsz : ns.length = ms.length) : MeetsIn prog w (Builtin.«list.__lt__» ⟨[.ref l, .ref b], []⟩)
      (fun _ R s => s.heap.get? l = some { cls := .type "list", dict := dd, data := .seq xs.toArray n, slots := sl } ∧ s.heap.get? b = some { cls := .type "list", dict := dd2, data := .seq ys.toArray n2, slots := sl2 } ∧
        R (.ok (.ret (.bool (lexlt ns ms)))) s) := by
  intro A R s h
  obtain ⟨hp, g, d, tk, os⟩ := s; obtain ⟨hl, hb, h⟩ := h
  have f3 := AutoSeq1.sub_list_list
  wp_walk using wpAny_loadPart' hl, wpAny_loadPart' hb
  exact ⟨plainId_quiet plain_eq_loop _, codeAny_builtin entry_eq_loop (by
    rw [Around.under_plainId plain_eq_loop _]
    exact lt_loop hi hj hsz _ 0 rfl A R _ ⟨hl, hb, by simpa using h⟩)⟩
end
section
variable {prog : Program} {w : World} {A : Around} {E : Value → Shared → Prop} {s : Shared} {a b : Addr} {xs ys : List Value} {ns ms : List Int} {Q : Bool → Shared → Prop}
theorem oneLt_lists (ha : s.heap.IsList a xs.toArray) (hb : s.heap.IsList b ys.toArray) (hi : IntsAre xs ns) (hj : IntsAre ys ms) (hsz : ns.length = ms.length) (hu : A.units < cLine) (h : Q (lexlt ns ms) s) :
    wpAny (model prog w) A (oneLt' true (.ref a) (.ref b)) Q E s := by
  obtain ⟨⟨cls, dd, data, sl⟩, ho, hc, n, hd⟩ := id ha
  obtain ⟨⟨cls2, dd2, data2, sl2⟩, ho2, hc2, n2, hd2⟩ := id hb
  simp only at hc hd hc2 hd2
  subst hc hd hc2 hd2
  rw [oneLt'_eq]
  simp only [if_true]
  refine wpAny_bind (wpAny_cRoomFor hu ?_)
  refine wpAny_bind (wpAny_callSpecialIfBound?_slot ⟨_, ho, rfl⟩ F.slot_list_lt (call_meetsIn F.slot_list_lt ⟨_, ho, rfl⟩ F.entry_list_lt (F.args_list_lt_2 _ _) (list_lt hi hj hsz) ⟨ho, ho2, ?_⟩))
  exact wpAny_truthy_bool h
end
def pY (x : Int) : Int := x.fmod 9999 + 1
def pM (x : Int) : Int := x.fmod 12 + 1
def pD (x : Int) : Int := (x.fdiv 12).fmod 28 + 1
def pH (x : Int) : Int := (x.fdiv 3).fmod 24
def pI (x : Int) : Int := (x.fdiv 5).fmod 60
def pS (x : Int) : Int := x.fmod 60
def parts (x : Int) : List Int := [pY x, pM x, pD x, pH x, pI x, pS x]
def signs (vY vM vD vH vI vS : Int) : List Nat := [fig ((vY.fdiv 100).fdiv 10), fig (vY.fdiv 100), fig ((vY.fmod 100).fdiv 10), fig (vY.fmod 100), fig (vM.fdiv 10), fig vM, fig (vD.fdiv 10), fig vD, 84, fig (vH.fdiv 10), fig vH, 58, fig (vI.fdiv 10), fig vI, 58, fig (vS.fdiv 10), fig vS]
def ansL (x : Int) : List Nat := signs (pY x) (pM x) (pD x) (pH x) (pI x) (pS x)
theorem two_lt (m n : Int) (hm : 0 ≤ m ∧ m < 100) (hn : 0 ≤ n ∧ n < 100) (r t : List Nat) : (fig (m.fdiv 10) :: fig m :: r < fig (n.fdiv 10) :: fig n :: t) ↔ (m < n ∨ (m = n ∧ r < t)) := by
  obtain ⟨a1, a2⟩ := ten m hm
  obtain ⟨b1, b2⟩ := ten n hn
  have c1 := fig_b (m.fdiv 10)
  have c2 := fig_b m
  have c3 := fig_b (n.fdiv 10)
  have c4 := fig_b n
  rw [List.cons_lt_cons_iff, List.cons_lt_cons_iff]
  by_cases h : r < t
  · simp only [h, and_true]; omega
  · simp only [h, and_false, or_false]; omega
theorem one_lt (k : Nat) (r t : List Nat) : (k :: r < k :: t) ↔ r < t := by
  rw [List.cons_lt_cons_iff]
  simp
theorem signs_lt (a b c d e f a' b' c' d' e' f' : Int) (ha : 0 ≤ a ∧ a < 10000) (hb : 0 ≤ b ∧ b < 100) (hc : 0 ≤ c ∧ c < 100) (hd : 0 ≤ d ∧ d < 100) (he : 0 ≤ e ∧ e < 100) (hf : 0 ≤ f ∧ f < 100)
    (ha' : 0 ≤ a' ∧ a' < 10000) (hb' : 0 ≤ b' ∧ b' < 100) (hc' : 0 ≤ c' ∧ c' < 100) (hd' : 0 ≤ d' ∧ d' < 100) (he' : 0 ≤ e' ∧ e' < 100) (hf' : 0 ≤ f' ∧ f' < 100) :
    decide (signs a b c d e f < signs a' b' c' d' e' f') = lexlt [a, b, c, d, e, f] [a', b', c', d', e', f'] := by
  have q1 : a.fdiv 100 = a / 100 := Int.fdiv_eq_ediv_of_nonneg a (by decide)
  have q2 : a.fmod 100 = a % 100 := Int.fmod_eq_emod_of_nonneg a (by decide)
  have q3 : a'.fdiv 100 = a' / 100 := Int.fdiv_eq_ediv_of_nonneg a' (by decide)
  have q4 : a'.fmod 100 = a' % 100 := Int.fmod_eq_emod_of_nonneg a' (by decide)
  have ee : (signs a b c d e f < signs a' b' c' d' e' f') ↔ (a < a' ∨ a = a' ∧ (b < b' ∨ b = b' ∧ (c < c' ∨ c = c' ∧ (d < d' ∨ d = d' ∧ (e < e' ∨ e = e' ∧ f < f'))))) := by
    unfold signs
    rw [two_lt _ _ (by omega) (by omega), two_lt _ _ (by omega) (by omega), two_lt _ _ hb hb', two_lt _ _ hc hc', one_lt, two_lt _ _ hd hd', one_lt, two_lt _ _ he he', one_lt, two_lt _ _ hf hf']
    rw [q1, q2, q3, q4]
    have z : ¬ (([] : List Nat) < []) := List.lt_irrefl _
    simp only [z, and_false, or_false]
    omega
  have ll : lexlt [a, b, c, d, e, f] [a', b', c', d', e', f'] = true ↔ (a < a' ∨ a = a' ∧ (b < b' ∨ b = b' ∧ (c < c' ∨ c = c' ∧ (d < d' ∨ d = d' ∧ (e < e' ∨ e = e' ∧ f < f'))))) := by
    simp only [lexlt]
    repeat' split
    all_goals (simp only [decide_eq_true_eq, Bool.false_eq_true, false_iff]; omega)
  rw [Bool.eq_iff_iff, decide_eq_true_eq, ee, ll]
theorem parts_b (x : Int) : (0 ≤ pY x ∧ pY x < 10000) ∧ (0 ≤ pM x ∧ pM x < 100) ∧ (0 ≤ pD x ∧ pD x < 100) ∧ (0 ≤ pH x ∧ pH x < 100) ∧ (0 ≤ pI x ∧ pI x < 100) ∧ (0 ≤ pS x ∧ pS x < 100) := by
  have h1 := yr_b x
  have h2 := mo_b x
  have h3 := dy_b x
  have h4 := hr_b x
  have h5 := mi_b x
  have h6 := se_b x
  unfold pY pM pD pH pI pS
  omega
theorem ans_lt (x y : Int) : decide (ansL x < ansL y) = lexlt (parts x) (parts y) := by
  obtain ⟨a, b, c, d, e, f⟩ := parts_b x
  obtain ⟨a', b', c', d', e', f'⟩ := parts_b y
  exact signs_lt _ _ _ _ _ _ _ _ _ _ _ _ a b c d e f a' b' c' d' e' f'
theorem ans_of_parts {x y : Int} (h : parts x = parts y) : ansL x = ansL y := by
  simp only [parts, List.cons.injEq, and_true] at h
  obtain ⟨a, b, c, d, e, f⟩ := h
  unfold ansL; rw [a, b, c, d, e, f]
/-- a row of the answers, as it lies in the heap -/
def RowAt (h : Heap) (v : Value) (x : Int) : Prop :=
  ∃ a b n k t xs, v = .ref a ∧ h.get? a = some ({ cls := .type "tuple", data := .seq #[.ref b, .str (S (ansL x)) t] n } : Obj) ∧ h.IsList b (List.toArray xs) ∧ k = xs.length ∧ IntsAre xs (parts x)
def tupAns (h : Heap) (v : Value) : Option (List Nat) := match v with
  | .ref a => (match h.get? a with
    | some o => (match o.data with
      | .seq xs _ => (match xs[1]? with
        | some (Value.str x _) => some x.cps.toList
        | _ => none)
      | _ => none)
    | none => none)
  | _ => none
theorem tupAns_row {h : Heap} {v : Value} {x : Int} (r : RowAt h v x) : tupAns h v = some (ansL x) := by
  obtain ⟨a, b, n, k, t, xs, rfl, e, _⟩ := r
  unfold tupAns
  simp only [e]
  rfl
open Classical in
noncomputable def rowKind (h : Heap) : PyProof.Rows.KeyKind := { PyProof.Rows.strKind with keyOf := fun v => if ∃ x, RowAt h v x then tupAns h v else none }
open Classical in
theorem rowKind_some {h : Heap} {v : Value} {x : Int} (r : RowAt h v x) : (rowKind h).keyOf v = some (ansL x) := by
  show (if ∃ x, RowAt h v x then tupAns h v else none) = _
  rw [if_pos ⟨x, r⟩, tupAns_row r]
open Classical in
theorem rowKind_inv {h : Heap} {v : Value} {k : List Nat} (e : (rowKind h).keyOf v = some k) : ∃ x, RowAt h v x ∧ k = ansL x := by
  have e' : (if ∃ x, RowAt h v x then tupAns h v else none) = some k := e
  by_cases q : ∃ x, RowAt h v x
  · rw [if_pos q] at e'
    obtain ⟨x, r⟩ := q
    rw [tupAns_row r] at e'
    exact ⟨x, r, (Option.some.inj e').symm⟩
  · rw [if_neg q] at e'; cases e'
theorem eqat_ints {A : Around} {s : Shared} {a b : Addr} {xs ys : List Value} {ns ms : List Int} (ha : s.heap.IsList a xs.toArray) (hb : s.heap.IsList b ys.toArray) (hi : IntsAre xs ns) (hj : IntsAre ys ms) (hu : A.units + 64 < cLine) :
    SeqAt.EqAt A s (.ref a) (.ref b) (decide (ns = ms)) := by
  have x := SeqAt.eqAt_reads _ _ A s _ _ _ _ (reads_newData ha (ke_carried hi)) (reads_newData hb (ke_carried hj)) (SeqAt.canLay_of_shaped (ke_shaped_ints ns)) (SeqAt.canLay_of_shaped (ke_shaped_ints ms)) (SeqAt.room_of_shaped (ke_shaped_ints ns) hu)
  have e : PyData.eqv (.list (ns.map PyData.int)) (.list (ms.map PyData.int)) = decide (ns = ms) := by
    simp only [PyData.eqv]; exact ked_eqvAll ns ms
  rw [e] at x
  exact x
section
variable {prog : Program} {w : World} {A : Around} {s : Shared}
theorem rows_lt {h : Heap} (hold : ∀ a o, h.get? a = some o → s.heap.get? a = some o) (hu : A.units + 64 < cLine) : LtOk prog w A s (tuples' true) (rowKind h) := by
  intro E x y ka kb Q hx hy hq
  obtain ⟨z, ⟨a, b, n, _, t, xs, rfl, h1, h2, _, h3⟩, rfl⟩ := rowKind_inv hx
  obtain ⟨z', ⟨a', b', n', _, t', xs', rfl, h1', h2', _, h3'⟩, rfl⟩ := rowKind_inv hy
  have g2 : s.heap.IsList b (List.toArray xs) := by obtain ⟨o, ho, r⟩ := h2; exact ⟨o, hold _ _ ho, r⟩
  have g2' : s.heap.IsList b' (List.toArray xs') := by obtain ⟨o, ho, r⟩ := h2'; exact ⟨o, hold _ _ ho, r⟩
  have hq' : Q (decide (ansL z < ansL z')) s := hq
  refine kat_lt (hold _ _ h1) rfl (hold _ _ h1') rfl ?_
  show KatLex prog w A true _ Q [(.ref b, .ref b'), (.str (S (ansL z)) t, .str (S (ansL z')) t')] 0 s
  refine kat_cons (eqat_ints g2 g2' h3 h3' hu prog w _ _ ?_)
  by_cases e : parts z = parts z'
  · have ea := ans_of_parts e
    rw [decide_eq_true e]
    refine kat_yes (kat_cons ?_)
    refine SeqAt.EqAt.str_str _ _ _ _ prog w _ _ ?_
    rw [ea, beq_self_eq_true]
    refine kat_yes (kat_nil ?_)
    rw [ea] at hq'
    have z1 : decide (ansL z' < ansL z') = false := decide_eq_false (List.lt_irrefl _)
    rw [z1] at hq'
    exact hq'
  · rw [decide_eq_false e]
    refine kat_no ?_
    refine oneLt_lists g2 g2' h3 h3' rfl (by omega) ?_
    rw [ans_lt] at hq'
    exact hq'
end
end Mine
end
section
open PySem PySem.W PySem.Calls PySem.Spec PyProof.Rows PyProof.Rows.LCg PyProof.Rows.LCp
namespace Mine
/-- a row of the answers, as the ledger holds it -/
def RowIn (l : List (Addr × Obj)) (v : Value) (x : Int) : Prop :=
  ∃ a b n t xs k ob, v = .ref a ∧ (a, ({ cls := .type "tuple", data := .seq #[.ref b, .str (S (ansL x)) t] n } : Obj)) ∈ l ∧ (b, ob) ∈ l ∧ ob.cls = .type "list" ∧ ob.data = .seq (List.toArray xs) k ∧ IntsAre xs (parts x)
theorem RowIn.heap {h₀ h : Heap} {L : Addr} {l : List (Addr × Obj)} {v : Value} {x : Int} (N : News h₀ L h l) (r : RowIn l v x) : RowAt h v x := by
  obtain ⟨a, b, n, t, xs, k, ob, rfl, h1, h2, h3, h4, h5⟩ := r
  exact ⟨a, b, n, _, t, xs, rfl, (N _ h1).1, ⟨ob, (N _ h2).1, h3, k, h4⟩, rfl, h5⟩
theorem RowIn.mono {l l' : List (Addr × Obj)} {v : Value} {x : Int} (hs : ∀ p ∈ l, p ∈ l') (r : RowIn l v x) : RowIn l' v x := by
  obtain ⟨a, b, n, t, xs, k, ob, rfl, h1, h2, h3⟩ := r
  exact ⟨a, b, n, t, xs, k, ob, rfl, hs _ h1, hs _ h2, h3⟩
inductive RowsIn (l : List (Addr × Obj)) : List Value → List Int → Prop
  | nil : RowsIn l [] []
  | cons {v x vs xs} (h : RowIn l v x) (r : RowsIn l vs xs) : RowsIn l (v :: vs) (x :: xs)
theorem RowsIn.mono {l l' : List (Addr × Obj)} {vs : List Value} {xs : List Int} (hs : ∀ p ∈ l, p ∈ l') (r : RowsIn l vs xs) : RowsIn l' vs xs := by
  induction r with
  | nil => exact .nil
  | cons h _ ih => exact .cons (h.mono hs) ih
theorem RowsIn.snoc {l : List (Addr × Obj)} {vs : List Value} {xs : List Int} {v : Value} {x : Int} (r : RowsIn l vs xs) (h : RowIn l v x) : RowsIn l (vs ++ [v]) (xs ++ [x]) := by
  induction r with
  | nil => exact .cons h .nil
  | cons h' _ ih => exact .cons h' ih
theorem RowsIn.length {l : List (Addr × Obj)} {vs : List Value} {xs : List Int} (r : RowsIn l vs xs) : vs.length = xs.length := by
  induction r with
  | nil => rfl
  | cons _ _ ih => simp [ih]
theorem RowsIn.all {l : List (Addr × Obj)} {vs : List Value} {xs : List Int} (r : RowsIn l vs xs) : ∀ v ∈ vs, ∃ x, RowIn l v x := by
  induction r with
  | nil => intro v h; cases h
  | cons h _ ih =>
    intro v hv
    rcases List.mem_cons.mp hv with rfl | hv
    · exact ⟨_, h⟩
    · exact ih v hv
theorem RowsIn.tups {h₀ h : Heap} {L : Addr} {l : List (Addr × Obj)} {vs : List Value} {xs : List Int} (N : News h₀ L h l) (r : RowsIn l vs xs) : ∃ fs, KatTups h vs fs ∧ fs.length = vs.length ∧ ∀ f ∈ fs, ∃ (b : Addr) (ob : Obj), f = .ref b ∧ h.get? b = some ob ∧ ob.cls = .type "list" := by
  induction r with
  | nil => exact ⟨[], .nil, rfl, fun _ h => (nomatch h)⟩
  | cons h _ ih =>
    obtain ⟨fs, i1, i2, i3⟩ := ih
    obtain ⟨a, b, n, t, xs, k, ob, rfl, h1, h2, h3, h4, h5⟩ := h
    refine ⟨.ref b :: fs, .cons (N _ h1).1 rfl rfl rfl i1, by simp [i2], ?_⟩
    intro f hf
    rcases List.mem_cons.mp hf with rfl | hf
    · exact ⟨b, ob, rfl, (N _ h2).1, h3⟩
    · exact i3 f hf
/-- the texts of the rows -/
inductive Texts (l : List (Addr × Obj)) : List Value → List Value → Prop
  | nil : Texts l [] []
  | cons {v x t vs ys} (h : RowIn l v x) (r : Texts l vs ys) : Texts l (v :: vs) (.str (S (ansL x)) t :: ys)
theorem Texts.snoc {l : List (Addr × Obj)} {vs ys : List Value} {v : Value} {x : Int} {t : Tok} (r : Texts l vs ys) (h : RowIn l v x) : Texts l (vs ++ [v]) (ys ++ [.str (S (ansL x)) t]) := by
  induction r with
  | nil => exact .cons h .nil
  | cons h' _ ih => exact .cons h' ih
theorem Texts.length {l : List (Addr × Obj)} {vs ys : List Value} (r : Texts l vs ys) : ys.length = vs.length := by
  induction r with
  | nil => rfl
  | cons _ _ ih => simp [ih]
theorem Texts.strs {l : List (Addr × Obj)} {vs ys : List Value} (r : Texts l vs ys) : ∃ ss, StrsAre ys ss := by
  induction r with
  | nil => exact ⟨_, .nil⟩
  | cons _ _ ih => obtain ⟨ss, h⟩ := ih; exact ⟨_, .cons _ _ h⟩
theorem Texts.keys {h₀ h : Heap} {L : Addr} {l : List (Addr × Obj)} {vs ys : List Value} (N : News h₀ L h l) (r : Texts l vs ys) : ys.map (vkey PyProof.Rows.strKind) = vs.map (vkey (rowKind h)) := by
  induction r with
  | nil => rfl
  | cons hr _ ih =>
    rw [List.map_cons, List.map_cons, ih]
    congr 1
    show (some _).getD _ = _
    unfold vkey
    rw [rowKind_some (hr.heap N)]
    rfl
section
variable {prog : Program} {w : World} {A : Around} {E : Value → Shared → Prop} {s : Shared} {h₀ : Heap} {L : Addr} {m : Str → Option Value} {env : Env}
theorem comp_rows {x x₂ : Str} {px : Pos} {scope : Scope} {cl : List (Str × Addr)} {S' : List (Addr × Obj) → Prop} {Fin : List Value → List (Addr × Obj) → Prop} {vs : List Value} {news : List (Addr × Obj)}
    (hr : ∀ v ∈ vs, ∃ z, RowIn news v z) (hS : S' news) (hk : ∀ C, (compEnvC scope cl C env).scope.kind = .function) (hl : ∀ C, (compEnvC scope cl C env).kindOf x₂ = some .local) (hd : (x₂ == ("__debug__" : Str)) = false)
    (fin : ∀ ys, Texts news vs ys → Fin ys news) :
    CompRestP prog w A h₀ L m env (.Name x₂ px) x x₂ scope cl s S' (fun i v => vs.toArray[i]? = some v) Fin vs.toArray.size 0 [] news := by
  have go : ∀ (k i : Nat) (ys : List Value), i + k = vs.length → Texts news (vs.take i) ys →
      CompRestP prog w A h₀ L m env (.Name x₂ px) x x₂ scope cl s S' (fun i v => vs.toArray[i]? = some v) Fin k i ys news := by
    intro k
    induction k with
    | zero =>
      intro i ys e ht
      refine .zero (fin _ ?_)
      rwa [List.take_of_length_le (by omega)] at ht
    | succ k ih =>
      intro i ys e ht
      refine .succ fun v hv => ?_
      have hv' : vs[i]? = some v := by simpa using hv
      have hm : v ∈ vs := List.mem_of_getElem? hv'
      obtain ⟨z, hz⟩ := hr v hm
      obtain ⟨a, b, n, t, xs, kk, ob, rfl, h1, h2, h3⟩ := id hz
      refine ⟨a, _, _, _, n, rfl, h1, rfl, rfl, ?_⟩
      intro I oI C oC D m₂ h tk E' hC _ hx F N off _
      refine LCgL.ld_own N (List.mem_cons_of_mem _ (List.mem_cons_self)) hC hx ?_ (hk C) (hl C) hd
      refine CompEnd.intro F N news (fun p hp => hp) off hS ?_
      refine ih (i + 1) _ (by omega) ?_
      rw [List.take_add_one, hv']
      exact ht.snoc hz
  have e : vs.toArray.size = vs.length := by simp
  rw [e]
  exact go vs.length 0 [] (by omega) .nil
/-- the kind of the keys of the rows -/
theorem rows_kind {A : Around} {M : Model} {vs : List Value} {xs : List Int} {l : List (Addr × Obj)} {Q : SortKind → Shared → Prop} (N : News h₀ L s.heap l) (r : RowsIn l vs xs) (hne : 0 < vs.length) (h : Q (tuples' true) s) : wpAny M A (keyKind' vs.toArray) Q E s := by
  obtain ⟨fs, h1, h2, h3⟩ := r.tups N
  refine kat_kind (T := .type "list") h1 (by omega) ?_ rfl h
  intro f hf
  obtain ⟨b, ob, rfl, g, c⟩ := h3 f hf
  have : Looks M s.heap (typeOf (.ref b)) ob.cls := (Looks.ld g).andThen .now
  rw [c] at this
  exact this
end
end Mine
namespace Mine
theorem rows_fit {l : List (Addr × Obj)} {rv : List Value} {pre : List Int} (r : RowsIn l rv pre) (h : pre.length ≤ 16777216) : rv.toArray.size ≤ sizeLine := by
  rw [sizeLine_eq, List.size_toArray, r.length]; exact h
end Mine
namespace Mine
theorem pre_fit {a b c n : Int} {ws pre post : List Int} (e : [a, b, c] ++ ws = pre ++ n :: post) (h : ws.length ≤ 2 ^ 20) : pre.length ≤ 16777216 := by
  have := congrArg List.length e
  simp only [List.length_append, List.length_cons, List.length_nil] at this
  omega
end Mine
end
section
open PySem PySem.W PySem.Calls PySem.Spec PyProof.Rows
namespace Mine
theorem perm_sorted {α : Type} {le : α → α → Prop} (anti : ∀ a b, le a b → le b a → a = b) : ∀ (a b : List α), a.Perm b → a.Pairwise le → b.Pairwise le → a = b
  | [], b, h, _, _ => (List.nil_perm.mp h).symm
  | x :: xs, [], h, _, _ => absurd (List.perm_nil.mp h) (by simp)
  | x :: xs, y :: ys, h, ha, hb => by
    have e : x = y := by
      have h1 : x ∈ y :: ys := h.mem_iff.mp List.mem_cons_self
      have h2 : y ∈ x :: xs := h.mem_iff.mpr List.mem_cons_self
      rcases List.mem_cons.mp h1 with e | h1
      · exact e
      · rcases List.mem_cons.mp h2 with e | h2
        · exact e.symm
        · exact anti _ _ ((List.pairwise_cons.mp ha).1 _ h2) ((List.pairwise_cons.mp hb).1 _ h1)
    subst e
    rw [perm_sorted anti xs ys ((List.perm_cons x).mp h) (List.pairwise_cons.mp ha).2 (List.pairwise_cons.mp hb).2]
theorem vkey_same {h₀ h1 h2 : Heap} {L : Addr} {l1 l2 : List (Addr × Obj)} {v : Value} {x : Int} (N1 : News h₀ L h1 l1) (N2 : News h₀ L h2 l2) (hs : ∀ p ∈ l1, p ∈ l2) (r : RowIn l1 v x) : vkey (rowKind h1) v = vkey (rowKind h2) v := by
  unfold vkey
  rw [rowKind_some (r.heap N1), rowKind_some ((r.mono hs).heap N2)]
  rfl
theorem lists_same {h₀ h1 h2 h3 : Heap} {L : Addr} {l1 l2 l3 : List (Addr × Obj)} {vs vs' ys1 ys2 ys3 : List Value} (N1 : News h₀ L h1 l1) (N2 : News h₀ L h2 l2) (N3 : News h₀ L h3 l3) (s2 : ∀ p ∈ l1, p ∈ l2) (s3 : ∀ p ∈ l1, p ∈ l3)
    (hr : ∀ v ∈ vs, ∃ x, RowIn l1 v x) (hp : vs'.Perm vs) (hs : vs'.Pairwise fun x y => (rowKind h1).kle (vkey (rowKind h1) x) (vkey (rowKind h1) y)) (t1 : Texts l2 vs' ys1) (t2 : Texts l3 vs ys2)
    (hp3 : ys3.Perm ys2) (hs3 : ys3.Pairwise fun x y => PyProof.Rows.strKind.kle (vkey PyProof.Rows.strKind x) (vkey PyProof.Rows.strKind y)) :
    ys1.map (vkey PyProof.Rows.strKind) = ys3.map (vkey PyProof.Rows.strKind) := by
  have e1 : ys1.map (vkey PyProof.Rows.strKind) = vs'.map (vkey (rowKind h1)) := by
    rw [t1.keys N2]
    refine List.map_congr_left fun v hv => ?_
    obtain ⟨x, r⟩ := hr v (hp.mem_iff.mp hv)
    exact (vkey_same N1 N2 s2 r).symm
  have e2 : ys2.map (vkey PyProof.Rows.strKind) = vs.map (vkey (rowKind h1)) := by
    rw [t2.keys N3]
    refine List.map_congr_left fun v hv => ?_
    obtain ⟨x, r⟩ := hr v hv
    exact (vkey_same N1 N3 s3 r).symm
  refine perm_sorted (le := fun (a b : List Nat) => PyProof.Rows.strKind.kle a b) (fun a b p q => PyProof.Rows.strKind.kle_antisymm p q) _ _ ?_ ?_ ?_
  · have p1 := hp3.map (vkey PyProof.Rows.strKind)
    have p2 := hp.map (vkey (rowKind h1))
    rw [e1]
    refine p2.trans ?_
    rw [e2] at p1
    exact p1.symm
  · rw [e1]
    exact List.pairwise_map.mpr hs
  · exact List.pairwise_map.mpr hs3
theorem Texts.str {l : List (Addr × Obj)} {vs ys : List Value} (r : Texts l vs ys) : ∀ y ∈ ys, ∃ k t, y = .str (S k) t := by
  induction r with
  | nil => intro y h; cases h
  | cons _ _ ih =>
    intro y hy
    rcases List.mem_cons.mp hy with rfl | hy
    · exact ⟨_, _, rfl⟩
    · exact ih y hy
section
variable {prog : Program} {w : World} {A : Around} {E : Value → Shared → Prop} {s : Shared}
theorem eq_texts {l b : Addr} {ys zs : List Value} {Q : Value → Shared → Prop} (hl : s.heap.IsList l ys.toArray) (hb : s.heap.IsList b zs.toArray) (hy : ∀ y ∈ ys, ∃ k t, y = .str (S k) t) (hz : ∀ y ∈ zs, ∃ k t, y = .str (S k) t)
    (e : ys.map (vkey PyProof.Rows.strKind) = zs.map (vkey PyProof.Rows.strKind)) (hu : A.units < cLine) (h : Q (.bool true) s) : wpAny (model prog w) A (compareOp .Eq (.ref l) (.ref b)) Q E s := by
  have hlen : ys.length = zs.length := by simpa using congrArg List.length e
  refine SeqAt.eq_listAt (e := fun _ => true) hl hb (by simpa using hlen) hu (fun j h1 h2 => ?_) ?_
  · have h1' : j < ys.length := by simpa using h1
    have h2' : j < zs.length := by simpa using h2
    show SeqAt.EqAt A.in1 s (ys.toArray[j]) (zs.toArray[j]) true
    have a1 : ys.toArray[j] = ys[j] := by simp
    have a2 : zs.toArray[j] = zs[j] := by simp
    rw [a1, a2]
    obtain ⟨k, t, e1⟩ := hy ys[j] (List.getElem_mem h1')
    obtain ⟨k', t', e2⟩ := hz zs[j] (List.getElem_mem h2')
    have e3 := congrArg (fun l => l[j]?) e
    simp only [List.getElem?_map, List.getElem?_eq_getElem h1', List.getElem?_eq_getElem h2', Option.map_some, Option.some.injEq] at e3
    rw [e1, e2] at e3
    have e4 : k = k' := e3
    rw [e1, e2, e4]
    exact eqat_str _ _ _
  · have : ((List.range ys.toArray.size).all fun _ => true) = true := by simp
    rw [this]; exact h
end
end Mine
end
section
open PySem PySem.W PySem.Calls PySem.Spec PyProof.Rows
namespace Mine
/-- a code object made from a text -/
def IsCd (oc : Obj) (q : Str) : Prop := ∃ vs t, oc.data = .fields vs ∧ vs[1]? = some (.str q t)
def NoCd (oc : Obj) (q : Str) : Prop := ∀ vs t, oc.data = .fields vs → vs[1]? = some (.str q t) → False
abbrev tabOne (c : Addr) : Array Value := #[] ++ #[rawInt ((58 : Nat) : Int), rawInt ((19 : Nat) : Int), .ref c]
abbrev tabTwo (c d : Addr) : Array Value := #[] ++ #[rawInt ((58 : Nat) : Int), rawInt ((19 : Nat) : Int), .ref c] ++ #[rawInt ((59 : Nat) : Int), rawInt ((21 : Nat) : Int), .ref d]
/-- the table of the two inner codes: empty, or full -/
def Tab (l : List (Addr × Obj)) (q : Str) (T : Array Value) : Prop := T = #[] ∨ ∃ c d oc od, T = tabTwo c d ∧ (c, oc) ∈ l ∧ (d, od) ∈ l ∧ IsCd oc q ∧ IsCd od q
def Mid (l : List (Addr × Obj)) (q : Str) (c : Addr) (T : Array Value) : Prop := T = tabOne c ∨ ∃ d od, T = tabTwo c d ∧ (d, od) ∈ l ∧ IsCd od q
theorem tri_one (c : Addr) : TriplesOk (tabOne c).toList := trivial
theorem tri_two (c d : Addr) : TriplesOk (tabTwo c d).toList := trivial
theorem NoCd.seq {o : Obj} {xs : Array Value} {n : Nat} (q : Str) (h : o.data = .seq xs n) : NoCd o q := fun vs t e _ => by rw [h] at e; cases e
theorem NoCd.cell {o : Obj} {v : Option Value} (q : Str) (h : o.data = .cell v) : NoCd o q := fun vs t e _ => by rw [h] at e; cases e
theorem NoCd.tab {T : Array Value} (q : Str) (h : ∀ x t, T[1]? ≠ some (.str x t)) : NoCd (tabObj T) q := fun vs t e e2 => by
  have : T = vs := by simpa [tabObj] using e
  subst this; exact h _ _ e2
section
variable {M : Model} {A : Around} {E : Value → Shared → Prop} {s : Shared} {h₀ : Heap} {L a c P : Addr} {m mg mb : Str → Option Value} {cn : Str} {cs : Scope} {ccd : Value} {cl : List (Str × Addr)} {news : List (Addr × Obj)} {g : Obj → List (Addr × Obj)}
  {p : Program} {loose : List Str} {mean : ExcName → Option Value} {name qual : Str} {params : Arguments} {body : PySem.Expr} {scope : Scope} {ps : Array Value} {firstLine : Nat} {clos : List (Str × Addr)}
theorem apart {h : Heap} {l : List (Addr × Obj)} (N : News h₀ L h l) {c : Addr} {oc : Obj} {q : Str} (hm : (c, oc) ∈ l) (hc : IsCd oc q) {r : Addr × Obj} (hr : r ∈ l) (hn : NoCd r.2 q) : r.1 ≠ c := fun e => by
  obtain ⟨vs, t, d1, d2⟩ := hc
  have h1 := (N _ hm).1
  have h2 := (N _ hr).1
  rw [e] at h2
  have h3 : oc = r.2 := Option.some.inj (h1.symm.trans h2)
  exact hn vs t (h3 ▸ d1) d2
theorem lamA {l : Addr} {xs : Array Value} {k : Nat} {tl own : List (Addr × Obj)} {adr : List Addr} {ec : Nat} {el : Nat} {Q : Value → Shared → Prop} (F : Fr h₀ L s.heap m) (N : News h₀ L s.heap news) (T : Top p loose mean mg mb h₀) (C : CodeHd h₀ c P) (hcd : ccd = .ref c) (U : UpdF P (tabObj ps) news g)
    (hT : Tab ((l, W.listOf xs k) :: tl) qual ps) (sep : KdSep own tl adr) (hb : ∀ q ∈ tl, q ∈ news) (ho : ∀ q ∈ own, q ∈ news) (hn : ∀ q ∈ news.take 10, NoCd q.2 qual)
    (hcl : closureFor scope (envX cn cs L a ccd cl) = pure clos)
    (h : ∀ f c' oc vs t ctv h' tk ps', Fr h₀ L h' m →
      News h₀ L h' ((f, kla_obj name qual params body scope clos ((mg "__name__").getD .none) c' ctv) :: (c', oc) :: g (tabObj ps')) →
      oc.data = .fields vs → vs[1]? = some (.str qual t) → (∀ q ∈ news, q.1 < f) → c' < f → (∀ q ∈ news.take 10, @Ne Nat q.1 c') → (∀ q ∈ own, q.1 ≠ c') → Mid tl qual c' ps' → (∀ x t, ps'[1]? ≠ some (.str x t)) → Q (.ref f) { s with heap := h', toks := tk }) :
    wpAny M A (makeFunction name qual params (.expr body) scope (envX cn cs L a ccd cl) [] [] [] { line := 58, col := 19, endLine := el, endCol := ec } firstLine) Q E s := by
  rcases hT with rfl | ⟨c₁, c₂, o₁, o₂, rfl, m1, m2, i1, i2⟩
  · refine kla_nest F N T C hcd U trivial rfl hcl fun f c' oc vs t ctv h' tk F' N' e1 e2 l1 l2 => ?_
    obtain ⟨pre, post, e, hg, _, _⟩ := U.split
    refine h f c' oc vs t ctv h' tk _ F' N' e1 e2 (fun q hq => Nat.lt_trans (l1 q hq) l2) l2 (fun q hq => Nat.ne_of_lt (l1 q (List.mem_of_mem_take hq))) (fun q hq => Nat.ne_of_lt (l1 q (ho q hq))) (.inl rfl) ?_
    intro x t e; cases e
  · obtain ⟨vs, t, d1, d2⟩ := i1
    have m1' : (c₁, o₁) ∈ tl := by
      rcases List.mem_cons.mp m1 with e | h
      · cases e; cases d1
      · exact h
    have m2' : (c₂, o₂) ∈ tl := by
      rcases List.mem_cons.mp m2 with e | h
      · obtain ⟨vs, t, d1, d2⟩ := i2
        cases e; cases d1
      · exact h
    obtain ⟨pre, post, e, hg, _, _⟩ := U.split
    have hP : (P, tabObj (tabTwo c₁ c₂)) ∈ news := by rw [e]; exact List.mem_append_right _ (.head _)
    refine kla_hit (c' := c₁) F N T C hcd hP (tri_two _ _) rfl hcl fun f ctv h' tk F' N' l1 => ?_
    refine h f c₁ o₁ vs t ctv h' tk (tabTwo c₁ c₂) F' (fun q hq => ?_) d1 d2 l1 (l1 _ (hb _ m1')) (fun q hq => ?_) (fun q hq => ?_) (.inr ⟨c₂, o₂, rfl, m2', i2⟩) ?_
    · rcases List.mem_cons.mp hq with rfl | hq
      · exact N' _ List.mem_cons_self
      · rcases List.mem_cons.mp hq with rfl | hq
        · exact N' _ (List.mem_cons_of_mem _ (hb _ m1'))
        · rw [hg, ← e] at hq
          exact N' _ (List.mem_cons_of_mem _ hq)
    · exact apart N (hb _ m1') ⟨vs, t, d1, d2⟩ (List.mem_of_mem_take hq) (hn _ hq)
    · exact sep.two q hq _ (List.mem_map_of_mem m1')
    · intro x t e; cases e
theorem lamB {c₁ : Addr} {tl own : List (Addr × Obj)} {adr : List Addr} {ec : Nat} {el : Nat} {Q : Value → Shared → Prop} (F : Fr h₀ L s.heap m) (N : News h₀ L s.heap news) (T : Top p loose mean mg mb h₀) (C : CodeHd h₀ c P) (hcd : ccd = .ref c) (U : UpdF P (tabObj ps) news g)
    (hT : Mid tl qual c₁ ps) (sep : KdSep own tl adr) (hb : ∀ q ∈ tl, q ∈ news) (ho : ∀ q ∈ own, q ∈ news) (hn : ∀ q ∈ (news.drop 2).take 10, NoCd q.2 qual)
    (hcl : closureFor scope (envX cn cs L a ccd cl) = pure clos)
    (h : ∀ f c' oc vs t ctv h' tk, Fr h₀ L h' m →
      News h₀ L h' ((f, kla_obj name qual params body scope clos ((mg "__name__").getD .none) c' ctv) :: (c', oc) :: g (tabObj (tabTwo c₁ c'))) →
      oc.data = .fields vs → vs[1]? = some (.str qual t) → (∀ q ∈ news, q.1 < f) → c' < f → (∀ q ∈ (news.drop 2).take 10, @Ne Nat q.1 c') → (∀ q ∈ own, q.1 ≠ c') → Q (.ref f) { s with heap := h', toks := tk }) :
    wpAny M A (makeFunction name qual params (.expr body) scope (envX cn cs L a ccd cl) [] [] [] { line := 59, col := 21, endLine := el, endCol := ec } firstLine) Q E s := by
  rcases hT with rfl | ⟨c₂, o₂, rfl, m2', i2⟩
  · refine kla_nest F N T C hcd U (tri_one _) rfl hcl fun f c' oc vs t ctv h' tk F' N' e1 e2 l1 l2 => ?_
    exact h f c' oc vs t ctv h' tk F' N' e1 e2 (fun q hq => Nat.lt_trans (l1 q hq) l2) l2 (fun q hq => Nat.ne_of_lt (l1 q (List.mem_of_mem_drop (List.mem_of_mem_take hq)))) (fun q hq => Nat.ne_of_lt (l1 q (ho q hq)))
  · obtain ⟨vs, t, d1, d2⟩ := i2
    obtain ⟨pre, post, e, hg, _, _⟩ := U.split
    have hP : (P, tabObj (tabTwo c₁ c₂)) ∈ news := by rw [e]; exact List.mem_append_right _ (.head _)
    refine kla_hit (c' := c₂) F N T C hcd hP (tri_two _ _) rfl hcl fun f ctv h' tk F' N' l1 => ?_
    refine h f c₂ o₂ vs t ctv h' tk F' (fun q hq => ?_) d1 d2 l1 (l1 _ (hb _ m2')) (fun q hq => ?_) (fun q hq => ?_)
    · rcases List.mem_cons.mp hq with rfl | hq
      · exact N' _ List.mem_cons_self
      · rcases List.mem_cons.mp hq with rfl | hq
        · exact N' _ (List.mem_cons_of_mem _ (hb _ m2'))
        · rw [hg, ← e] at hq
          exact N' _ (List.mem_cons_of_mem _ hq)
    · exact apart N (hb _ m2') ⟨vs, t, d1, d2⟩ (List.mem_of_mem_drop (List.mem_of_mem_take hq)) (hn _ hq)
    · exact sep.two q hq _ (List.mem_map_of_mem m2')
end
end Mine
namespace Mine
theorem no_below {own : List (Addr × Obj)} {c : Addr} (h : ∀ q ∈ own, q.1 ≠ c) : ∀ q ∈ ([] : List (Addr × Obj)), q.1 < c := fun _ h => (nomatch h)
end Mine
end
section
open PySem PySem.W PySem.Calls PySem.Spec PyProof.Rows
namespace Mine
/-- the qualified name of the two inner codes -/
abbrev lamQ : Str := (Str.ofString "_law_date" ++ Str.ofString ".<locals>.") ++ Str.ofString "<lambda>"
def Fa (l9 : List (Addr × Obj)) (c : List Value × Nat × Array Value × List Int) : Prop := RowsIn l9 c.1 c.2.2.2 ∧ Tab l9 lamQ c.2.2.1
theorem tab_no {l : List (Addr × Obj)} {q : Str} {T : Array Value} (h : Tab l q T) : ∀ x t, T[1]? ≠ some (.str x t) := by
  rcases h with rfl | ⟨c, d, oc, od, rfl, _⟩
  · intro x t e; cases e
  · intro x t e; cases e
section
variable {prog : Program} {w : World} {A : Around} {E : Value → Shared → Prop} {s : Shared} {env : Env} {h₀ : Heap} {x : Str} {body : List Stmt} {Q : Flow → Shared → Prop}
theorem loop_rows {l r : Addr} {vs : List Value} {ns : List Int} {nn k0 : Nat} {m₀ : Str → Option Value} {news : List (Addr × Obj)} (stored : List Str)
    (hh : A.handled = none) (hl : (l, W.listOf vs.toArray nn) ∈ news) (hi : IntsAre vs ns) (F : Fr h₀ env.locals s.heap m₀) (N : News h₀ env.locals s.heap news)
    (hro : m₀ "rows" = some (.ref r)) (hr : (r, W.listOf #[] k0) ∈ news) (ht : (118, tabObj #[]) ∈ news)
    (turn : ∀ (rv : List Value) (rk : Nat) (T : Array Value) (tl : List (Addr × Obj)) (pre post : List Int) n t (u : Str → Option Value) h tk own, ns = pre ++ n :: post → KdSep own tl [r, 118, l] → OwnOff (tl ++ own) [r, 118, l] → RowsIn ((l, W.listOf vs.toArray nn) :: tl) rv pre → Tab ((l, W.listOf vs.toArray nn) :: tl) lamQ T →
      Fr h₀ env.locals h (fun y => if y = x then some (.int n t) else if stored.contains y then u y else m₀ y) → News h₀ env.locals h ((r, W.listOf rv.toArray rk) :: (118, tabObj T) :: (l, W.listOf vs.toArray nn) :: (tl ++ own)) →
      wpAny (model prog w) A (execs body env) (InvPostG h₀ env.locals (KdS (fun (c : List Value × Nat × Array Value × List Int) => [(r, W.listOf c.1.toArray c.2.1), (118, tabObj c.2.2.1)]) [(l, W.listOf vs.toArray nn)] (fun _ => []) Fa x stored m₀ (fun pre c => c.2.2.2 = pre) [r, 118, l] (pre ++ [n])) own { s with heap := h, toks := tk } Q) E { s with heap := h, toks := tk })
    (done : ∀ (rv : List Value) (rk : Nat) (T : Array Value) (tl : List (Addr × Obj)) (u : Str → Option Value) h tk, OwnOff tl [r, 118, l] → RowsIn ((l, W.listOf vs.toArray nn) :: tl) rv ns →
      Fr h₀ env.locals h (fun y => if y = x then u y else if stored.contains y then u y else m₀ y) → News h₀ env.locals h ((r, W.listOf rv.toArray rk) :: (118, tabObj T) :: (l, W.listOf vs.toArray nn) :: tl) → Q .next { s with heap := h, toks := tk }) :
    wpAny (model prog w) A (pyIter (.ref l)) (fun it s₂ => LoopAtV prog w A h₀ env x body Q E it s₂) E s := by
  refine kd_listI (fun (c : List Value × Nat × Array Value × List Int) => [(r, W.listOf c.1.toArray c.2.1), (118, tabObj c.2.2.1)]) [(l, W.listOf vs.toArray nn)] (fun _ => []) Fa stored (fun pre c => c.2.2.2 = pre) [r, 118, l] ([], k0, #[], []) hh List.mem_cons_self hi F N ?_ (fun _ => rfl) ⟨.nil, .inl rfl⟩ (fun _ hp => (nomatch hp)) rfl ?_ ?_
  · intro p hp
    rcases List.mem_cons.mp hp with rfl | hp
    · exact hr
    · rcases List.mem_cons.mp hp with rfl | hp
      · exact ht
      · rcases List.mem_cons.mp hp with rfl | hp
        · exact hl
        · cases hp
  · rintro ⟨rv, rk, T, xs⟩ tl pre post n t u h tk own e _ sep off ⟨f1, f2⟩ hp F' N'
    have hp' : xs = pre := hp
    subst hp'
    exact turn rv rk T tl xs post n t u h tk own e sep off f1 f2 F' N'
  · rintro ⟨rv, rk, T, xs⟩ tl u h tk off ⟨f1, _⟩ hp F' N'
    have hp' : xs = ns := hp
    subst hp'
    exact done rv rk T tl u h tk off f1 F' N'
theorem loop_rowsP {l r : Addr} {vs : List Value} {ns : List Int} {nn k0 : Nat} {m₀ : Str → Option Value} {news : List (Addr × Obj)} (stored : List Str)
    (hh : A.handled = none) (hl : (l, W.listOf vs.toArray nn) ∈ news) (hi : IntsAre vs ns) (F : Fr h₀ env.locals s.heap m₀) (N : News h₀ env.locals s.heap news)
    (hro : m₀ "rows" = some (.ref r)) (hr : (r, W.listOf #[] k0) ∈ news) (ht : (118, tabObj #[]) ∈ news)
    (turn : ∀ (rv : List Value) (rk : Nat) (T : Array Value) (tl : List (Addr × Obj)) (pre post : List Int) n t (u : Str → Option Value) h tk own, ns = pre ++ n :: post → KdSep own tl [r, 118, l] → OwnOff (tl ++ own) [r, 118, l] → RowsIn ((l, W.listOf vs.toArray nn) :: tl) rv pre → Tab ((l, W.listOf vs.toArray nn) :: tl) lamQ T →
      Fr h₀ env.locals h (fun y => if y = x then some (.int n t) else if stored.contains y then u y else m₀ y) → News h₀ env.locals h ((r, W.listOf rv.toArray rk) :: (118, tabObj T) :: (l, W.listOf vs.toArray nn) :: (tl ++ own)) →
      ∀ (P : Flow → Shared → Prop), (∀ s', InvEndG h₀ env.locals (KdS (fun (c : List Value × Nat × Array Value × List Int) => [(r, W.listOf c.1.toArray c.2.1), (118, tabObj c.2.2.1)]) [(l, W.listOf vs.toArray nn)] (fun _ => []) Fa x stored m₀ (fun pre c => c.2.2.2 = pre) [r, 118, l] (pre ++ [n])) own { s with heap := h, toks := tk } s' → P .next s') → wpAny (model prog w) A (execs body env) P (fun _ _ => False) { s with heap := h, toks := tk })
    (done : ∀ (rv : List Value) (rk : Nat) (T : Array Value) (tl : List (Addr × Obj)) (u : Str → Option Value) h tk, OwnOff tl [r, 118, l] → RowsIn ((l, W.listOf vs.toArray nn) :: tl) rv ns →
      Fr h₀ env.locals h (fun y => if y = x then u y else if stored.contains y then u y else m₀ y) → News h₀ env.locals h ((r, W.listOf rv.toArray rk) :: (118, tabObj T) :: (l, W.listOf vs.toArray nn) :: tl) → Q .next { s with heap := h, toks := tk }) :
    wpAny (model prog w) A (pyIter (.ref l)) (fun it s₂ => LoopAtV prog w A h₀ env x body Q E it s₂) E s := by
  exact loop_rows stored hh hl hi F N hro hr ht (fun rv rk T tl pre post n t u h tk own a b c d e f g => wpAny_noRaise (turn rv rk T tl pre post n t u h tk own a b c d e f g _ fun _ hE => hE)) done
end
theorem forget7 {P : Prop} {h₀ h : Heap} {L l8 l9 : Addr} {o8 : Obj} {v1 v2 v3 v4 v5 v6 v7 : Int} {t1 t2 t3 t4 t5 t6 t7 : Tok} {n : Nat} {rest : List (Addr × Obj)}
    (N : News h₀ L h ((l8, o8) :: (l9, W.listOf #[.int v1 t1, .int v2 t2, .int v3 t3, .int v4 t4, .int v5 t5, .int v6 t6, .int v7 t7] n) :: rest))
    (k : ∀ u1 u2 u3 u4 u5 u6 u7 : Tok, News h₀ L h ((l9, W.listOf #[.int v1 u1, .int v2 u2, .int v3 u3, .int v4 u4, .int v5 u5, .int v6 u6, .int v7 u7] n) :: rest) → P) : P :=
  k _ _ _ _ _ _ _ fun p hp => N p (.tail _ hp)
theorem look {d a : Addr} {o : Obj} {l : List (Addr × Obj)} (h : ∀ p ∈ l, p.1 < d) (m : (a, o) ∈ l) : @LT.lt Nat _ a d := h _ m
theorem look2 {d e a : Addr} {o : Obj} {l : List (Addr × Obj)} (h2 : @LT.lt Nat _ d e) (h : ∀ p ∈ l, p.1 < d) (m : (a, o) ∈ l) : @LT.lt Nat _ a e := Nat.lt_trans (h _ m) h2
theorem look1 {d a : Nat} (h : a < d) : a < d + 1 := Nat.lt_succ_of_lt h
def keep {α : Type} : List Bool → List α → List α
  | [], l => l
  | _ :: _, [] => []
  | true :: m, a :: l => a :: keep m l
  | false :: m, _ :: l => keep m l
theorem keep_mem {α : Type} {p : α} : ∀ {m : List Bool} {l : List α}, p ∈ keep m l → p ∈ l
  | [], _, h => h
  | _ :: _, [], h => h
  | true :: m, a :: l, h => by
    rcases List.mem_cons.mp (show p ∈ a :: keep m l from h) with rfl | h
    · exact .head _
    · exact .tail _ (keep_mem h)
  | false :: m, _ :: l, h => .tail _ (keep_mem (show p ∈ keep m l from h))
theorem news_keep {h₀ h : Heap} {L : Addr} {l : List (Addr × Obj)} (m : List Bool) (N : News h₀ L h l) : News h₀ L h (keep m l) := fun p hp => N p (keep_mem hp)
theorem news_sub {P : Prop} {h₀ h : Heap} {L : Addr} {l l' : List (Addr × Obj)} (N : News h₀ L h l) (hs : l'.Sublist l) (k : News h₀ L h l' → P) : P := k fun p hp => N p (hs.subset hp)
end Mine
end
section
open PySem PySem.W PySem.Calls PySem.Spec PyProof.Rows
namespace Mine
theorem row_end {h₀ h' : Heap} {L r l a b c1 c2 : Addr} {ol ob o1 o2 : Obj} {m₀ m' : Str → Option Value} {news' tl own : List (Addr × Obj)} {x : Str} {stored : List Str} {rv bs : List Value} {rk n k : Nat} {pre : List Int} {v : Int} {z : List Nat} {t : Tok} {s₁ : Shared} {tk : Nat}
    (h0 : KdSep own tl [r, 118, l]) (F : Fr h₀ L h' m') (N : News h₀ L h' news') (hrows : RowsIn ((l, ol) :: tl) rv pre)
    (hr : (r, W.listOf (rv.toArray.push (.ref a)) rk) ∈ news') (ha : (a, ({ cls := .type "tuple", data := .seq #[.ref b, .str (S z) t] n } : Obj)) ∈ news') (hb : (b, ob) ∈ news') (hb1 : ob.cls = .type "list") (hb2 : ob.data = .seq (List.toArray bs) k)
    (ht : (118, tabObj (tabTwo c1 c2)) ∈ news') (h1 : (c1, o1) ∈ news') (h2 : (c2, o2) ∈ news') (i1 : IsCd o1 lamQ) (i2 : IsCd o2 lamQ) (hl : (l, ol) ∈ news') (htl : ∀ p ∈ tl, p ∈ news') (ho : ∀ p ∈ own, p ∈ news')
    (na : @Ne Nat r a ∧ @Ne Nat 118 a ∧ @Ne Nat l a) (nb : @Ne Nat r b ∧ @Ne Nat 118 b ∧ @Ne Nat l b) (n1 : @Ne Nat r c1 ∧ @Ne Nat 118 c1 ∧ @Ne Nat l c1) (n2 : @Ne Nat r c2 ∧ @Ne Nat 118 c2 ∧ @Ne Nat l c2)
    (wa : ∀ p ∈ own, p.1 ≠ a) (wb : ∀ p ∈ own, p.1 ≠ b) (w1 : ∀ p ∈ own, p.1 ≠ c1) (w2 : ∀ p ∈ own, p.1 ≠ c2) (hz : ansL v = z) (hi : IntsAre bs (parts v))
    (hst : ∀ z, z ≠ x → (∀ p ∈ ([] : List (Str × Value)), z ≠ p.1) → stored.contains z = false → m' z = m₀ z) :
    InvEndG h₀ L (KdS (fun (c : List Value × Nat × Array Value × List Int) => [(r, W.listOf c.1.toArray c.2.1), (118, tabObj c.2.2.1)]) [(l, ol)] (fun _ => []) Fa x stored m₀ (fun pre c => c.2.2.2 = pre) [r, 118, l] (pre ++ [v])) own s₁ { s₁ with heap := h', toks := tk } := by
  have e : rv.toArray.push (Value.ref a) = (rv ++ [Value.ref a]).toArray := by simp
  rw [e] at hr
  subst hz
  refine kd_end (Led := fun (c : List Value × Nat × Array Value × List Int) => [(r, W.listOf c.1.toArray c.2.1), (118, tabObj c.2.2.1)]) (cst := [(l, ol)]) (tl := tl) (rv ++ [.ref a], rk, tabTwo c1 c2, pre ++ [v]) [(a, ({ cls := .type "tuple", data := .seq #[.ref b, .str (S (ansL v)) t] n } : Obj)), (b, ob), (c1, o1), (c2, o2)] h0 F N ?_ ho rfl ?_ ?_ (fun _ hp => (nomatch hp)) hst ⟨?_, ?_⟩ rfl
  · intro p hp
    simp only [List.cons_append, List.nil_append, List.mem_cons] at hp
    rcases hp with rfl | rfl | rfl | rfl | rfl | rfl | rfl | hp
    · exact hr
    · exact ht
    · exact hl
    · exact ha
    · exact hb
    · exact h1
    · exact h2
    · exact htl _ hp
  · intro q hq b' hb'
    simp only [List.mem_cons, List.not_mem_nil, or_false] at hq hb'
    rcases hq with rfl | rfl | rfl | rfl
    · rcases hb' with rfl | rfl | rfl
      · exact na.1
      · exact na.2.1
      · exact na.2.2
    · rcases hb' with rfl | rfl | rfl
      · exact nb.1
      · exact nb.2.1
      · exact nb.2.2
    · rcases hb' with rfl | rfl | rfl
      · exact n1.1
      · exact n1.2.1
      · exact n1.2.2
    · rcases hb' with rfl | rfl | rfl
      · exact n2.1
      · exact n2.2.1
      · exact n2.2.2
  · intro q hq
    simp only [List.mem_cons, List.not_mem_nil, or_false] at hq
    rcases hq with rfl | rfl | rfl | rfl
    · exact wa
    · exact wb
    · exact w1
    · exact w2
  · refine (hrows.mono fun p hp => ?_).snoc ⟨a, b, n, t, bs, k, ob, rfl, by simp, by simp, hb1, hb2, hi⟩
    rcases List.mem_cons.mp hp with rfl | hp
    · simp
    · simp [hp]
  · exact .inr ⟨c1, c2, o1, o2, rfl, by simp, by simp, i1, i2⟩
end Mine
namespace Mine
variable {v vY vM vD vH vI vS : Int}
theorem ans_of (hY : v.fmod 9999 + 1 = vY) (hM : v.fmod 12 + 1 = vM) (hD : (v.fdiv 12).fmod 28 + 1 = vD) (hH : (v.fdiv 3).fmod 24 = vH) (hI : (v.fdiv 5).fmod 60 = vI) (hS : v.fmod 60 = vS) : ansL v = signs vY vM vD vH vI vS := by
  subst hY hM hD hH hI hS; rfl
theorem ints_of {t1 t2 t3 t4 t5 t6 : Tok} (hY : v.fmod 9999 + 1 = vY) (hM : v.fmod 12 + 1 = vM) (hD : (v.fdiv 12).fmod 28 + 1 = vD) (hH : (v.fdiv 3).fmod 24 = vH) (hI : (v.fdiv 5).fmod 60 = vI) (hS : v.fmod 60 = vS) :
    IntsAre [.int vY t1, .int vM t2, .int vD t3, .int vH t4, .int vI t5, .int vS t6] (parts v) := by
  subst hY hM hD hH hI hS
  exact .cons _ _ (.cons _ _ (.cons _ _ (.cons _ _ (.cons _ _ (.cons _ _ .nil)))))
end Mine
namespace Mine
theorem append_rows {prog : Program} {w : World} {A : Around} {E : Value → Shared → Prop} {s : Shared} {h₀ : Heap} {L D : Addr} {m : Str → Option Value} {news news' l9 : List (Addr × Obj)} {rv : List Value} {rk : Nat} {pre : List Int} {x : Value} {Q : Value → Shared → Prop} (F : Fr h₀ L s.heap m) (N : News h₀ L s.heap news) (r : RowsIn l9 rv pre) (hm : (D, W.listOf rv.toArray rk) ∈ news) (hlen : pre.length ≤ 16777216)
    (U : Upd D (W.listOf rv.toArray rk) (W.listOf (rv.toArray.push x) (rk + 1)) news news') (h : ∀ h', Fr h₀ L h' m → News h₀ L h' news' → Q .none { s with heap := h' }) : wpAny (model prog w) A (call (.builtin "list.append") [.ref D, x]) Q E s :=
  append_K F N U h (hsz := rows_fit r hlen)
end Mine
namespace Mine
theorem append_made {prog : Program} {w : World} {A : Around} {E : Value → Shared → Prop} {s : Shared} {h₀ : Heap} {L D : Addr} {m : Str → Option Value} {news news' : List (Addr × Obj)} {its : Array Value} {n : Nat} {x : Value} {Q : Value → Shared → Prop} (F : Fr h₀ L s.heap m) (N : News h₀ L s.heap news) (hm : (D, W.listOf its n) ∈ news) (hlen : its.size ≤ sizeLine)
    (U : Upd D (W.listOf its n) (W.listOf (its.push x) (n + 1)) news news') (h : ∀ h', Fr h₀ L h' m → News h₀ L h' news' → Q .none { s with heap := h' }) : wpAny (model prog w) A (call (.builtin "list.append") [.ref D, x]) Q E s :=
  append_K F N U h (hsz := hlen)
end Mine
end
section
open PySem PySem.W PySem.Calls PySem.Spec PyProof.Rows PyProof.Rows.LCg PyProof.Rows.LCp
namespace Mine
section
variable {prog : Program} {w : World} {A : Around} {E : Value → Shared → Prop} {s : Shared} {h₀ : Heap} {L : Addr} {m : Str → Option Value}
theorem sorted_rows {l9 news : List (Addr × Obj)} {r : Addr} {rv : List Value} {rk : Nat} {xs : List Int} {Q : Value → Shared → Prop} (F : Fr h₀ L s.heap m) (N : News h₀ L s.heap news) (hm : (r, W.listOf rv.toArray rk) ∈ news) (hsub : ∀ p ∈ l9, p ∈ news)
    (hr : RowsIn l9 rv xs) (h2 : 2 ≤ xs.length) (h66 : xs.length ≤ 66) (hu : A.in1.in1.units + 64 < cLine)
    (h : ∀ (D : Addr) (h' : Heap) (vs' : List Value) (e : Nat), Fr h₀ L h' m → News h₀ L h' ((D, seqObj "list" vs'.toArray e) :: news) → (∀ p ∈ news, p.1 < D) → vs'.Perm rv → (vs'.Pairwise fun x y => (rowKind s.heap).kle (vkey (rowKind s.heap) x) (vkey (rowKind s.heap) y)) → Q (.ref D) { s with heap := h' }) :
    wpAny (model prog w) A (call (.builtin "sorted") [.ref r]) Q E s := by
  have hlen := hr.length
  have N9 : News h₀ L s.heap l9 := fun p hp => N p (hsub p hp)
  refine sorted_SN (knd := tuples' true) (κ := rowKind s.heap) F N ⟨_, (N _ hm).1, rfl, rk, rfl⟩ (fun s' old E Q hq => ?_) (fun s' old => ?_) (fun v hv => ?_) (by omega) (by omega) fun h' vs' e F' N' l1 hp hs => h _ h' vs' e F' N' l1 hp hs
  · have N' : News h₀ L s'.heap l9 := fun p hp => ⟨old _ _ (Nat.ne_of_lt (Heap.lt_size (N9 p hp).1)) (N9 p hp).1, (N9 p hp).2⟩
    exact rows_kind N' hr (by omega) hq
  · exact rows_lt (fun a o e => old a o (Nat.ne_of_lt (Heap.lt_size e)) e) hu
  · obtain ⟨x, hx⟩ := hr.all v hv
    exact ⟨_, rowKind_some (hx.heap N9)⟩
theorem texts_kind {A : Around} {M : Model} {ys : List Value} {Q : SortKind → Shared → Prop} (hS : ∃ ss, StrsAre ys ss) (h2 : 2 ≤ ys.length) (h : Q oneType' s) : wpAny M A (keyKind' ys.toArray) Q E s := by
  obtain ⟨ss, hS⟩ := hS
  match ys, h2 with
  | v₁ :: v₂ :: vs, _ =>
    rw [keyKind_strs hS]
    exact wpAny_pure h
theorem sorted_texts {l9 news : List (Addr × Obj)} {r : Addr} {rv ys : List Value} {rk : Nat} {Q : Value → Shared → Prop} (F : Fr h₀ L s.heap m) (N : News h₀ L s.heap news) (hm : (r, W.listOf ys.toArray rk) ∈ news)
    (hr : Texts l9 rv ys) (h2 : 2 ≤ rv.length) (h66 : rv.length ≤ 66)
    (h : ∀ (D : Addr) (h' : Heap) (vs' : List Value) (e : Nat), Fr h₀ L h' m → News h₀ L h' ((D, seqObj "list" vs'.toArray e) :: news) → (∀ p ∈ news, p.1 < D) → vs'.Perm ys → (vs'.Pairwise fun x y => PyProof.Rows.strKind.kle (vkey PyProof.Rows.strKind x) (vkey PyProof.Rows.strKind y)) → Q (.ref D) { s with heap := h' }) :
    wpAny (model prog w) A (call (.builtin "sorted") [.ref r]) Q E s := by
  have hlen := hr.length
  refine sorted_SN (knd := oneType') (κ := PyProof.Rows.strKind) F N ⟨_, (N _ hm).1, rfl, rk, rfl⟩ (fun s' old E Q hq => ?_) (fun s' old => ?_) (fun v hv => ?_) (by omega) (by omega) fun h' vs' e F' N' l1 hp hs => h _ h' vs' e F' N' l1 hp hs
  · exact texts_kind hr.strs (by omega) hq
  · intro E x y a b Q hx hy hq
    rw [keyLt'_oneType]
    exact PyProof.Rows.strKind_oneLt _ _ _ _ _ _ _ _ _ hx hy hq
  · obtain ⟨k, t, rfl⟩ := hr.str v hv
    exact ⟨_, rfl⟩
theorem small_fit {vs : List Value} (h : vs.length ≤ 66) : vs.toArray.size ≤ sizeLine := by rw [sizeLine_eq, List.size_toArray]; omega
end
end Mine
end
section
open PySem PySem.W PyProof.Rows
local macro_rules | `(tactic| walk_at $s:str) => `(tactic| k_extra $s)
local macro_rules | `(tactic| k_ne) => `(tactic| (refine neN ?_; (try dsimp only); first | (with_reducible assumption) | (refine Ne.symm ?_; with_reducible assumption) | (refine Nat.ne_of_lt ?_; with_reducible assumption) | (refine Nat.ne_of_gt ?_; with_reducible assumption) | (refine Nat.ne_of_lt ?_; first | exact Mine.look (by with_reducible assumption) (by k_mem) | exact Mine.look2 (by with_reducible assumption) (by with_reducible assumption) (by k_mem) | (refine Mine.look1 ?_; first | exact Mine.look (by with_reducible assumption) (by k_mem) | (refine Mine.look1 ?_; first | exact Mine.look (by with_reducible assumption) (by k_mem) | (refine Mine.look1 ?_; exact Mine.look (by with_reducible assumption) (by k_mem))))) | (refine Nat.ne_of_gt ?_; first | exact Mine.look (by with_reducible assumption) (by k_mem) | exact Mine.look2 (by with_reducible assumption) (by with_reducible assumption) (by k_mem) | (refine Mine.look1 ?_; first | exact Mine.look (by with_reducible assumption) (by k_mem) | (refine Mine.look1 ?_; first | exact Mine.look (by with_reducible assumption) (by k_mem) | (refine Mine.look1 ?_; exact Mine.look (by with_reducible assumption) (by k_mem))))) | omega | ((repeat (with_reducible rename ∀ p ∈ (_ : List (Addr × Obj)), p.1 < (_ : Addr) => hAll; replace hAll := allLt_of hAll; simp only [AllLt, and_true] at hAll)); omega)))
local macro_rules | `(tactic| k_lt $_h:ident) => `(tactic| skip)
local macro_rules | `(tactic| kd_above) => `(tactic| with_reducible assumption)
set_option rowWalk.seconds 0 in
set_option maxRecDepth 100000 in
set_option maxHeartbeats 80000000 in
theorem PySem.Challenge.cw_kn0111_01_holds : PySem.Challenge.rw_kn0111_01.Holds := by
  refine Mine.hd ?_
  k_with "tree" => exact Mine.two_eq _ (by first | assumption | omega)
  k_with "getMethod ref" => (k_here; k_dflt (refine' kmu_own ?k1 ?k2 ?k3 ?k4 ?k5 ?_; (case k1 => k_asm); (case k2 => k_asm); (case k3 => k_inst); (case k4 => k_is); (case k5 => k_is); k_whole))
  k_with "callWith ref" => (k_here; kn_here; k_dflt (refine' Mine.callWith_made_kw ?k1 ?k2 ?_; (case k1 => exact FnAt.of (by k_asm) (by k_mem)); (case k2 => exact rfl); k_whole))
  k_with "call ref" => (k_here; kn_here; k_dflt (refine wpAny_call ?_; (refine' Mine.lam_kw ?k1 ?k2 ?k3 ?k4 ?k5 ?kA ?kF ?kK ?k6 ?k7 ?k8 ?k9 ?kT ?kD ?kB ?_ ?c2 ?c3 ?c4 ?c5; (case kA => exact rfl); (case kF => exact rfl); (case kK => exact rfl); (case k1 => k_asm); (case k2 => k_asm); (case k3 => k_asm); (case k4 => k_asm); (case k5 => k_asm); (case k6 => k_mem); (case k7 => exact codeRec_news (by k_asm) (by k_mem) (by assumption) (by assumption)); (case k8 => k_room); (case k9 => exact rfl); (case kT => exact fun _ => rfl); (case kD => kp_flats); (case c5 => decide); (case kB => exact fun _ => locs rfl); (case c2 => exact rfl); (case c3 => exact rfl); (case c4 => exact rfl); k_whole; intro D' o' g' L' h' tk' l1 lo' hs' fs' FG' F' N' B' X' T'; (try k_lt l1); (try dsimp only); (try k_lift B'); (try k_fold))))
  k_with "subscriptTail Name Constant ref int" => (k_here; (with_reducible show wpAny _ _ (subscriptTail _ (PySem.Expr.Constant _ _ _) (Value.ref _) (Value.int _ _)) _ _ _); (with_unfolding_all refine' Mine.item_made ?k1 ?k2 ?k3 ?k4 ?k5 ?_ ?k6; (case k1 => k_asm); (case k2 => k_memK); (case k3 => decide); (case k4 => decide); (case k5 => exact rfl); (case k6 => with_unfolding_all rfl); k_whole))
  k_with "call ref" => (k_here; k_call_by "_law_two" Mine.two (fun n => 0 ≤ n ∧ n < 100))
  k_with "binaryOp Add str str" => (k_here; (with_reducible show wpAny _ _ (binaryOp Operator.Add (Value.str _ _) (Value.str _ _)) _ _ _); (refine' Mine.add_S ?e1 ?e2 ?hl ?hc ?_; (case e1 => first | (with_reducible exact rfl) | (with_reducible exact Mine.lit_dash) | (with_reducible exact Mine.lit_T) | (with_reducible exact Mine.lit_colon) | (with_reducible exact Mine.two_S _)); (case e2 => first | (with_reducible exact rfl) | (with_reducible exact Mine.lit_dash) | (with_reducible exact Mine.lit_T) | (with_reducible exact Mine.lit_colon) | (with_reducible exact Mine.two_S _)); (case hl => exact Nat.le_of_ble_eq_true rfl); (case hc => simp only [List.cons_append, List.nil_append]; exact rfl)); intro _ _)
  k_with "inplaceOp Add str str" => (k_here; (with_reducible show wpAny _ _ (inplaceOp Operator.Add (Value.str _ _) (Value.str _ _)) _ _ _); (refine' Mine.iadd_S ?e1 ?e2 ?hl ?hc ?_; (case e1 => first | (with_reducible exact rfl) | (with_reducible exact Mine.lit_dash) | (with_reducible exact Mine.lit_T) | (with_reducible exact Mine.lit_colon) | (with_reducible exact Mine.two_S _)); (case e2 => first | (with_reducible exact rfl) | (with_reducible exact Mine.lit_dash) | (with_reducible exact Mine.lit_T) | (with_reducible exact Mine.lit_colon) | (with_reducible exact Mine.two_S _)); (case hl => exact Nat.le_of_ble_eq_true rfl); (case hc => simp only [List.cons_append, List.nil_append]; exact rfl)); intro _ _)
  k_with "call builtin:str.replace" => (k_here; (refine' Mine.replace_S ?hn ?hx ?hl ?hc ?_; (case hn => assumption); (case hx => with_reducible exact rfl); (case hl => exact Nat.le_of_ble_eq_true rfl); (case hc => simp only [List.filter_cons, List.filter_nil, Mine.fig_ne _ 45 (by decide), Nat.reduceBNe, if_true, Bool.false_eq_true, if_false, bne_self_eq_false]; exact rfl)); intro _ _)
  k_with "execs cons" => (k_here; (with_reducible refine Mine.gen_toks ?_); intro tk hTk)
  k_with "execs nil" => (k_here; (with_reducible refine Mine.gen_toks ?_); intro tk hTk)
  k_with "compareOp NotEq ref ref" => (k_here; (with_reducible show wpAny _ _ (compareOp CmpOp.NotEq (Value.ref _) (Value.ref _)) _ _ _); (with_reducible rename News _ _ _ _ => gpN); (try simp only [List.push_toArray, List.nil_append, List.cons_append] at gpN); k_dflt (refine' Mine.ne_lists ?h1 ?h2 ?hu ?sa ?_; (case h1 => exact News.isList gpN (by k_mem)); (case h2 => exact News.isList gpN (by k_mem)); (case hu => k_units); (case sa => (repeat' (first
        | exact Mine.SameAll.nil
        | (refine' Mine.SameAll.cons ?_ ?_)
        | exact Mine.Same.str _ _ _
        | exact Mine.Same.int _ _ _
        | exact Mine.Same.refl _
        | (k_dflt (refine' Mine.Same.dicts ?hne ?hN ?p1 ?p2 ?d1 ?d2 ?l1 ?l2 ?hl ?hu ?hh; (case hN => exact gpN); (case p1 => k_mem); (case p2 => k_mem); (case d1 => assumption); (case d2 => assumption); (case hne => k_ne); (case l1 => assumption); (case l2 => assumption); (case hl => exact rfl); (case hu => k_units); (case hh => refine Mine.hits_one ?_; first | exact Mine.eqat_str _ _ _ | exact SeqAt.EqAt.same _)))
        | (k_dflt (refine' Mine.Same.lists ?hne ?h1 ?h2 ?hu ?_; (case h1 => exact News.isList gpN (by k_mem)); (case h2 => exact News.isList gpN (by k_mem)); (case hne => k_ne); (case hu => k_units))))))))
  k_with "call builtin:len" => (k_here; (with_reducible refine Mine.len_17 ?_))
  k_with "subscriptTail Name Constant str int" => (k_here; first | (with_reducible refine Mine.item_8 ?_) | (with_reducible refine Mine.item_11 ?_) | (with_reducible refine Mine.item_14 ?_)); intro _ _
  k_with "compareOp NotEq str str" => (k_here; (with_reducible refine Mine.ne_T ?_))
  k_with "subscriptTail Name Slice str ref" => (k_here; (with_reducible show wpAny _ _ (subscriptTail _ (Expr.Slice _ _ _ _) (Value.str (Mine.S _) _) (Value.ref _)) _ _ _); ((with_reducible rename Fr _ _ _ _ => F'); (with_reducible rename News _ _ _ _ => N'); (try dsimp only); first
    | ((with_reducible show wpAny _ _ (subscriptTail _ (Expr.Slice none (some (Expr.Constant (Const.int 8) _ _)) none _) _ _) _ _ _); with_reducible refine Mine.cut_8 (s := ⟨_, _, _, _, _⟩) F' N' ?_)
    | ((with_reducible show wpAny _ _ (subscriptTail _ (Expr.Slice (some (Expr.Constant (Const.int 9) _ _)) (some (Expr.Constant (Const.int 11) _ _)) none _) _ _) _ _ _); with_reducible refine Mine.cut_9_11 (s := ⟨_, _, _, _, _⟩) F' N' ?_)
    | ((with_reducible show wpAny _ _ (subscriptTail _ (Expr.Slice (some (Expr.Constant (Const.int 12) _ _)) (some (Expr.Constant (Const.int 14) _ _)) none _) _ _) _ _ _); with_reducible refine Mine.cut_12_14 (s := ⟨_, _, _, _, _⟩) F' N' ?_)
    | ((with_reducible show wpAny _ _ (subscriptTail _ (Expr.Slice (some (Expr.Constant (Const.int 15) _ _)) none none _) _ _) _ _ _); with_reducible refine Mine.cut_15 (s := ⟨_, _, _, _, _⟩) F' N' ?_)); intro h' _ _ F'' N'')
  k_with "exec For Name BinOp cons nil" => (k_here; (rename Fr _ _ _ _ => lF'); (with_unfolding_all refine' For_invVF lF' ?k1 ?k2 ?_; (case k1 => exact rfl); (case k2 => exact rfl); k_whole))
  k_with "compareOp NotIn str str" => (k_here; (with_reducible refine Mine.not_in_figures (by assumption) ?_))
  k_with "pyIter str" => (k_here; (with_reducible rename Fr _ _ _ _ => lF'); (with_reducible rename News _ _ _ _ => lN'); (try dsimp only); (refine Mine.signs_iter (by rfl) lF' lN' ?kt ?_); (case kt => (intro kn khn kt9 kh ktk kown khoff kF kN; (have hfig : 48 ≤ kn ∧ kn ≤ 57 := (by refine (?_ : ∀ z ∈ _, 48 ≤ z ∧ z ≤ 57) kn khn; repeat' (first | exact List.forall_mem_nil _ | refine List.forall_mem_cons.mpr ⟨Mine.fig_b _, ?_⟩))); (try dsimp only); (iterate 60 (first | done | (with_reducible exact ⟨rfl, _, rfl⟩) | walk1 | (dsimp only; walk1))))); intro ku kh ktk kF kN; (try dsimp only))
  k_with "call type:int" => (k_here; (try dsimp only); (with_reducible refine' Mine.int_S ?ka ?kb ?kc ?kd ?_); (case kd => first | exact Mine.val_8 _ _ _ (by assumption) (by assumption) (by assumption) | exact Mine.val_2 _ (by assumption)); (case ka => (repeat' (first | exact List.forall_mem_nil _ | refine List.forall_mem_cons.mpr ⟨Mine.fig_b _, ?_⟩))); (case kb => exact List.cons_ne_nil _ _); (case kc => exact Nat.le_of_ble_eq_true rfl))
  k_with "compareOp NotEq int int" => (k_here; (with_reducible refine Mine.ne_same ?_))
  k_with "eval Lambda" => (k_here; kn_here; k_dflt (refine' kla_eval ?d0 ?_; (case d0 => exact rfl)); (first | ((with_reducible show wpAny _ _ (makeFunction _ _ _ _ _ _ _ _ _ (Pos.mk 58 _ _ _) _) _ _ _); k_dflt (refine' Mine.lamA ?F ?N ?T ?C ?cd ?U ?hT ?sep ?hb ?ho ?hn ?cl ?_; (case F => k_asm); (case N => k_asm); (case T => k_asm); (case cd => exact rfl); (case C => kn_code); (case U => k_updF); (case hT => assumption); (case sep => assumption); (case hb => (intro p9 hp9; kst_mem)); (case ho => (intro p9 hp9; kst_mem)); (case hn => ((simp only [List.drop_succ_cons, List.drop_zero, List.take_succ_cons, List.take_zero]); (repeat' (first | exact List.forall_mem_nil _ | (refine List.forall_mem_cons.mpr ⟨?_, ?_⟩) | exact Mine.NoCd.seq _ rfl | exact Mine.NoCd.cell _ (by assumption) | exact Mine.NoCd.tab _ (Mine.tab_no (by assumption)) | exact Mine.NoCd.tab _ (by assumption) | (intro vs9 t9 e9 _; cases e9))))); (case cl => exact rfl); k_whole); intro f' c' oc' vs' t' ct' h' tk' ps' F' N' d1' d2' l1 l2 l3 l4 l5 l6; (have l9 := Mine.no_below l4); (try dsimp only at N'); (try k_lt l1); (try k_lt2 l2); (try simp only [List.take_succ_cons, List.take_zero, List.forall_mem_cons, List.forall_mem_nil, and_true] at l3); (repeat (have l3a := l3.1; replace l3 := l3.2))) | ((with_reducible show wpAny _ _ (makeFunction _ _ _ _ _ _ _ _ _ (Pos.mk 59 _ _ _) _) _ _ _); k_dflt (refine' Mine.lamB ?F ?N ?T ?C ?cd ?U ?hT ?sep ?hb ?ho ?hn ?cl ?_; (case F => k_asm); (case N => k_asm); (case T => k_asm); (case cd => exact rfl); (case C => kn_code); (case U => k_updF); (case hT => assumption); (case sep => assumption); (case hb => (intro p9 hp9; kst_mem)); (case ho => (intro p9 hp9; kst_mem)); (case hn => ((simp only [List.drop_succ_cons, List.drop_zero, List.take_succ_cons, List.take_zero]); (repeat' (first | exact List.forall_mem_nil _ | (refine List.forall_mem_cons.mpr ⟨?_, ?_⟩) | exact Mine.NoCd.seq _ rfl | exact Mine.NoCd.cell _ (by assumption) | exact Mine.NoCd.tab _ (Mine.tab_no (by assumption)) | exact Mine.NoCd.tab _ (by assumption) | (intro vs9 t9 e9 _; cases e9))))); (case cl => exact rfl); k_whole); intro f' c' oc' vs' t' ct' h' tk' F' N' d1' d2' l1 l2 l3 l4; (have l9 := Mine.no_below l4); (try dsimp only at N'); (try k_lt l1); (try k_lt2 l2); (try simp only [List.drop_succ_cons, List.drop_zero, List.take_succ_cons, List.take_zero, List.forall_mem_cons, List.forall_mem_nil, and_true] at l3); (repeat (have l3a := l3.1; replace l3 := l3.2)))))
  k_with "call builtin:list.append" => (k_here; (with_reducible show wpAny _ _ (call (Value.builtin _) [Value.ref _, _]) _ _ _); k_dflt (refine' Mine.append_made ?k1 ?k2 ?k3 ?k4 ?k5 ?_; (case k1 => k_asm); (case k2 => k_asm); (case k3 => k_mem); (case k4 => exact Nat.le_of_ble_eq_true rfl); (case k5 => k_upd); k_whole); intro h' F' N'; (try k_sweep))
  k_with "call builtin:list.append" => (k_here; (with_reducible show wpAny _ _ (call (Value.builtin _) [Value.ref _, _]) _ _ _); k_dflt (refine' Mine.append_rows ?k1 ?k2 ?k3 ?k4 ?k5 ?k6 ?_; (case k1 => k_asm); (case k2 => k_asm); (case k3 => with_reducible assumption); (case k4 => k_mem); (case k5 => exact Mine.pre_fit (by with_reducible assumption) (by with_reducible assumption)); (case k6 => k_upd); k_whole); intro h' F' N'; (try k_sweep))
  k_with "InvEndG" => ((with_reducible rename News _ _ _ _ => kEN); (with_reducible rename Fr _ _ _ _ => kEF); (refine' Mine.row_end ?h0 kEF kEN ?hrows ?hr ?ha ?hb ?hb1 ?hb2 ?ht ?h1 ?h2 ?i1 ?i2 ?hl ?htl ?ho ?na ?nb ?n1 ?n2 ?wa ?wb ?w1 ?w2 ?hz ?hi ?hst); (case h0 => assumption); (case hrows => assumption); (case hr => k_mem); (case ha => k_mem); (case hb => k_mem); (case hb1 => exact rfl); (case hb2 => exact rfl); (case ht => k_mem); (case h1 => k_mem); (case h2 => k_mem); (case i1 => exact ⟨_, _, by assumption, by assumption⟩); (case i2 => exact ⟨_, _, by assumption, by assumption⟩); (case hl => k_mem); (case htl => (intro p9 hp9; kst_mem)); (case ho => (intro p9 hp9; kst_mem)); (case na => exact ⟨by k_ne, by k_ne, by k_ne⟩); (case nb => exact ⟨by k_ne, by k_ne, by k_ne⟩); (case n1 => first | with_reducible assumption | exact ⟨by k_ne, by k_ne, by k_ne⟩); (case n2 => first | with_reducible assumption | exact ⟨by k_ne, by k_ne, by k_ne⟩); (case wa => kd_above); (case wb => kd_above); (case w1 => kd_above); (case w2 => kd_above); (case hz => exact Mine.ans_of (by assumption) (by assumption) (by assumption) (by assumption) (by assumption) (by assumption)); (case hi => exact Mine.ints_of (by assumption) (by assumption) (by assumption) (by assumption) (by assumption) (by assumption)); (case hst => kst_same))
  k_with "exec Assign" => (k_here; (with_reducible show wpAny _ _ (exec (Stmt.Assign _ _ (Pos.mk 34 _ _ _)) _) _ _ _); (with_reducible rename News _ _ _ _ => wN); first | ((with_reducible have wG : News _ _ _ (_ :: _ :: _ :: _ :: _ :: _ :: _ :: _ :: _ :: _ :: _ :: _ :: _ :: _ :: _ :: _ :: _ :: _ :: _ :: _ :: _ :: _ :: _ :: (118, _) :: _) := wN); clear wG; (have wN2 := Mine.news_keep [true, true, false, false, false, false, false, false, false, true, true, false, true, false, true, true, true, false, false, false] wN); (dsimp only [Mine.keep] at wN2); clear wN) | ((with_reducible have wG : News _ _ _ (_ :: _ :: _ :: _ :: _ :: _ :: _ :: _ :: _ :: _ :: _ :: _ :: _ :: _ :: (118, _) :: _) := wN); clear wG; (have wN2 := Mine.news_keep [true, true, false, true, false, true, true, true, false, false, false] wN); (dsimp only [Mine.keep] at wN2); clear wN))
  k_with "exec Assign" => (k_here; (with_reducible show wpAny _ _ (exec (Stmt.Assign _ _ (Pos.mk 56 _ _ _)) _) _ _ _); (with_reducible rename News _ _ _ _ => wN); first | ((with_reducible have wG : News _ _ _ (_ :: _ :: _ :: _ :: _ :: _ :: _ :: _ :: _ :: _ :: _ :: _ :: _ :: _ :: _ :: _ :: _ :: (118, _) :: _) := wN); clear wG; (have wN2 := Mine.news_keep [true, true, true, true, true, false, true, false, true, true, true, false, false, false] wN); (dsimp only [Mine.keep] at wN2); clear wN))
  k_with "exec Assign" => (k_here; (with_reducible show wpAny _ _ (exec (Stmt.Assign _ _ (Pos.mk 69 _ _ _)) _) _ _ _); (with_reducible rename News _ _ _ _ => wN); first | ((with_reducible have wG : News _ _ _ (_ :: _ :: _ :: _ :: _ :: _ :: _ :: _ :: _ :: _ :: _ :: _ :: _ :: _ :: _ :: _ :: _ :: _ :: _ :: _ :: _ :: _ :: _ :: (118, _) :: _) := wN); clear wG; (have wN2 := Mine.news_keep [true, true, false, false, false, false, false, false, false, true, true, false, true, false, true, true, true, false, false, false] wN); (dsimp only [Mine.keep] at wN2); clear wN) | ((with_reducible have wG : News _ _ _ (_ :: _ :: _ :: _ :: _ :: _ :: _ :: _ :: _ :: _ :: _ :: _ :: _ :: _ :: (118, _) :: _) := wN); clear wG; (have wN2 := Mine.news_keep [true, true, false, true, false, true, true, true, false, false, false] wN); (dsimp only [Mine.keep] at wN2); clear wN))
  k_with "exec If" => (k_here; (with_reducible show wpAny _ _ (exec (Stmt.If _ _ _ (Pos.mk 74 _ _ _)) _) _ _ _); (with_reducible rename News _ _ _ _ => wN); first | ((with_reducible have wG : News _ _ _ (_ :: _ :: _ :: _ :: _ :: _ :: _ :: _ :: _ :: _ :: _ :: _ :: _ :: _ :: _ :: _ :: _ :: _ :: (118, _) :: _) := wN); clear wG; (have wN2 := Mine.news_keep [false, false, false, false, false, false, false, false, false, false, false, true, true, false, false, false] wN); (dsimp only [Mine.keep] at wN2); clear wN) | ((with_reducible have wG : News _ _ _ (_ :: _ :: _ :: _ :: _ :: _ :: _ :: _ :: _ :: _ :: _ :: _ :: (118, _) :: _) := wN); clear wG; (have wN2 := Mine.news_keep [false, false, false, false, false, true, true, false, false, false] wN); (dsimp only [Mine.keep] at wN2); clear wN))
  k_with "newTuple" => (k_here; k_dflt (refine' kup_newTuple ?F ?N ?_ ?z; (case F => k_asm); (case N => k_asm); (case z => kmk_size)); intro D' h' F' N' l1; (try k_lt l1); (try k_sweep))
  k_go0; (all_goals try k_fold)
  iterate 8 walk1
  (k_here; (rename Fr _ _ _ _ => lF'); (with_unfolding_all refine' For_invVF lF' ?k1 ?k2 ?_; (case k1 => exact rfl); (case k2 => exact rfl); k_whole))
  iterate 12 walk1
  (with_reducible rename Fr _ _ _ _ => lF')
  (with_reducible rename News _ _ _ _ => lN')
  with_unfolding_all refine' Mine.loop_rowsP [Str.ofString "f", Str.ofString "zone", Str.ofString "notes", Str.ofString "date", Str.ofString "answer", Str.ofString "asked", Str.ofString "c"] ?h1 ?hl ?hi lF' lN' ?hro ?hr ?ht ?turn ?done
  case h1 => rfl
  case hl => k_memK
  case hi => assumption
  case hro => rfl
  case hr => k_memK
  case ht => k_memK
  case turn =>
    intro kRv kRk kT kTl kPre kPost kN kTok kU kH kTk kOwn kEq kSep kO4 kRows kTab kFr kNews kP kEnd
    have kMark := kstMark
    have kMark2 := kdMark
    have kB := len_ints_list (by lay_of)
    have kL := congrArg List.length kEq
    simp only [List.length_append, List.length_cons] at kL
    iterate 60 walk1
    have hbY := Mine.yr_b kN
    have hbM := Mine.mo_b kN
    have hbD := Mine.dy_b kN
    have hbH := Mine.hr_b kN
    have hbI := Mine.mi_b kN
    have hbS := Mine.se_b kN
    have hbU := Mine.us_b kN
    generalize heY : kN.fmod 9999 + 1 = vY at *
    generalize heM : kN.fmod 12 + 1 = vM at *
    generalize heD : (kN.fdiv 12).fmod 28 + 1 = vD at *
    generalize heH : (kN.fdiv 3).fmod 24 = vH at *
    generalize heI : (kN.fdiv 5).fmod 60 = vI at *
    generalize heS : kN.fmod 60 = vS at *
    generalize heU : (kN * 7919).fmod 1000000 = vU at *
    have hb1 : 0 ≤ vY.fdiv 100 ∧ vY.fdiv 100 < 100 := Mine.q100 vY hbY
    have hb2 : 0 ≤ vY.fmod 100 ∧ vY.fmod 100 < 100 := Mine.r100 vY
    have hb3 : 0 ≤ vM ∧ vM < 100 := by omega
    have hb4 : 0 ≤ vD ∧ vD < 100 := by omega
    have hb5 : 0 ≤ vH ∧ vH < 100 := by omega
    have hb6 : 0 ≤ vI ∧ vI < 100 := by omega
    have hb7 : 0 ≤ vS ∧ vS < 100 := by omega
    have hb8 : 0 ≤ vY ∧ vY < 10000 := by omega
    clear hbU
    iterate 35 walk1
    ((with_unfolding_all refine' Mine.zone_item ?k1 ?k2 ?k3 ?k4 ?_ ?_); (case k1 => k_asm); (case k2 => k_memK); (case k3 => exact ⟨Int.fmod_nonneg_of_pos _ (by decide), Int.fmod_lt_of_pos _ (by decide)⟩); (case k4 => rfl))
    · (with_reducible rename News _ _ _ _ => kN0); refine Mine.forget7 kN0 ?_; intro u1 u2 u3 u4 u5 u6 u7 kN1; clear kN0
      repeat' (first | (k_unfold; (try dsimp only)) | walk1 | (dsimp only; walk1) | (refine kEnd _ ?_))
    · intro kZ kZt kZ1 kZ2
      (with_reducible rename News _ _ _ _ => kN0); refine Mine.forget7 kN0 ?_; intro u1 u2 u3 u4 u5 u6 u7 kN1; clear kN0
      repeat' (first | (k_unfold; (try dsimp only)) | walk1 | (dsimp only; walk1) | (refine kEnd _ ?_))
  case done =>
    intro kRv kRk kT kTl kU kH kTk kOff kRows kFr kNews
    have kB := len_ints_list (by lay_of)
    have k66 : kRv.length ≤ 66 := by rw [kRows.length]; simp only [List.length_append, List.length_cons, List.length_nil]; omega
    have k2 : 2 ≤ kRv.length := by rw [kRows.length]; simp only [List.length_append, List.length_cons, List.length_nil]; omega
    iterate 3 walk1
    (k_here; k_dflt (refine LCp.ListComp_P (F₀ := by k_asm) (by with_unfolding_all rfl) (by decide) (by rfl) (by decide) (by rfl) (by rfl) (by decide) ?_))
    repeat (first | (k_unfold; (try dsimp only)) | walk1 | (dsimp only; walk1))
    (with_reducible rename Fr _ _ _ _ => sF)
    (with_reducible rename News _ _ _ _ => sN)
    (refine' Mine.sorted_rows sF sN ?q1 ?q2 kRows ?q3 ?q4 ?q5 ?_)
    case q1 => k_mem
    case q2 => (intro p hp; kst_mem)
    case q3 => rw [← kRows.length]; exact k2
    case q4 => rw [← kRows.length]; exact k66
    case q5 => exact Nat.le_of_ble_eq_true rfl
    intro D1 h1 vs1 e1 F1 N1 a1 p1 s1
    (refine LCp.SrcLP.ledger (by rfl) F1 N1 (by exact List.mem_cons_self) ?z1 ?z2)
    case z1 => exact Mine.small_fit (by rw [p1.length_eq]; exact k66)
    intro g1
    (refine Mine.comp_rows ?y1 ?y2 ?y3 ?y4 ?y5 ?y6)
    case y1 =>
      intro v hv
      obtain ⟨x, hx⟩ := kRows.all v (p1.mem_iff.mp hv)
      exact ⟨x, hx.mono (fun p hp => by kst_mem)⟩
    case y2 => exact .inr ⟨_, List.mem_cons_self, rfl, _, rfl⟩
    case y3 => exact fun _ => rfl
    case y4 => exact fun _ => rfl
    case y5 => decide
    intro ys1 T1
    unfold LCg.FinE
    intro D2 h2 tk2 F2 N2 o2
    (try dsimp only)
    iterate 4 walk1
    (k_here; k_dflt (refine LCp.ListComp_P (F₀ := by k_asm) (by with_unfolding_all rfl) (by decide) (by rfl) (by decide) (by rfl) (by rfl) (by decide) ?_))
    repeat (first | (k_unfold; (try dsimp only)) | walk1 | (dsimp only; walk1))
    (refine LCp.SrcLP.ledger (by rfl) F2 N2 (by k_mem) ?z3 ?z4)
    case z3 => exact Mine.small_fit k66
    intro g2
    (refine Mine.comp_rows ?w1 ?w2 ?w3 ?w4 ?w5 ?w6)
    case w1 =>
      intro v hv
      obtain ⟨x, hx⟩ := kRows.all v hv
      exact ⟨x, hx.mono (fun p hp => by kst_mem)⟩
    case w2 => exact .inr ⟨_, by k_mem, rfl, _, rfl⟩
    case w3 => exact fun _ => rfl
    case w4 => exact fun _ => rfl
    case w5 => decide
    intro ys2 T2
    unfold LCg.FinE
    intro D3 h3 tk3 F3 N3 o3
    (try dsimp only)
    repeat (first | (k_unfold; (try dsimp only)) | walk1 | (dsimp only; walk1))
    (refine' Mine.sorted_texts F3 N3 ?r1 T2 ?r3 ?r4 ?_)
    case r1 => exact List.mem_cons_self
    case r3 => exact k2
    case r4 => exact k66
    intro D4 h4 vs4 e4 F4 N4 a4 p4 s4
    (try dsimp only)
    (refine Mine.eq_texts (ys := ys1) (zs := vs4) ⟨_, (N4 (D2, LCg.lst ys1) (by k_mem)).1, rfl, _, rfl⟩ ⟨_, (N4 _ List.mem_cons_self).1, rfl, _, rfl⟩ T1.str (fun y hy => T2.str y (p4.mem_iff.mp hy)) ?e5 (by k_units) ?_)
    case e5 =>
      exact Mine.lists_same (fun p hp => sN p (by kst_mem)) (fun p hp => N2 p (List.mem_cons_of_mem _ hp)) (fun p hp => N3 p (List.mem_cons_of_mem _ hp)) (fun p hp => by kst_mem) (fun p hp => by kst_mem) kRows.all p1 s1 T1 T2 p4 s4
    repeat (first | (k_unfold; (try dsimp only)) | (k_end; wrow_close) | walk1 | (dsimp only; walk1) | (leave1; walk_say "STEP leave1"; try dsimp only))
end
