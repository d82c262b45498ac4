import PyProof.Rows.All
import Wide.All
import OpenK.AllK
import Wide.FinOn
import PySem.Challenge.RW_mj0331_01
set_option Elab.async false

section
open PySem PySem.W PyProof.Rows
set_option maxRecDepth 100000
namespace Mine

/-- the def at place n of the text's top -/
def recAt (n : Nat) : DefRec :=
  match PySem.Challenge.pw_mj0331_01.main.body[n]? with
  | some (.FunctionDef name args body _ _ _ scope _ _ pos) => ⟨name, args, body, scope, pos⟩
  | _ => ⟨"", ⟨[], [], none, [], [], none, []⟩, [], ⟨.function, [], false, false, []⟩, ⟨0, 0, 0, 0⟩⟩

structure Amb (mg mb : Str → Option Value) (h : Heap) : Prop where
  g : h.Ns mainGlobals mg
  b : h.Ns builtinsNs mb
  nolimit : h.NoLimit
  bt : ∀ x : Str, x ≠ "__name__" → mb x = bootBuiltins x
  nolen : mg "len" = none
  norange : mg "range" = none
  nosum : mg "sum" = none
  fn : ∀ n ∈ [1, 3, 4, 5], ∃ a o pm code doc, mg (recAt n).name = some (.ref a) ∧ h.get? a = some o ∧
    o.data = .func (Calls.docDef (recAt n).name (recAt n).params (recAt n).body (recAt n).scope pm code doc) ∧ h.CodeRec code (recAt n).name

theorem Amb.keeps {mg mb : Str → Option Value} {h h' : Heap} (T : Amb mg mb h) (hk : ∀ b o, h.get? b = some o → h'.get? b = some o) : Amb mg mb h' where
  g := T.g.keeps hk
  b := T.b.keeps hk
  nolimit := T.nolimit.keeps hk
  bt := T.bt
  nolen := T.nolen
  norange := T.norange
  nosum := T.nosum
  fn := fun n hn => let ⟨a, o, pm, code, doc, h1, h2, h3, h4⟩ := T.fn n hn; ⟨a, o, pm, code, doc, h1, hk _ _ h2, h3, h4.keeps hk⟩

section
variable {M : Model} {A : Around} {E : Value → Shared → Prop} {s : Shared} {env : Env} {mg mb : Str → Option Value}

theorem nm_len {pos : Pos} {Q : Value → Shared → Prop} (T : Amb mg mb s.heap) (hg : env.globals = mainGlobals) (hb : env.builtins = builtinsNs) (hk : env.scope.kind = .function)
    (hx : env.kindOf "len" = some .globalImplicit) (h : Q (.builtin "len") s) : wpAny M A (eval (.Name "len" pos) env) Q E s :=
  Calls.Name_function_global hk hx (Calls.loadGlobal_builtin (hg ▸ T.g) T.nolen (hb ▸ T.b) ((T.bt _ (by decide)).trans (by decide +kernel)) h)
theorem nm_sum {pos : Pos} {Q : Value → Shared → Prop} (T : Amb mg mb s.heap) (hg : env.globals = mainGlobals) (hb : env.builtins = builtinsNs) (hk : env.scope.kind = .function)
    (hx : env.kindOf "sum" = some .globalImplicit) (h : Q (.builtin "sum") s) : wpAny M A (eval (.Name "sum" pos) env) Q E s :=
  Calls.Name_function_global hk hx (Calls.loadGlobal_builtin (hg ▸ T.g) T.nosum (hb ▸ T.b) ((T.bt _ (by decide)).trans (by decide +kernel)) h)
theorem nm_range {pos : Pos} {Q : Value → Shared → Prop} (T : Amb mg mb s.heap) (hg : env.globals = mainGlobals) (hb : env.builtins = builtinsNs) (hk : env.scope.kind = .function)
    (hx : env.kindOf "range" = some .globalImplicit) (h : Q (.type "range") s) : wpAny M A (eval (.Name "range" pos) env) Q E s :=
  Calls.Name_function_global hk hx (Calls.loadGlobal_builtin (hg ▸ T.g) T.norange (hb ▸ T.b) ((T.bt _ (by decide)).trans (by decide +kernel)) h)
theorem nm_glob {x : Str} {v : Value} {pos : Pos} {Q : Value → Shared → Prop} (T : Amb mg mb s.heap) (hv : mg x = some v) (hg : env.globals = mainGlobals) (hk : env.scope.kind = .function)
    (hx : env.kindOf x = some .globalImplicit) (hd : (x == ("__debug__" : Str)) = false) (h : Q v s) : wpAny M A (eval (.Name x pos) env) Q E s :=
  Calls.Name_function_global hk hx (Calls.loadGlobal_global (hg ▸ T.g) hv h) hd
end

end Mine
end

section
open PySem PySem.W PySem.Calls PyProof.Rows
set_option maxRecDepth 100000
namespace Mine

/-- the weights from the last place up: 1, 2, 3, 5, 8 .. -/
def wt : Nat → Int
  | 0 => 1
  | 1 => 2
  | n + 2 => wt (n + 1) + wt n

def ups (n : Nat) : List Int := (List.range n).map wt
theorem ups_length (n : Nat) : (ups n).length = n := by simp [ups]
theorem ups_succ (n : Nat) : ups (n + 1) = ups n ++ [wt n] := by simp [ups, List.range_succ]
theorem ups_get {n i : Nat} (h : i < n) : (ups n)[i]? = some (wt i) := by simp [ups, h]

variable {prog : Program} {w : World} {A : Around} {E : Value → Shared → Prop} {s : Shared} {mg mb : Str → Option Value}

def Keep (h h' : Heap) : Prop := ∀ b o, h.get? b = some o → h'.get? b = some o

theorem worths_body {L a : Addr} {cd : Value} {n : Nat} {t : Tok} {h₀ : Heap} {Q : Flow → Shared → Prop} (T : Amb mg mb h₀) (hn : 2 ≤ n) (hn' : n ≤ 64)
    (F : Fr h₀ L s.heap (fun x => [(("places" : Str), Value.int n t)].reverse.lookup x))
    (h : ∀ l vs h' tk, Keep h₀ h' → h₀.get? l = none → h'.get? l = some (listOf vs.toArray 0) → IntsAre vs (ups n).reverse → Q (.ret (.ref l)) { s with heap := h', toks := tk }) :
    wpAny (model prog w) A (execs (recAt 3).body (envOf (recAt 3).name (recAt 3).scope L a cd)) Q E s := by
  refine wpAny_execs_cons (wpAny_Assign_Name (List_ (args_cons (wpAny_Constant_int (args_cons (wpAny_Constant_int (args_nil
    (newList_N (s := { s with toks := s.toks + 1 + 1 }) F News.nil (fun h₁ F₁ N₁ => ?_)))))))))
  refine stN F₁ N₁ (fun h₂ F₂ N₂ => ?_)
  refine wpAny_execs_cons (wpAny_While ?_)
  refine codeAny_whileLoop (fun k s' => ∃ j vs c h' tk mm, s' = { s with heap := h', toks := tk } ∧ k + j = n ∧ 2 ≤ j ∧ Fr h₀ L h' mm ∧ mm "places" = some (.int n t) ∧
      mm "worths" = some (.ref s.heap.objs.size) ∧ News h₀ L h' [(s.heap.objs.size, listOf vs.toArray c)] ∧ IntsAre vs (ups j)) ?_ (n - 2)
    ⟨2, [.int 1 s.toks, .int 2 (s.toks + 1)], 0, h₂, _, _, rfl, by omega, by omega, F₂, rfl, rfl, N₂, .cons _ _ (.cons _ _ .nil)⟩
  rintro k s' ⟨j, vs, c, h', tk, mm, rfl, hk, hj, F', e1, e2, N', hi⟩
  have hl : h'.IsList s.heap.objs.size vs.toArray := ⟨_, (N' _ (.head _)).1, rfl, c, rfl⟩
  have hlen : vs.length = j := by rw [IntsAre.length hi, ups_length]
  refine wpAny_isTrue_Compare1 (Call_ (nm_len (T.keeps F'.keep) rfl rfl rfl rfl (callWith_builtin1 (args_cons (ld F' e2 (args_nil (call_len_list hl ?_ ?_)))))))
  · simp; omega
  refine ld F' e1 (wpAny_lt_int (wpAny_truthy_bool ?_))
  by_cases hlt : j < n
  · rw [show decide (((vs.toArray.size : Nat) : Int) < (n : Int)) = true by simp; omega, if_pos rfl]
    refine wpAny_execs_cons (wpAny_Expr (MethodCall_ (ld F' e2 (listMethod_K N' (.head _) PySem.F.slot_list_append PySem.F.type_list_append (callWith_method1 (args_cons ?_))))))
    obtain ⟨t1, g1⟩ := IntsAre.get hi (j - 1) _ (ups_get (n := j) (by omega))
    obtain ⟨t2, g2⟩ := IntsAre.get hi (j - 2) _ (ups_get (n := j) (by omega))
    refine wpAny_BinOp (Subscript_ (ld F' e2 (UnaryOp_ (wpAny_Constant_int (neg_int (tail_any hl.typeIs slot_list_getitem.lookup (wpAny_getItem_list_neg (x := .int (wt (j - 1)) t1) hl (by decide) ?_ (by decide) ?_ ?_) (by with_unfolding_all rfl)))))))
    · simp; omega
    · simp only [List.getElem?_toArray, List.size_toArray]; rw [← g1]; congr 1; omega
    refine Subscript_ (ld (s := { s with heap := h', toks := _ }) F' e2 (UnaryOp_ (wpAny_Constant_int (neg_int (tail_any hl.typeIs slot_list_getitem.lookup (wpAny_getItem_list_neg (x := .int (wt (j - 2)) t2) hl (by decide) ?_ (by decide) ?_ ?_) (by with_unfolding_all rfl))))))
    · simp; omega
    · simp only [List.getElem?_toArray, List.size_toArray]; rw [← g2]; congr 1; omega
    refine add_int (args_nil ?_)
    refine append_K (h₀ := h₀) (L := L) (m := mm) F' N' (.head (fun _ h => nomatch h)) (fun h'' F'' N'' => ?_) (by simp [hlen]; rw [sizeLine_eq]; omega)
    rw [List.push_toArray] at N''
    refine wpAny_execs_nil ⟨k - 1, by omega, j + 1, _, _, h'', _, _, rfl, by omega, by omega, F'', e1, e2, N'', ?_⟩
    rw [ups_succ]
    have : wt (j - 1) + wt (j - 2) = wt j := by
      obtain ⟨i, rfl⟩ : ∃ i, j = i + 2 := ⟨j - 2, by omega⟩
      simp [wt]
    rw [← this]; exact IntsAre.append hi (.cons _ _ .nil)
  · rw [show decide (((vs.toArray.size : Nat) : Int) < (n : Int)) = false by simp; omega, if_neg Bool.false_ne_true]
    have : j = n := by omega
    subst this
    refine wpAny_execs_nil ?_
    show wpAny _ _ (execs _ _) _ _ _
    refine wpAny_execs_cons (wpAny_Return_some (Subscript_ (ld F' e2 (wpAny_Slice (evalPart_none_step (evalPart_none_step (evalPart_some_step (UnaryOp_ (wpAny_Constant_int (neg_int
      (krv_ints (s := { s with heap := h', toks := _ }) F' N' hl (.int _ _) hi (fun D ws h'' F'' N'' _ hi' _ => h D ws h'' _ F''.keep (N'' _ (.head _)).2.2 (N'' _ (.head _)).1 hi')
        (by with_unfolding_all rfl) (fun _ => by with_unfolding_all rfl) (by simp [hlen]; rw [sizeLine_eq]; omega))))))))))))

theorem News.add {h₀ h h' : Heap} {L l : Addr} {o : Obj} {m : Str → Option Value} {news : List (Addr × Obj)} (F : Fr h₀ L h m) (N : News h₀ L h news) (hk : Keep h h') (hl : h.get? l = none) (ho : h'.get? l = some o) : News h₀ L h' ((l, o) :: news) := by
  intro p hp
  rcases List.mem_cons.mp hp with rfl | hp
  · refine ⟨ho, ?_, ?_⟩
    · rintro rfl
      obtain ⟨_, _, _, e, _⟩ := F.ns
      rw [e] at hl; cases hl
    · cases e : h₀.get? l with
      | none => rfl
      | some o' => rw [F.keep _ _ e] at hl; cases hl
  · exact ⟨hk _ _ (N p hp).1, (N p hp).2⟩

theorem call_worths {a : Addr} {n : Nat} {t : Tok} {Q : Value → Shared → Prop} (T : Amb mg mb s.heap) (ha : mg (recAt 3).name = some (.ref a)) (hr : A.depth < recursionLimit) (hn : 2 ≤ n) (hn' : n ≤ 64)
    (h : ∀ l vs h' tk, Keep s.heap h' → s.heap.get? l = none → h'.get? l = some (listOf vs.toArray 0) → IntsAre vs (ups n).reverse → Q (.ref l) { s with heap := h', toks := tk }) :
    wpAny (model prog w) A (call (.ref a) [.int n t]) Q E s := by
  obtain ⟨a', o, pm, code, doc, h1, h2, h3, h4⟩ := T.fn 3 (by simp)
  rw [ha] at h1; cases h1
  refine wpAny_call (call_plain_ret (binds := [("places", .int n t)]) hr h2 h3 T.nolimit h4 (by with_unfolding_all rfl) (fun x hx => by rcases List.mem_singleton.mp hx with rfl; rfl) (fun h₁ F => ?_))
  exact worths_body T hn hn' F (fun l vs h' tk k1 k2 k3 k4 => h l vs h' tk k1 k2 k3 k4)
end Mine
end

section
open PySem PySem.W PySem.Calls PyProof.Rows
set_option maxRecDepth 100000
namespace Mine

/-- a word of noughts and ones as a text -/
def fig (b : Bool) : Nat := if b then 49 else 48
def W (l : List Bool) : Str := ⟨(l.map fig).toArray⟩
theorem W_length (l : List Bool) : (W l).length = l.length := by simp [W, Str.length]

/-- a word's worth -/
def val : List Bool → Int
  | [] => 0
  | b :: r => (if b then wt r.length else 0) + val r

theorem ups_rev_succ (n : Nat) : (ups (n + 1)).reverse = wt n :: (ups n).reverse := by rw [ups_succ]; simp

theorem val_sum : ∀ l : List Bool, (((List.range l.length).filter (fun k => l.getD k false)).map (fun k => (ups l.length).reverse.getD k 0)).sum = val l
  | [] => rfl
  | b :: r => by
    have ih := val_sum r
    rw [List.length_cons, List.range_succ_eq_map, List.filter_cons, List.filter_map, ups_rev_succ]
    have e : ((List.range r.length).filter ((fun k => (b :: r).getD k false) ∘ Nat.succ)) = (List.range r.length).filter (fun k => r.getD k false) := by
      congr 1
    rw [e]
    have e2 : ∀ xs : List Nat, ((xs.map Nat.succ).map fun k => (wt r.length :: (ups r.length).reverse).getD k 0) = xs.map (fun k => (ups r.length).reverse.getD k 0) := by
      intro xs; rw [List.map_map]; rfl
    cases b
    · rw [if_neg (by simp), e2, ih]; simp [val]
    · rw [if_pos (by simp), List.map_cons, e2, List.sum_cons, ih]; simp [val]

theorem val_rangeInts (l : List Bool) : (((rangeInts 0 1 l.length).filter (fun k => l.getD k.toNat false)).map (fun k => (ups l.length).reverse.getD k.toNat 0)).sum = val l := by
  rw [← val_sum l, rangeInts, List.filter_map, List.map_map]
  have e1 : ((fun k : Int => l.getD k.toNat false) ∘ fun i : Nat => (0 : Int) + i * 1) = fun k => l.getD k false := by
    funext k; simp
  have e2 : ((fun k : Int => (ups l.length).reverse.getD k.toNat 0) ∘ fun i : Nat => (0 : Int) + i * 1) = fun k => (ups l.length).reverse.getD k 0 := by
    funext k; simp
  rw [e1, e2]

variable {prog : Program} {w : World} {A : Around} {E : Value → Shared → Prop} {s : Shared} {mg mb : Str → Option Value}

theorem W_item {l : List Bool} {k : Nat} (h : k < l.length) : (seqIndex? (k : Int) (W l).length).bind ((W l).cps[·]?) = some (fig (l.getD k false)) := by
  rw [W_length]
  have e : seqIndex? (k : Int) l.length = some k := by
    unfold seqIndex?
    simp only [if_neg (show ¬ ((k : Int) < 0) by omega)]
    rw [if_pos (by simp; omega), Int.toNat_natCast]
  rw [e]; simp [W, h]

theorem fig_one (b : Bool) : ((⟨#[fig b]⟩ : Str).cps.toList == (("1" : Str)).cps.toList) = b := by cases b <;> decide
theorem Keeps.refl {s : Shared} : Keeps s s := ⟨s.heap, s.toks, rfl, fun _ _ e => e⟩
theorem Keeps.toks {s : Shared} {k : Nat} : Keeps s { s with toks := k } := ⟨s.heap, k, rfl, fun _ _ e => e⟩

theorem worth_body {L a : Addr} {cd : Value} {l : List Bool} {t : Tok} {h₀ : Heap} {Q : Flow → Shared → Prop} {cells : List (Addr × Obj)} {m : Str → Option Value} (T : Amb mg mb h₀) (hh : A.handled = none) (hr : A.depth < recursionLimit) (hn : 2 ≤ l.length) (hn' : l.length ≤ 64)
    (F : Fr h₀ L s.heap m)
    (N : News h₀ L s.heap cells) (X : CellsAre (bindC (envOfC (recAt 4).name (recAt 4).scope L a cd).kindOf [(("word" : Str), Value.str (W l) t)] fun _ => none) (cellsFrom (L + 1) (recAt 4).scope.names []) cells)
    (h : ∀ h' tk t', Keep h₀ h' → Q (.ret (.int (val l) t')) { s with heap := h', toks := tk }) :
    wpAny (model prog w) A (execs (recAt 4).body (envOfC (recAt 4).name (recAt 4).scope L a cd)) Q E s := by
  obtain ⟨o1, o2, rfl, d1, d2⟩ := X.two
  obtain ⟨aw, ow, pmw, cow, dow, hw, hw2, hw3, hw4⟩ := T.fn 3 (by simp)
  refine wpAny_execs_cons (wpAny_Assign_Name (Call_ (nm_glob (T.keeps F.keep) hw rfl rfl rfl (by decide) (callWith_def hw3 (args_cons (Call_ (nm_len (T.keeps F.keep) rfl rfl rfl rfl
    (callWith_builtin1 (args_cons (ldCN (x := "word") N (by with_unfolding_all rfl) (.tail _ (.head _)) d2 (args_nil (P.len_str (by rw [W_length]; omega) (args_nil ⟨F.keep _ _ hw2, ?_⟩)))))))))))))
  rw [W_length]
  refine call_worths (T.keeps F.keep) hw hr hn hn' (fun lw vs h1 tk k1 k2 k3 hi => ?_)
  have F1 := F.keeps k1
  have N1 := News.add F N k1 k2 k3
  refine stCN (own := [(lw, listOf vs.toArray 0)]) (rest := [(L + 1, o2)]) F1 N1 (by with_unfolding_all rfl) d1 ?_ ?_ (fun h2 o1' F2 N2 d1' => ?_)
  · intro p hp e
    rw [List.mem_singleton.mp hp] at e
    rw [show lw = L + 1 + 1 from e, (N _ (.head _)).1] at k2
    cases k2
  · intro p hp e
    rw [List.mem_singleton.mp hp] at e
    exact absurd (show L + 1 = L + 1 + 1 from e) (Nat.ne_of_lt (Nat.lt_succ_self _))
  have hl2 : h2.IsList lw vs.toArray := ⟨_, (N2 _ (.head _)).1, rfl, 0, rfl⟩
  have c1 : h2.IsCell (L + 1 + 1) (some (.ref lw)) := ⟨_, (N2 _ (.tail _ (.head _))).1, d1'⟩
  have c2 : h2.IsCell (L + 1) (some (.str (W l) t)) := ⟨_, (N2 _ (.tail _ (.tail _ (.head _)))).1, d2⟩
  refine wpAny_execs_cons (wpAny_Return_some (Call_ (nm_sum (T.keeps F2.keep) rfl rfl rfl rfl (callWith_builtin1 (args_cons ?_)))))
  refine ListComp_DCr (h₀ := h₀) (L := L) (m := m) (pz := fun k => l.getD k.toNat false) (d := fun k => .int ((ups l.length).reverse.getD k.toNat 0)) hh (by with_unfolding_all rfl) (by decide) rfl (by decide) (by decide) ?_ (fun _ => rfl)
  refine Call_ (nm_range (T.keeps F2.keep) rfl rfl rfl rfl (callWith_type1 (args_cons (Call_ (nm_len (T.keeps F2.keep) rfl rfl rfl rfl (callWith_builtin1 (args_cons
    (ldCN (x := "word") N2 (by with_unfolding_all rfl) (.tail _ (.tail _ (.head _))) d2 (args_nil (P.len_str (by rw [W_length]; omega) (args_nil ?_)))))))))))
  rw [W_length]
  refine range1_rows (s := { s with heap := h2, toks := _ }) F2 N2 (fun h3 tk3 t1 u1 v1 hR F3 N3 k3 => ?_)
  refine ⟨_, _, 0, l.length, 1, t1, u1, v1, l.length, rfl, hR, small_one (by omega) (by omega) (by omega) (by omega), by rw [rangeSize_nat]; simp, by rw [sizeLine_eq]; omega, F3, N3, ?_, ?_, ?_⟩
  · rintro C k v s₂ m₂ E' hC hk ⟨tk, rfl⟩ hns hm hkeep
    have hk' := mem_rangeInts hk
    refine wpAny_tests_one (wpAny_isTrue_Compare1 (Subscript_ (ldCellK (x := "word") (by with_unfolding_all rfl) (c2.keeps fun b o e => hkeep b o (k3 b o e)) (ldVarK hns hm
      (tail_any (typeIs_str _ _ _) PySem.F.slot_str_getitem.lookup (P.getItem_str (c := fig (l.getD k.toNat false)) ?_ ?_ (Calls.Constant_str (P.eq_str (wpAny_truthy_bool ?_)))) (by with_unfolding_all rfl))))))
    · simp; omega
    · obtain ⟨j, rfl⟩ : ∃ j : Nat, k = (j : Int) := ⟨k.toNat, by omega⟩
      exact W_item (by omega)
    · exact ⟨fig_one _, Keeps.toks⟩
  · rintro C k v s₂ m₂ E' hC hk ⟨tk, rfl⟩ hpz hns hm hkeep
    have hk' := mem_rangeInts hk
    refine Subscript_ (ldCellK (x := "worths") (by with_unfolding_all rfl) (c1.keeps fun b o e => hkeep b o (k3 b o e)) (ldVarK hns hm ?_))
    obtain ⟨t1, g1⟩ := IntsAre.get hi k.toNat ((ups l.length).reverse.getD k.toNat 0) (by
      rw [List.getD_eq_getElem?_getD, List.getElem?_eq_getElem (by rw [List.length_reverse, ups_length]; omega)]; rfl)
    refine item_listL (lstInComp hl2 fun b o e => hkeep b o (k3 b o e)) hk'.1 (by omega) g1 ⟨.int _ _, Keeps.refl⟩
  · intro D ys h4 tk4 F4 N4 hD hlD hnp hc
    refine args_nil (LSm.sum_ints (s := { s with heap := h4, toks := tk4 }) F4 N4 hh hlD hc.intsOf (fun h5 tk5 t5 F5 N5 => ?_))
    rw [val_rangeInts]
    exact h h5 tk5 t5 F5.keep

theorem call_worth {a : Addr} {l : List Bool} {t : Tok} {Q : Value → Shared → Prop} (T : Amb mg mb s.heap) (ha : mg (recAt 4).name = some (.ref a)) (hh : A.handled = none) (hr : A.depth + 1 < recursionLimit) (hn : 2 ≤ l.length) (hn' : l.length ≤ 64)
    (h : ∀ h' tk t', Keep s.heap h' → Q (.int (val l) t') { s with heap := h', toks := tk }) :
    wpAny (model prog w) A (call (.ref a) [.str (W l) t]) Q E s := by
  obtain ⟨a', o, pm, code, doc, h1, h2, h3, h4⟩ := T.fn 4 (by simp)
  rw [ha] at h1; cases h1
  refine wpAny_call (call_cellsN_ret (binds := [("word", .str (W l) t)]) (Nat.lt_of_succ_lt hr) h2 h3 T.nolimit h4 (by with_unfolding_all rfl) (fun x hx => by rcases List.mem_singleton.mp hx with rfl; exact .inr ⟨rfl, rfl⟩) (by decide) (fun h₁ tk cells F N X => ?_))
  exact worth_body T hh hr hn hn' F N X (fun h' tk t' k1 => h h' tk t' k1)
end Mine
end

section
open PySem PySem.W PySem.Calls PyProof.Rows
set_option maxRecDepth 100000
namespace Mine

def S (n : Nat) : Int := (ups n).sum
/-- the utmost word of n places with worth v, told from the left -/
def utm (g : Bool) : Nat → Int → List Bool
  | 0, _ => []
  | n + 1, v => if (decide (S n < v) || (g && decide (wt n ≤ v))) = true then true :: utm g n (v - wt n) else false :: utm g n v

theorem ups_rev_drop : ∀ (n k : Nat), k ≤ n → (ups n).reverse.drop k = (ups (n - k)).reverse
  | n, 0, _ => rfl
  | 0, k + 1, h => by omega
  | n + 1, k + 1, h => by
    rw [ups_rev_succ, List.drop_succ_cons, ups_rev_drop n k (by omega), Nat.add_sub_add_right]
theorem ups_rev_get {n k : Nat} (h : k < n) : (ups n).reverse[k]? = some (wt (n - 1 - k)) := by
  rw [List.getElem?_reverse (by rw [ups_length]; exact h), ups_length, ups_get (by omega)]
theorem W_snoc (l : List Bool) (b : Bool) : W (l ++ [b]) = W l ++ W [b] := by
  show (⟨_⟩ : Str) = ⟨_ ++ _⟩
  simp [W]

variable {prog : Program} {w : World} {A : Around} {s : Shared} {mg mb : Str → Option Value}

theorem utm_body {L a : Addr} {cd : Value} {v0 : Int} {n : Nat} {g : Bool} {t u : Tok} {h₀ : Heap} {Q : Flow → Shared → Prop} (T : Amb mg mb h₀) (hh : A.handled = none) (hr : A.depth < recursionLimit) (hn : 2 ≤ n) (hn' : n ≤ 64)
    (F : Fr h₀ L s.heap (fun x => [(("worth" : Str), Value.int v0 t), ("places", .int n u), ("greatest", .bool g)].reverse.lookup x))
    (h : ∀ h' tk t', Keep h₀ h' → Q (.ret (.str (W (utm g n v0)) t')) { s with heap := h', toks := tk }) :
    wpAny (model prog w) A (execs (recAt 5).body (envOf (recAt 5).name (recAt 5).scope L a cd)) Q (fun _ _ => False) s := by
  obtain ⟨aw, ow, pmw, cow, dow, hw, hw2, hw3, hw4⟩ := T.fn 3 (by simp)
  refine wpAny_execs_cons (wpAny_Assign_Name (Call_ (nm_glob (T.keeps F.keep) hw rfl rfl rfl (by decide) (callWith_def hw3 (args_cons (ld F rfl (args_nil ⟨F.keep _ _ hw2, ?_⟩)))))))
  refine call_worths (T.keeps F.keep) hw hr hn hn' (fun lw vs h1 tk k1 k2 k3 hi => ?_)
  have F1 := F.keeps k1
  have N1 := News.add F News.nil k1 k2 k3
  refine stN (s := { s with heap := h1, toks := _ }) F1 N1 (fun h2 F2 N2 => ?_)
  refine wpAny_execs_cons (wpAny_Assign_Name (Constant_str (stN (s := { s with heap := h2, toks := _ }) F2 N2 (fun h3 F3 N3 => ?_))))
  refine wpAny_execs_cons (wpAny_For ?_ (fun _ => rfl))
  refine Call_ (nm_range (T.keeps F3.keep) rfl rfl rfl rfl (callWith_type1 (args_cons (ld (s := { s with heap := h3, toks := _ }) F3 rfl (args_nil ?_)))))
  refine range1_rows (s := { s with heap := h3, toks := _ }) F3 N3 (fun h4 tk4 t1 u1 v1 hR F4 N4 k4 => ?_)
  refine wpAny_pyIter_range hR (small_one (by omega) (by omega) (by omega) (by omega)) ?_
  have e0 : Builtin.Range.rangeSize 0 n 1 = (n : Int) := by rw [rangeSize_nat]; simp
  rw [e0]
  have hoff : ∀ p ∈ [(lw, W.listOf vs.toArray 0)], p.1 ∉ [h4.objs.size] := by
    intro p hp hb
    rw [List.mem_singleton.mp hp, List.mem_singleton] at hb
    exact absurd (Heap.lt_size (N4 _ (.head _)).1) (hb ▸ Nat.lt_irrefl _)
  refine codeAny_forLoop_frU (s := { s with heap := h4.push _, toks := tk4 }) (h₀ := h₀) (Walks.range hh h4.objs.size 0 1 n) rfl rfl ?_ ?_ hoff ?_ (F4.push _) (N4.grown fun _ _ e => Heap.get?_push_of_some _ e)
    (fun i m' news' => news' = [(lw, listOf vs.toArray 0)] ∧ ∃ v pre t1 t2, m' "worth" = some (.int v t1) ∧ m' "word" = some (.str (W pre) t2) ∧ m' "places" = some (.int n u) ∧ m' "greatest" = some (.bool g) ∧ m' "worths" = some (.ref lw) ∧ pre.length = i ∧ pre ++ utm g (n - i) v = utm g n v0)
    ⟨rfl, v0, [], _, _, rfl, rfl, rfl, rfl, rfl, rfl, by simp⟩ ?_ ?_
  · intro hm; rw [List.mem_singleton] at hm; exact absurd F4.ns.lt (hm ▸ Nat.lt_irrefl _)
  · intro b hb; rw [List.mem_singleton.mp hb]
    exact Heap.get?_none_of_le (Nat.le_trans F4.above (Nat.le_of_lt F4.ns.lt))
  · show IsRangeIter _ _ _ _ _
    simpa using Heap.get?_push_size _ rfl
  · rintro i v m₁ news₁ s₁ own hi1 ⟨tk, rfl⟩ ⟨rfl, v, pre, t1, t2, e1, e2, e3, e4, e5, hpl, hpre⟩ - hown - - - F' N'
    refine wpAny_mono (?_ : wpAny _ _ _ _ (fun _ _ => False) _) (fun _ _ x => x) fun _ _ e => e.elim
    obtain ⟨j, rfl⟩ : ∃ j, n = j + 1 + i := ⟨n - 1 - i, by omega⟩
    have ej : j + 1 + i - i = j + 1 := by omega
    have ej' : j + 1 + i - (i + 1) = j := by omega
    have hlm : (lw, listOf vs.toArray 0) ∈ own ++ [(lw, listOf vs.toArray 0)] := List.mem_append_right _ (.head _)
    have hlen : vs.length = j + 1 + i := by rw [IntsAre.length hi, List.length_reverse, ups_length]
    obtain ⟨tw, gw⟩ := IntsAre.get hi i _ (ups_rev_get (n := j + 1 + i) (by omega))
    rw [show j + 1 + i - 1 - i = j by omega] at gw
    refine wpAny_execs_cons ?_
    refine wpAny_If (wpAny_mono (Q := fun b s₂ => ∃ h' tk', s₂ = { s₁ with heap := h', toks := tk' } ∧ Fr h₀ L h' (fun y => if y = "k" then some (Value.int (0 + (i : Int) * 1) tk) else m₁ y) ∧
      News h₀ L h' (own ++ [(lw, listOf vs.toArray 0)]) ∧ b = (decide (S j < v) || (g && decide (wt j ≤ v)))) ?_ ?_ (fun _ _ e => e))
    · refine isTrue_or ?_
      refine wpAny_isTrue_Compare1 (ld F' e1 ?_)
      refine Call_ (nm_sum (T.keeps F'.keep) rfl rfl rfl rfl (callWith_builtin1 (args_cons (Subscript_ (ld F' e5
        (wpAny_Slice (evalPart_some_step (wpAny_BinOp (ld F' rfl (wpAny_Constant_int (add_int (evalPart_none_step (evalPart_none_step ?_)))))))))))))
      refine kmk_slice_ints (s := { s₁ with toks := _ }) F' N' ⟨_, (N' _ hlm).1, rfl, 0, rfl⟩ (.int _ _) .none hi (kmk_from hi (by omega)) rfl (fun D ws h1' F1' N1' _ hi1' _ _ => ?_) (by with_unfolding_all rfl) (fun _ => by with_unfolding_all rfl) (by simp [hlen]; rw [sizeLine_eq]; omega)
      refine args_nil (LSm.sum_ints (s := { s₁ with heap := h1', toks := _ }) F1' N1' hh ⟨_, (N1' _ (.head _)).1, rfl, 0, rfl⟩ hi1' (fun h2' tk2' t2' F2' N2' => ?_))
      have es : ((ups (j + 1 + i)).reverse.drop (0 + (i : Int) * 1 + 1).toNat).sum = S j := by
        rw [show (0 + (i : Int) * 1 + 1).toNat = i + 1 by omega, ups_rev_drop _ _ (by omega), List.sum_reverse, ej']; rfl
      rw [es]
      refine gt_int (wpAny_truthy_bool ?_)
      by_cases c1 : S j < v
      · rw [if_pos (by simpa using c1)]
        exact ⟨h2', _, rfl, F2', (fun p hp => N2' p (.tail _ hp)), by simp [c1]⟩
      · rw [if_neg (by simpa using c1)]
        refine isTrue_or ?_
        refine isTrue_and ?_
        refine isTrue_plain (ld F2' e4 (wpAny_truthy_bool ?_)) ?_
        · cases g
          · rw [if_neg Bool.false_ne_true, if_neg Bool.false_ne_true]
            exact isTrue_or_nil ⟨h2', _, rfl, F2', (fun p hp => N2' p (.tail _ hp)), by simp [c1]⟩
          · rw [if_pos rfl]
            refine isTrue_and ?_
            refine wpAny_isTrue_Compare1 (ld F2' e1 (Subscript_ (ld F2' e5 (ld F2' rfl
              (item_listL ⟨_, (N2' _ (.tail _ hlm)).1, rfl, 0, rfl⟩ (by omega) (by omega) (x := .int (wt j) tw) (by rw [show (0 + (i : Int) * 1).toNat = i by omega]; exact gw) ?_)))))
            refine ge_int (wpAny_truthy_bool ?_)
            by_cases c2 : wt j ≤ v
            · rw [if_pos (by simpa using c2)]
              refine isTrue_and_nil ?_
              rw [if_pos rfl]
              exact ⟨h2', _, rfl, F2', (fun p hp => N2' p (.tail _ hp)), by simp [c2]⟩
            · rw [if_neg (by simpa using c2), if_neg Bool.false_ne_true]
              exact isTrue_or_nil ⟨h2', _, rfl, F2', (fun p hp => N2' p (.tail _ hp)), by simp [c1, c2]⟩
        · rfl
    · rintro b s₂ ⟨h1', tk1', rfl, F1', N1', hb⟩
      cases b
      · rw [if_neg Bool.false_ne_true]
        refine wpAny_execs_cons ?_
        refine wpAny_AugAssign_Name (ldn (s := { s₁ with heap := h1', toks := _ }) F1' e2 (Constant_str (SB.iadd (fun t' k' => ?_) (by rw [W_length]; show _ + 1 ≤ _; rw [sizeLine_eq]; omega))))
        refine stN (s := { s₁ with heap := h1', toks := _ }) F1' N1' (fun h2' F2' N2' => ?_)
        refine wpAny_execs_nil (wpAny_execs_nil ⟨rfl, h2', _, _, _, rfl, F2', N2', hoff, rfl, v, pre ++ [false], t1, t', e1, ?_, e3, e4, e5, by simp [hpl], ?_⟩)
        · rw [W_snoc]; rfl
        · rw [← hpre, ej', ej, utm, ← hb, if_neg Bool.false_ne_true, List.append_assoc]; rfl
      · rw [if_pos rfl]
        refine wpAny_execs_cons ?_
        refine wpAny_AugAssign_Name (ldn (s := { s₁ with heap := h1', toks := _ }) F1' e2 (Constant_str (SB.iadd (fun t' k' => ?_) (by rw [W_length]; show _ + 1 ≤ _; rw [sizeLine_eq]; omega))))
        refine stN (s := { s₁ with heap := h1', toks := _ }) F1' N1' (fun h2' F2' N2' => ?_)
        refine wpAny_execs_cons ?_
        refine wpAny_AugAssign_Name (ldn (s := { s₁ with heap := h2', toks := _ }) F2' e1 (Subscript_ (ld (s := { s₁ with heap := h2', toks := _ }) F2' e5 (ld (s := { s₁ with heap := h2', toks := _ }) F2' rfl
          (item_listL ⟨_, (N2' _ hlm).1, rfl, 0, rfl⟩ (by omega) (by omega) (x := .int (wt j) tw) (by rw [show (0 + (i : Int) * 1).toNat = i by omega]; exact gw) (isub_int ?_))))))
        refine stN (s := { s₁ with heap := h2', toks := _ }) F2' N2' (fun h3' F3' N3' => ?_)
        refine wpAny_execs_nil (wpAny_execs_nil ⟨rfl, h3', _, _, _, rfl, F3', N3', hoff, rfl, v - wt j, pre ++ [true], _, t', rfl, ?_, e3, e4, e5, by simp [hpl], ?_⟩)
        · rw [W_snoc]; rfl
        · rw [← hpre, ej', ej, utm, ← hb, if_pos rfl, List.append_assoc]; rfl
  · rintro h' tk' m' news' F' N' - ⟨rfl, v, pre, t1, t2, e1, e2, e3, e4, e5, hpl, hpre⟩
    show wpAny _ _ (execs _ _) _ _ _
    refine wpAny_execs_cons (wpAny_Return_some (ld (s := { s with heap := h', toks := _ }) F' e2 ?_))
    have := h h' tk' t2 F'.keep
    rw [← hpre, Nat.sub_self] at this
    simpa [utm] using this

theorem call_utm {E : Value → Shared → Prop} {a : Addr} {v0 : Int} {n : Nat} {g : Bool} {t u : Tok} {Q : Value → Shared → Prop} (T : Amb mg mb s.heap) (ha : mg (recAt 5).name = some (.ref a)) (hh : A.handled = none) (hr : A.depth + 1 < recursionLimit) (hn : 2 ≤ n) (hn' : n ≤ 64)
    (h : ∀ h' tk t', Keep s.heap h' → Q (.str (W (utm g n v0)) t') { s with heap := h', toks := tk }) :
    wpAny (model prog w) A (call (.ref a) [.int v0 t, .int n u, .bool g]) Q E s := by
  obtain ⟨a', o, pm, code, doc, h1, h2, h3, h4⟩ := T.fn 5 (by simp)
  rw [ha] at h1; cases h1
  refine wpAny_call (call_plain_ret (binds := [("worth", .int v0 t), ("places", .int n u), ("greatest", .bool g)]) (Nat.lt_of_succ_lt hr) h2 h3 T.nolimit h4 (by with_unfolding_all rfl) (fun x hx => ?_) (fun h₁ F => ?_))
  · rcases List.mem_cons.mp hx with rfl | hx
    · rfl
    rcases List.mem_cons.mp hx with rfl | hx
    · rfl
    rcases List.mem_singleton.mp hx with rfl; rfl
  · exact utm_body T hh hr hn hn' F (fun h' tk t' k1 => h h' tk t' k1)
end Mine
end

section
open PySem
namespace Mine

/-- what is sought: 011 (c = false) or 100 (c = true) -/
def pat (c : Bool) : List Bool := [c, !c, !c]

/-- every place of pat c, from the left, becomes pat (!c) -/
def rw3 (c : Bool) : List Bool → List Bool
  | a :: x :: y :: r => if a = c ∧ x = !c ∧ y = !c then (!c) :: c :: c :: rw3 c r else a :: rw3 c (x :: y :: r)
  | l => l

/-- how many places of pat c -/
def occ (c : Bool) : List Bool → Nat
  | [] => 0
  | a :: r => (if (a :: r).take 3 = pat c then 1 else 0) + occ c r

theorem rw3_match (c : Bool) (r : List Bool) : rw3 c (c :: (!c) :: (!c) :: r) = (!c) :: c :: c :: rw3 c r := by rw [rw3]; simp
theorem rw3_skip1 {c a : Bool} {r : List Bool} (h : (a :: r).take 3 ≠ pat c) : rw3 c (a :: r) = a :: rw3 c r := by
  match r, h with
  | [], _ => simp [rw3]
  | [x], _ => simp [rw3]
  | x :: y :: r, h =>
    rw [rw3, if_neg]
    rintro ⟨rfl, rfl, rfl⟩
    exact h rfl

/-- both ways down a word -/
theorem rw3_ind {c : Bool} {P : List Bool → Prop} (nil : P []) (hit : ∀ r, P r → P (c :: (!c) :: (!c) :: r)) (miss : ∀ a r, (a :: r).take 3 ≠ pat c → P r → P (a :: r)) : ∀ l, P l := by
  have key : ∀ n (l : List Bool), l.length ≤ n → P l := by
    intro n
    induction n with
    | zero => intro l hl; cases l with
      | nil => exact nil
      | cons => simp at hl
    | succ n ih =>
      intro l hl
      match l, hl with
      | [], _ => exact nil
      | a :: r, hl =>
        by_cases h : (a :: r).take 3 = pat c
        · match r, h with
          | [], h => simp [pat] at h
          | [x], h => simp [pat] at h
          | x :: y :: r, h =>
            simp [pat] at h
            obtain ⟨rfl, rfl, rfl⟩ := h
            exact hit r (ih r (by simp at hl; omega))
        · exact miss a r h (ih r (by simpa using hl))
  exact fun l => key l.length l (Nat.le_refl _)

theorem rw3_length (c : Bool) (l : List Bool) : (rw3 c l).length = l.length := by
  induction l using rw3_ind (c := c) with
  | nil => rfl
  | hit r ih => rw [rw3_match]; simp [ih]
  | miss a r h ih => rw [rw3_skip1 h]; simp [ih]

theorem rw3_val (c : Bool) (l : List Bool) : val (rw3 c l) = val l := by
  induction l using rw3_ind (c := c) with
  | nil => rfl
  | hit r ih => 
    rw [rw3_match]
    cases c <;> simp [val, ih, rw3_length, wt] <;> omega
  | miss a r h ih => rw [rw3_skip1 h]; simp [val, ih, rw3_length]

theorem occ_hit (c : Bool) (r : List Bool) : occ c (c :: (!c) :: (!c) :: r) = 1 + occ c r := by
  cases c <;> simp [occ, pat]
theorem occ_miss {c a : Bool} {r : List Bool} (h : (a :: r).take 3 ≠ pat c) : occ c (a :: r) = occ c r := by
  rw [occ, if_neg h]; simp

theorem rw3_count (c : Bool) (l : List Bool) : (rw3 c l).count (!c) + occ c l = l.count (!c) := by
  induction l using rw3_ind (c := c) with
  | nil => rfl
  | hit r ih => 
    rw [rw3_match, occ_hit]
    cases c <;> simp at ih ⊢ <;> omega
  | miss a r h ih => rw [rw3_skip1 h, occ_miss h, List.count_cons, List.count_cons]; omega

theorem rw3_free {c : Bool} {l : List Bool} (h : occ c l = 0) : rw3 c l = l := by
  induction l using rw3_ind (c := c) with
  | nil => rfl
  | hit r ih => rw [occ_hit] at h; omega
  | miss a r h' ih => rw [occ_miss h'] at h; rw [rw3_skip1 h', ih h]

theorem occ_le (c : Bool) (l : List Bool) : occ c l ≤ l.count (!c) := by have := rw3_count c l; omega

theorem count_both (c : Bool) (l : List Bool) : l.count c + l.count (!c) = l.length := by
  induction l with
  | nil => rfl
  | cons a r ih => cases a <;> cases c <;> simp at ih ⊢ <;> omega

/-- k rounds -/
def rnds (c : Bool) : Nat → List Bool → List Bool
  | 0, l => l
  | k + 1, l => rnds c k (rw3 c l)
theorem rnds_length (c : Bool) : ∀ k l, (rnds c k l).length = l.length
  | 0, _ => rfl
  | k + 1, l => by rw [rnds, rnds_length c k, rw3_length]
theorem rnds_val (c : Bool) : ∀ k l, val (rnds c k l) = val l
  | 0, _ => rfl
  | k + 1, l => by rw [rnds, rnds_val c k, rw3_val]
theorem rnds_free (c : Bool) : ∀ k l, l.count (!c) ≤ k → occ c (rnds c k l) = 0
  | 0, l, h => by have := occ_le c l; rw [rnds]; omega
  | k + 1, l, h => by
    rw [rnds]
    by_cases h0 : occ c l = 0
    · rw [rw3_free h0]
      have fix : ∀ k, rnds c k l = l := by
        intro k; induction k with
        | zero => rfl
        | succ k ih => rw [rnds, rw3_free h0, ih]
      rw [fix]; exact h0
    · exact rnds_free c k _ (by have := rw3_count c l; omega)

theorem wt_pos : ∀ n, 1 ≤ wt n
  | 0 => by decide
  | 1 => by decide
  | n + 2 => by have := wt_pos n; have := wt_pos (n + 1); rw [wt]; omega
theorem wt_mono (n : Nat) : wt n ≤ wt (n + 1) := by
  cases n with
  | zero => decide
  | succ n => have := wt_pos n; rw [wt]; omega
theorem S_succ (n : Nat) : S (n + 1) = S n + wt n := by simp [S, ups_succ]
theorem S_eq : ∀ n, S n = wt (n + 1) - 2
  | 0 => by decide
  | n + 1 => by rw [S_succ, S_eq n]; simp only [wt]; omega
theorem val_nonneg : ∀ l, 0 ≤ val l
  | [] => by decide
  | b :: r => by have := val_nonneg r; have := wt_pos r.length; cases b <;> simp [val] <;> omega
theorem val_le : ∀ l, val l ≤ S l.length
  | [] => by decide
  | b :: r => by
    have := val_le r; have := wt_pos r.length
    rw [List.length_cons, S_succ]
    cases b <;> simp [val] <;> omega

/-- no two ones side by side -/
def No11 : List Bool → Prop
  | true :: true :: _ => False
  | _ :: r => No11 r
  | [] => True

theorem occ_tail {c a : Bool} {r : List Bool} (h : occ c (a :: r) = 0) : occ c r = 0 := by rw [occ] at h; omega

theorem no11_of_free : ∀ r, occ false (false :: r) = 0 → No11 (false :: r)
  | [], _ => by simp [No11]
  | false :: r, h => by rw [No11]; exact no11_of_free r (occ_tail h); simp
  | [true], _ => by simp [No11]
  | true :: true :: r, h => by simp [occ, pat] at h
  | true :: false :: r, h => by
    have := no11_of_free r (occ_tail (occ_tail h))
    simp only [No11] at this ⊢
    exact this

theorem no11_tail : ∀ {a r}, No11 (a :: r) → No11 r
  | true, true :: _, h => h.elim
  | true, false :: _, h => by rw [No11] at h; exact h; simp
  | true, [], _ => trivial
  | false, r, h => by rw [No11] at h; exact h; simp

theorem no11_lt : ∀ l, No11 l → val l < wt l.length
  | [], _ => by decide
  | [true], _ => by decide
  | [false], _ => by decide
  | false :: b :: r, h => by
    have := no11_lt (b :: r) (no11_tail h)
    have := wt_mono (b :: r).length
    rw [val]; simp at *; omega
  | true :: true :: r, h => h.elim
  | true :: false :: r, h => by
    have := no11_lt r (no11_tail (no11_tail h))
    simp only [val, List.length_cons]
    simp [wt]; omega

theorem utm_great : ∀ l, No11 l → utm true l.length (val l) = l
  | [], _ => rfl
  | true :: r, h => by
    have := val_nonneg r
    rw [List.length_cons, utm, if_pos]
    · have e : val (true :: r) - wt r.length = val r := by simp [val]; omega
      rw [e, utm_great r (no11_tail h)]
    · simp [val]; omega
  | false :: r, h => by
    have h1 := val_le r
    have h2 := no11_lt r (no11_tail h)
    have e : val (false :: r) = val r := by simp [val]
    rw [List.length_cons, utm, e, if_neg, utm_great r (no11_tail h)]
    simp; omega

theorem least_ge : ∀ r : List Bool, r ≠ [] → occ true (true :: r) = 0 → wt (r.length - 1) - 1 ≤ val r
  | [], h, _ => (h rfl).elim
  | [b], _, _ => by cases b <;> decide
  | true :: b :: r, _, _ => by
    have := val_nonneg (b :: r)
    rw [val]; simp at *; omega
  | [false, true], _, _ => by decide
  | false :: false :: r, _, h => by simp [occ, pat] at h
  | false :: true :: b :: r, _, h => by
    have := least_ge (b :: r) (by simp) (occ_tail (occ_tail h))
    simp only [val, List.length_cons] at this ⊢
    simp [wt] at this ⊢; omega

theorem utm_least : ∀ l, occ true l = 0 → utm false l.length (val l) = l
  | [], _ => rfl
  | false :: r, h => by
    have h1 := val_le r
    have e : val (false :: r) = val r := by simp [val]
    rw [List.length_cons, utm, e, if_neg, utm_least r (occ_tail h)]
    simp; omega
  | true :: r, h => by
    rw [List.length_cons, utm, if_pos]
    · have e : val (true :: r) - wt r.length = val r := by simp [val]; omega
      rw [e, utm_least r (occ_tail h)]
    · rw [S_eq]
      have e : val (true :: r) = wt r.length + val r := by simp [val]
      rw [e]
      cases r with
      | nil => decide
      | cons b r =>
        have := least_ge (b :: r) (by simp) h
        simp at this ⊢
        simp only [wt]; omega

theorem first_nought {l0 r : List Bool} {b : Bool} (h : val (b :: r) = val (false :: false :: l0)) (hl : (b :: r).length = (false :: false :: l0).length) : b = false := by
  cases b with
  | false => rfl
  | true =>
    exfalso
    have h1 := val_le l0
    have h2 := val_nonneg r
    rw [S_eq] at h1
    have hr : r.length = l0.length + 1 := by simpa using hl
    simp [val, hr] at h
    omega

theorem great_of {l0 l : List Bool} (hl : l.length = (false :: false :: l0).length) (hv : val l = val (false :: false :: l0)) : rnds false l.length l = utm true l.length (val l) := by
  have e1 := rnds_length false l.length l
  have e2 := rnds_val false l.length l
  have e3 := rnds_free false l.length l (List.count_le_length ..)
  generalize hq : rnds false l.length l = q at e1 e2 e3
  rw [← e1, ← e2]
  match q, e1, e2, e3 with
  | [], e1, _, _ => simp [hl] at e1
  | b :: r, e1, e2, e3 =>
    have : b = false := first_nought (e2.trans hv) (e1.trans hl)
    subst this
    exact (utm_great _ (no11_of_free r e3)).symm

theorem least_of (l : List Bool) : rnds true l.length l = utm false l.length (val l) := by
  have e1 := rnds_length true l.length l
  have e2 := rnds_val true l.length l
  have e3 := rnds_free true l.length l (List.count_le_length ..)
  generalize hq : rnds true l.length l = q at e1 e2 e3
  rw [← e1, ← e2]
  exact (utm_least _ e3).symm
end Mine
end

section
open PySem PySem.Calls PyProof.Rows PySem.Builtin PySem.Builtin.Str
namespace Mine

theorem W_list (l : List Bool) : (W l).cps.toList = l.map fig := by simp [W]
theorem Str.ext' {a b : PySem.Str} (h : a.cps.toList = b.cps.toList) : a = b := by
  cases a; cases b; simp at h; simp [h]
theorem fig_inj : ∀ {a b : Bool}, fig a = fig b → a = b := by decide
theorem map_fig_inj : ∀ {a b : List Bool}, a.map fig = b.map fig → a = b
  | [], [], _ => rfl
  | [], _ :: _, h => by simp at h
  | _ :: _, [], h => by simp at h
  | x :: a, y :: b, h => by
    simp at h
    rw [fig_inj h.1, map_fig_inj h.2]
theorem W_append (a b : List Bool) : W a ++ W b = W (a ++ b) := by
  apply Str.ext'
  show ((W a).cps ++ (W b).cps).toList = _
  simp [W]

/-- pat c stands at place i -/
theorem at_iff {c : Bool} {l : List Bool} {i : Nat} : StrLaws.At (W l) (W (pat c)) (W l).length i ↔ (l.drop i).take 3 = pat c := by
  unfold StrLaws.At
  rw [StrLaws.subAt_eq, W_list, W_list, W_length, W_length]
  have e3 : (pat c).length = 3 := rfl
  rw [e3, ← List.map_drop, ← List.map_take]
  constructor
  · rintro ⟨-, h⟩
    exact map_fig_inj (by simpa using h)
  · intro h
    refine ⟨?_, by rw [h]; simp⟩
    have := congrArg List.length h
    rw [e3, List.length_take, List.length_drop] at this
    omega

theorem rw3_skip {c : Bool} : ∀ (j : Nat) (l : List Bool), (∀ k, k < j → (l.drop k).take 3 ≠ pat c) → rw3 c l = l.take j ++ rw3 c (l.drop j)
  | 0, _, _ => by simp
  | j + 1, [], _ => by simp [rw3]
  | j + 1, a :: r, h => by
    rw [rw3_skip1 (h 0 (by omega)), rw3_skip j r (fun k hk => h (k + 1) (by omega))]
    simp

theorem parts_ne (x : PySem.Str) (n a : Nat) (cuts : List Nat) : ∃ p ps, StrLaws.partsFrom x n a cuts = p :: ps := by
  cases cuts with
  | nil => exact ⟨_, _, rfl⟩
  | cons => exact ⟨_, _, rfl⟩

theorem sub_W (l : List Bool) (i j : Nat) : strSub (W l) i j = W ((l.drop i).take (j - i)) := by
  apply Str.ext'
  rw [StrLaws.strSub_toList, W_list, W_list, List.map_take, List.map_drop]

theorem rw3_none {c : Bool} {l : List Bool} (h : ∀ k, (l.drop k).take 3 ≠ pat c) : rw3 c l = l := by
  have := rw3_skip l.length l (fun k _ => h k)
  rw [this]; simp [rw3]

theorem join_parts {c : Bool} {l : List Bool} : ∀ (cuts : List Nat) (a f : Nat), StrLaws.ChainG (W l) (W (pat c)) (W l).length a cuts f → (∀ k, f ≤ k → ¬ StrLaws.At (W l) (W (pat c)) (W l).length k) →
    PySem.Str.join (W (pat (!c))) (StrLaws.partsFrom (W l) 3 a cuts) = W (rw3 c (l.drop a))
  | [], a, f, h, hn => by
    have e : f = a := h
    subst e
    show strSub (W l) f (W l).length = _
    rw [sub_W, W_length, rw3_none (l := l.drop f)]
    · rw [List.take_of_length_le (by simp)]
    · intro k hk
      rw [List.drop_drop] at hk
      exact hn (f + k) (by omega) (at_iff.mpr hk)
  | d :: r, a, f, h, hn => by
    obtain ⟨had, hAt, hgap, hrest⟩ := h
    have e3 : (W (pat c)).length = 3 := rfl
    rw [e3] at hrest
    have ih := join_parts r (d + 3) f hrest hn
    obtain ⟨p, ps, hp⟩ := parts_ne (W l) 3 (d + 3) r
    rw [StrLaws.partsFrom, hp]
    show strSub (W l) a d ++ W (pat (!c)) ++ PySem.Str.join (W (pat (!c))) (p :: ps) = _
    rw [← hp, ih, sub_W, W_append, W_append]
    congr 1
    rw [rw3_skip (d - a) (l.drop a)]
    · rw [List.drop_drop, show a + (d - a) = d by omega, List.append_assoc]
      congr 1
      have hd := at_iff.mp hAt
      have e : l.drop d = pat c ++ l.drop (d + 3) := by
        rw [← hd, ← List.drop_drop, List.take_append_drop]
      rw [e]
      show _ = rw3 c (c :: (!c) :: (!c) :: l.drop (d + 3))
      rw [rw3_match]
      simp [pat]
    · intro k hk hk2
      rw [List.drop_drop] at hk2
      exact hgap (a + k) (by omega) (by omega) (at_iff.mpr hk2)

theorem strKind_W (l : List Bool) : PySem.Builtin.Str.strKind (W l) = 1 := by
  unfold PySem.Builtin.Str.strKind
  rw [if_pos]
  rw [← Array.all_toList, W_list]
  simp [List.all_eq_true]
  exact ⟨fun _ => by decide, fun _ => by decide⟩

/-- one turn of replace -/
theorem turn_W (c : Bool) (l : List Bool) : Txt.join (W (pat (!c))) (Txt.split (W l) (W (pat c))) = W (rw3 c l) := by
  show glued _ _ = _
  rw [StrLaws.glued_eq_join]
  obtain ⟨f, hG, hn⟩ := StrLaws.occ_tight (W l) (W (pat c)) (by rw [W_length]; exact (by simp [pat] : 1 ≤ (pat c).length))
  have key := join_parts (occurrences (W l) (W (pat c)) 0 (W l).length ((W l).length + 1)) 0 f hG hn
  rw [List.drop_zero] at key
  unfold Txt.split
  rw [strKind_W, strKind_W]
  by_cases h1 : (W l).length < (W (pat c)).length
  · rw [if_pos (by simp [h1])]
    show W l = _
    rw [rw3_none]
    intro k hk
    have := congrArg List.length hk
    rw [W_length, W_length] at h1
    simp [pat] at this h1
    omega
  · rw [if_neg (by simp [h1])]
    by_cases h2 : (occurrences (W l) (W (pat c)) 0 (W l).length ((W l).length + 1)).isEmpty = true
    · rw [if_pos h2, ← key, List.isEmpty_iff.mp h2]
      show W l = strSub (W l) 0 (W l).length
      rw [sub_W, W_length]; simp
    · rw [if_neg h2, StrLaws.partsBetween_eq]
      exact key

theorem count_W (l : List Bool) : Txt.count (W l) "1" = (l.count true : Nat) := by
  have e : ("1" : PySem.Str) = ⟨#[49]⟩ := by decide
  rw [e]
  have h1 : Txt.count (W l) ⟨#[49]⟩ = cnt 49 (l.map fig) := by rw [count_is, W_list]; rfl
  rw [h1]
  clear h1
  induction l with
  | nil => rfl
  | cons a r ih =>
    rw [List.map_cons, cnt_cons, ih]
    cases a <;> simp [fig]; omega

theorem W_eq_iff (a b : List Bool) : ((W a).cps.toList == (W b).cps.toList) = (a == b) := by
  rw [W_list, W_list, Bool.eq_iff_iff]
  simp only [beq_iff_eq]
  exact ⟨map_fig_inj, fun h => by rw [h]⟩
end Mine
end

section
open PySem PySem.W PySem.Calls PyProof.Rows
set_option maxRecDepth 100000
namespace Mine

/-- a row of pairs as values -/
inductive PairsAre : List Value → List Bool → Prop
  | nil : PairsAre [] []
  | cons (c : Bool) (t u : Tok) {vs : List Value} {cs : List Bool} : PairsAre vs cs → PairsAre (.str (W (pat c)) t :: .str (W (pat (!c))) u :: vs) (c :: cs)

theorem PairsAre.len : ∀ {vs : List Value} {cs : List Bool}, PairsAre vs cs → vs.length = 2 * cs.length
  | _, _, .nil => rfl
  | _, _, .cons _ _ _ h => by simp [PairsAre.len h]; omega

def steps : List Bool → List Bool → List Bool
  | [], l => l
  | c :: cs, l => steps cs (rw3 c l)

variable {prog : Program} {w : World} {A : Around} {s : Shared} {mg mb : Str → Option Value}

theorem rep_body {L a : Addr} {cd : Value} {l : List Bool} {cs : List Bool} {vs : List Value} {t : Tok} {D : Addr} {h₀ : Heap} {Q : Flow → Shared → Prop} {m : Str → Option Value}
    (hl : l.length ≤ 64) (hc : cs.length ≤ 400) (hp : PairsAre vs cs) (e1 : m "text" = some (.str (W l) t)) (e2 : m "pairs" = some (.ref D))
    (F : Fr h₀ L s.heap m) (N : News h₀ L s.heap [(D, { cls := .type "tuple", data := .seq vs.toArray })])
    (h : ∀ h' tk t', Keep h₀ h' → Q (.ret (.str (W (steps cs l)) t')) { s with heap := h', toks := tk }) :
    wpAny (model prog w) A (execs (recAt 1).body (envOf (recAt 1).name (recAt 1).scope L a cd)) Q (fun _ _ => False) s := by
  refine wpAny_execs_cons (wpAny_While ?_)
  refine codeAny_whileLoop (fun k s' => ∃ l' cs' vs' t' D' h' tk mm, s' = { s with heap := h', toks := tk } ∧ k = cs'.length ∧ cs'.length ≤ 400 ∧ l'.length ≤ 64 ∧ PairsAre vs' cs' ∧ mm "text" = some (.str (W l') t') ∧ mm "pairs" = some (.ref D') ∧
      Fr h₀ L h' mm ∧ News h₀ L h' [(D', { cls := .type "tuple", data := .seq vs'.toArray })] ∧ steps cs' l' = steps cs l) ?_ cs.length
    ⟨l, cs, vs, t, D, s.heap, s.toks, m, rfl, rfl, hc, hl, hp, e1, e2, F, N, rfl⟩
  clear e1 e2 F N hp hc hl
  rintro k s' ⟨l, cs, vs, t, D, h', tk, m, rfl, rfl, hc, hl, hp, e1, e2, F, N, hst⟩
  have hlen := hp.len
  refine isTrue_plain (ld F e2 (ktl_truthyK N (.head _) (by omega) ?_)) ?_
  · cases hp with
    | nil =>
      rw [if_neg (by simp)]
      refine wpAny_execs_nil ?_
      show wpAny _ _ (execs _ _) _ _ _
      refine wpAny_execs_cons (wpAny_Return_some (ld (s := { s with heap := h', toks := _ }) F e1 ?_))
      rw [steps] at hst
      rw [hst]
      exact h h' _ t F.keep
    | @cons c t1 u1 vs cs hp =>
      rw [if_pos (by simp)]
      have ht : IsTup h' D (Value.str (W (pat c)) t1 :: Value.str (W (pat (!c))) u1 :: vs).toArray := ⟨_, (N _ (.head _)).1, rfl, 0, rfl⟩
      refine wpAny_execs_cons (wpAny_Assign_Name (MethodCall_ (Subscript_ (ld (s := { s with heap := h', toks := _ }) F e2 (wpAny_Constant_int
        (item_tupleT ht (j := 1) (by decide) (by decide) (by simp [seqIndex?]; omega) rfl (GM.join (callWith_method1 (args_cons ?_)))))))))
      refine MethodCall_ (ld (s := { s with heap := h', toks := _ }) F e1 (GM.split (callWith_method1 (args_cons (Subscript_ (ld (s := { s with heap := h', toks := _ }) F e2 (wpAny_Constant_int
        (item_tupleT ht (j := 0) (by decide) (by decide) (by simp [seqIndex?]; omega) rfl (args_nil ?_)))))))))
      refine KSpl.split1 (s := { s with heap := h', toks := _ }) F N (by cases c <;> rfl) (fun D1 ls h1 k1 he ha F1 N1 _ => ?_) (by rw [W_length, sizeLine_eq]; omega)
      refine args_nil (join_listW ⟨_, (N1 _ (.head _)).1, rfl, 0, rfl⟩ (by simpa using ha) (by cases c <;> decide) ?_ (fun t2 k2 => ?_))
      · have := split_weight (W l) (W (pat c)) (by cases c <;> decide)
        rw [he]
        rw [W_length] at this
        omega
      rw [he, turn_W]
      refine stN (s := { s with heap := h1, toks := _ }) F1 N1 (fun h2 F2 N2 => ?_)
      refine wpAny_execs_cons (wpAny_Assign_Name (Subscript_ (ld (s := { s with heap := h2, toks := _ }) F2 e2 (wpAny_Slice (evalPart_some_step (wpAny_Constant_int (evalPart_none_step (evalPart_none_step
        (slice_tuple_from (s := { s with heap := h2, toks := _ }) (a := 2) F2 N2 ⟨_, (N2 _ (.tail _ (.head _))).1, rfl, 0, rfl⟩ (by decide) (by simp) (fun h3 F3 N3 => ?_)
          (by with_unfolding_all rfl) (fun _ => by with_unfolding_all rfl) (by simp at hlen hc ⊢; rw [sizeLine_eq]; omega))))))))))
      refine stN (s := { s with heap := h3, toks := _ }) F3 N3 (fun h4 F4 N4 => ?_)
      simp at hc
      refine wpAny_execs_nil ⟨cs.length, by simp, rw3 c l, cs, vs, t2, _, h4, _, _, rfl, rfl, by omega, by rw [rw3_length]; exact hl, hp, rfl, rfl, F4, ?_, hst⟩
      intro p hp
      rw [List.mem_singleton.mp hp]
      exact N4 _ (.head _)
  · rfl

theorem bind_rep (pm code doc t v : Value) (vs : List Value) : bindArgs (Calls.docDef (recAt 1).name (recAt 1).params (recAt 1).body (recAt 1).scope pm code doc) ⟨t :: v :: vs, []⟩ =
    (newTuple (v :: vs) >>= fun v => pure [((Str.ofString "text" : Str), t), ((Str.ofString "pairs" : Str), v)]) := by
  with_unfolding_all rfl

theorem call_rep {E : Value → Shared → Prop} {a : Addr} {l cs : List Bool} {vs : List Value} {t : Tok} {Q : Value → Shared → Prop} (T : Amb mg mb s.heap) (ha : mg (recAt 1).name = some (.ref a)) (hr : A.depth < recursionLimit)
    (hne : cs ≠ []) (hl : l.length ≤ 64) (hc : cs.length ≤ 400) (hp : PairsAre vs cs)
    (h : ∀ h' tk t', Keep s.heap h' → Q (.str (W (steps cs l)) t') { s with heap := h', toks := tk }) :
    wpAny (model prog w) A (call (.ref a) (.str (W l) t :: vs)) Q E s := by
  obtain ⟨a', o, pm, code, doc, h1, h2, h3, h4⟩ := T.fn 1 (by simp)
  rw [ha] at h1; cases h1
  have hlen := hp.len
  obtain ⟨v, vs, rfl⟩ : ∃ v vs', vs = v :: vs' := by
    cases hp with
    | nil => exact absurd rfl hne
    | cons => exact ⟨_, _, rfl⟩
  refine wpAny_call (codeAny_call_function hr h2 h3 rfl rfl rfl h4 ?_)
  rw [bind_rep]
  refine wpAny_bind (wpAny_newTuple (wpAny_pure ?_) (by rw [sizeLine_eq]; omega))
  have hsz : (s.heap.push { cls := .type "tuple", data := .seq (v :: vs).toArray }).objs.size = s.heap.objs.size + 1 := Heap.size_push ..
  refine wpAny_newFunctionEnv (show ∀ x ∈ (recAt 1).scope.names, x.2 ≠ .cell by decide) (fun x hx => ?_) (fun h₁ hns hsb => ⟨(T.nolimit.push _).fresh _ hsb, ?_⟩) rfl
  · rcases List.mem_cons.mp hx with rfl | hx
    · rfl
    rcases List.mem_singleton.mp hx with rfl; rfl
  have hk : ∀ b o, (s.heap.push { cls := .type "tuple", data := .seq (v :: vs).toArray }).get? b = some o → h₁.get? b = some o := fun b o e => hsb.extBut b o (Nat.ne_of_lt (Heap.lt_size e)) (Heap.get?_push_of_some _ e)
  show codeAny _ _ (.func (recAt 1).body (envOf (recAt 1).name (recAt 1).scope _ a code)) _ _
  refine codeAny_func (wpAny_mono (rep_body (h₀ := s.heap) (D := s.heap.objs.size) (t := t) hl hc hp rfl rfl ⟨hns, fun b o e => hk b o (Heap.get?_push_of_some _ e), ?_⟩ ?_ (fun h' tk t' k1 => h h' tk t' k1)) (fun _ _ x => x) (fun _ _ x => x.elim))
  · show s.heap.objs.size ≤ (s.heap.push _).objs.size
    rw [Heap.size_push]; omega
  · intro p hp
    rw [List.mem_singleton.mp hp]
    refine ⟨hk _ _ (Heap.get?_push_size _ rfl), ?_, ?_⟩
    · show s.heap.objs.size ≠ (s.heap.push _).objs.size
      rw [Heap.size_push]; omega
    · exact Heap.get?_none_of_le (Nat.le_refl _)
end Mine
end

section
open PySem PySem.W PySem.Calls PyProof.Rows
set_option maxRecDepth 100000
namespace Mine

/-- the figure that an int of the script gives -/
def bitOf (x : Int) : Bool := decide (x.fmod 2 = 1)
theorem fmod_two (x : Int) : x.fmod 2 = if bitOf x then 1 else 0 := by
  have : x.fmod 2 = x % 2 := Int.fmod_eq_emod_of_nonneg x (by decide)
  have h := Int.emod_two_eq x
  unfold bitOf
  rcases h with h | h <;> rw [this, h] <;> rfl

theorem W_one (b : Bool) : W [b] = ⟨#[fig b]⟩ := by simp [W]
theorem W_nil : W [] = ⟨#[]⟩ := by simp [W]
theorem join_bits : ∀ bs : List Bool, Str.join (⟨#[]⟩ : Str) (bs.map fun b => W [b]) = W bs
  | [] => by rw [W_nil]; rfl
  | [b] => rfl
  | b :: c :: r => by
    have ih := join_bits (c :: r)
    show W [b] ++ ⟨#[]⟩ ++ Str.join (⟨#[]⟩ : Str) ((c :: r).map fun b => W [b]) = _
    rw [ih, ← W_nil, W_append, W_append]; rfl
theorem Wjoin_bits (bs : List Bool) : Txt.join (⟨#[]⟩ : Str) (bs.map fun b => W [b]) = W bs := by
  show Builtin.Str.glued _ _ = _
  rw [StrLaws.glued_eq_join, join_bits]
theorem len_bits : ∀ bs : List Bool, ((bs.map fun b => W [b]).map (·.length)).sum = bs.length
  | [] => rfl
  | b :: r => by
    have := len_bits r
    simp only [List.map_cons, List.sum_cons, List.length_cons] at this ⊢
    rw [this, W_length]; simp; omega

/-- the law's word -/
def wordOf (ns : List Int) : List Bool := false :: false :: ((ns.take 20).map bitOf ++ [false, true, true, false, true, true, true])
theorem wordOf_length (ns : List Int) : (wordOf ns).length = (ns.take 20).length + 9 := by simp [wordOf]
theorem wordOf_le (ns : List Int) : (wordOf ns).length ≤ 29 := by rw [wordOf_length, List.length_take]; omega
theorem wordOf_ge (ns : List Int) : 9 ≤ (wordOf ns).length := by rw [wordOf_length]; omega
theorem W_00 : (("00" : Str)) = W [false, false] := by decide
theorem W_tail : (("0110111" : Str)) = W [false, true, true, false, true, true, true] := by decide
theorem wordOf_W (ns : List Int) : (("00" : Str)) ++ W ((ns.take 20).map bitOf) ++ (("0110111" : Str)) = W (wordOf ns) := by
  rw [W_00, W_tail, W_append, W_append]; rfl

variable {prog : Program} {w : World} {A : Around} {E : Value → Shared → Prop} {s : Shared} {mg mb : Str → Option Value}

theorem item01 {b : Bool} : (seqIndex? (if b then 1 else 0) ((("01" : Str)).length)).bind ((("01" : Str)).cps[·]?) = some (fig b) := by cases b <;> decide

theorem word_stmt {L a : Addr} {cd : Value} {h₀ : Heap} {m : Str → Option Value} {news : List (Addr × Obj)} {S : Addr} {vs : List Value} {ns : List Int} {Q : Flow → Shared → Prop} {rest : List Stmt}
    (hh : A.handled = none) (F : Fr h₀ L s.heap m) (N : News h₀ L s.heap news) (hm : m "script" = some (.ref S)) (hS : h₀.IsList S vs.toArray) (hi : IntsAre vs ns) (hn : ns.length ≤ 63)
    (hb : (recAt 6).body.tail = rest)
    (h : ∀ h' tk t, Fr h₀ L h' (fun y => if y = "word" then some (.str (W (wordOf ns)) t) else m y) → News h₀ L h' news →
      wpAny (model prog w) A (execs rest (envOfC (recAt 6).name (recAt 6).scope L a cd)) Q E { s with heap := h', toks := tk }) :
    wpAny (model prog w) A (execs (recAt 6).body (envOfC (recAt 6).name (recAt 6).scope L a cd)) Q E s := by
  subst hb
  have hlen : vs.length ≤ 63 := by rw [IntsAre.length hi]; exact hn
  refine wpAny_execs_cons ?_
  refine wpAny_Assign_Name ?_
  refine wpAny_BinOp ?_
  refine wpAny_BinOp ?_
  refine Constant_str ?_
  refine MethodCall_ ?_
  refine Constant_str ?_
  refine GM.join ?_
  refine callWith_method1 (args_cons ?_)
  refine ListComp_DCn (h₀ := h₀) (L := L) (m := m) (K := .int) (pz := fun _ => true) (d := fun k => .str (W [bitOf k])) hh (cl := []) (by with_unfolding_all rfl) (by decide) rfl (by decide) (by decide) ?_ (fun _ => rfl)
  refine Subscript_ (ldLoc (s := { s with toks := _ }) F hm (wpAny_Slice (evalPart_none_step (evalPart_some_step (wpAny_Constant_int (evalPart_none_step ?_))))))
  refine kmk_slice_ints (s := { s with toks := _ }) F N (lstInComp hS F.keep) .none (.int _ _) hi (kmk_upto hi (by decide)) rfl (fun D ws h1 F1 N1 _ hi1 _ _ => ?_) (by with_unfolding_all rfl) (fun _ => by with_unfolding_all rfl) (by simp; rw [sizeLine_eq]; omega)
  refine ⟨_, _, ws, ns.take 20, rfl, ⟨_, (N1 _ (.head _)).1, rfl, 0, rfl⟩, hi1.areOf, ?_, F1, N1, ?_, ?_, ?_⟩
  · rw [List.length_take, sizeLine_eq]; omega
  · rintro C k v s₂ m₂ E' hC hk ⟨tk, rfl⟩ hns hm hkeep
    exact wpAny_pure ⟨rfl, Keeps.refl⟩
  · rintro C k v s₂ m₂ E' hC hk ⟨tk, rfl⟩ hpz hns hm hkeep
    refine Subscript_ (Constant_str (wpAny_BinOp (ldVarK hns hm (wpAny_Constant_int (mod_int' (by decide) ?_)))))
    rw [fmod_two]
    refine tail_any (typeIs_str _ _ _) PySem.F.slot_str_getitem.lookup (P.getItem_str (c := fig (bitOf k)) ?_ item01 ?_) (by with_unfolding_all rfl)
    · cases bitOf k <;> decide
    · rw [← W_one]
      exact ⟨.str _ _, Keeps.toks⟩
  · intro D ys h2 tk2 F2 N2 hD hlD hnp hc
    have hst : StrsAre ys (((ns.take 20).map bitOf).map fun b => W [b]) := by
      have := hc.strsOf
      rw [List.filter_eq_self.mpr (by simp)] at this
      rw [List.map_map]; exact this
    refine args_nil (join_listW (ys := ((ns.take 20).map bitOf).map fun b => W [b]) hlD hst (by decide) ?_ (fun t3 k3 => ?_))
    · rw [len_bits]; simp; omega
    have e0 : (("" : Str)) = ⟨#[]⟩ := by decide
    rw [e0, Wjoin_bits]
    refine SB.add (fun t4 k4 => Constant_str (SB.add (fun t5 k5 => ?_) ?_)) ?_
    · rw [wordOf_W]
      exact stLocN (s := { s with heap := h2, toks := k5 }) F2 N2 (fun h3 F3 N3 => h h3 _ _ F3 fun p hp => N3 p (.tail _ hp))
    · rw [W_00, W_append, W_length, W_tail, W_length, sizeLine_eq]; simp; omega
    · rw [W_00, W_length, W_length, sizeLine_eq]; simp; omega
end Mine
end

section
open PySem PySem.W PySem.Calls PyProof.Rows
set_option maxRecDepth 100000
namespace Mine

theorem slice_clip (x : Str) {i j : Int} (hj : (x.length : Int) ≤ j) : Txt.slice x (some i) (some j) = Txt.slice x (some i) (some (x.length : Int)) := by
  have e : Builtin.Str.strSliceIndices (some i) (some j) 1 x.length = Builtin.Str.strSliceIndices (some i) (some (x.length : Int)) 1 x.length := by
    unfold Builtin.Str.strSliceIndices
    have h1 : ¬ (j < 0) := by omega
    have h2 : ¬ ((x.length : Int) < 0) := by omega
    have h3 : min j (x.length : Int) = min (x.length : Int) (x.length : Int) := by omega
    simp only [if_neg h1, if_neg h2, h3, show (1 : Int) > 0 by decide, if_true]
  unfold Txt.slice
  rw [e]

theorem slice3 (l : List Bool) {k : Nat} (hk : k < l.length) : Txt.slice (W l) (some (k : Int)) (some ((k : Int) + 3)) = W ((l.drop k).take 3) := by
  by_cases h : k + 3 ≤ l.length
  · have := eq_of_beq (slice_closesL (x := W l) (i := k) (j := (k : Int) + 3) (by omega) (by omega) (by rw [W_length]; omega))
    rw [this]
    apply Str.ext'
    rw [W_list, W_list]
    simp
    omega
  · rw [slice_clip _ (by rw [W_length]; omega)]
    have := eq_of_beq (slice_closesL (x := W l) (i := k) (j := ((W l).length : Int)) (by omega) (by rw [W_length]; omega) (by omega))
    rw [this]
    apply Str.ext'
    rw [W_list, W_list, W_length]
    simp
    omega

theorem occ_filter (c : Bool) : ∀ l : List Bool, ((List.range l.length).filter (fun k => (l.drop k).take 3 == pat c)).length = occ c l
  | [] => rfl
  | a :: r => by
    have ih := occ_filter c r
    rw [List.length_cons, List.range_succ_eq_map, List.filter_cons, List.filter_map, occ, ← ih]
    have e : ((fun k => ((a :: r).drop k).take 3 == pat c) ∘ Nat.succ) = fun k => (r.drop k).take 3 == pat c := rfl
    rw [e]
    by_cases h : (a :: r).take 3 = pat c
    · rw [if_pos (by simpa using h), if_pos h]; simp; omega
    · rw [if_neg (by simpa using h), if_neg h]; simp

theorem occ_rangeInts (c : Bool) (l : List Bool) : ((rangeInts 0 1 l.length).filter (fun k => (l.drop k.toNat).take 3 == pat c)).length = occ c l := by
  rw [← occ_filter, rangeInts, List.filter_map, List.length_map]
  congr 2
  funext k; simp

/-- the change in the number of ones -/
theorem ones_change (c : Bool) (l : List Bool) : ((rw3 c l).count true : Int) - (l.count true : Int) = (occ c l : Int) * (((pat (!c)).count true : Int) - ((pat c).count true : Int)) := by
  have h := rw3_count c l
  cases c
  · simp [pat] at h ⊢; omega
  · have h1 := count_both true l
    have h2 := count_both true (rw3 true l)
    rw [rw3_length] at h2
    simp [pat] at h h1 h2 ⊢; omega

/-- the kind of pair that an int of the script gives -/
def kindOf' (x : Int) : Bool := decide ((x.fdiv 2).fmod 2 = 1)

variable {prog : Program} {w : World} {A : Around} {E : Value → Shared → Prop} {s : Shared}

theorem seqi_list_add : seqSlot? (.type "list") (dunderI "add") = pure (some (.builtin "list.__iadd__")) := PySem.seqSlot_of PySem.F.slot_list_iadd.lookup (by decide +kernel)
theorem fillsi_list_add : fillsInplaceSlot (.type "list") "add" true = pure false := by
  unfold fillsInplaceSlot
  show (typeLookup (.type "list") (dunderI "add") >>= fun fi => pure (fi.isSome && !isSeqSlot fi)) = pure false
  rw [PySem.F.slot_list_iadd.lookup]
  show (pure (!isSeqSlot (some (.builtin "list.__iadd__"))) : Sem Bool) = pure false
  rw [show isSeqSlot (some (.builtin "list.__iadd__")) = true by decide +kernel]
  rfl

theorem inplace_list {a b : Value} {Q : Value → Shared → Prop} (ha : s.TypeIs a "list") (hb : s.TypeIs b "list")
    (hc : wpAny (model prog w) A (call (.builtin "list.__iadd__") [a, b]) Q E s) : wpAny (model prog w) A (inplaceOp .Add a b) Q E s := by
  unfold inplaceOp
  refine wpAny_holding ?_
  refine wpAny_bind (wpAny_typeOf ha (wpAny_bind (wpAny_of_eq fillsi_list_add ?_)))
  show wpAny _ A (if false = true then _ else _) Q E s
  rw [if_neg Bool.false_ne_true]
  refine wpAny_bind (binaryOp1_none (nm := "add") ha hb noFill_list_add ?_)
  refine wpAny_bind (wpAny_of_eq seqi_list_add ?_)
  exact wpAny_bind (wpAny_rule hc)

theorem iadd_K {h₀ : Heap} {L D B : Addr} {m : Str → Option Value} {pre post : List (Addr × Obj)} {its its2 : Array Value} {n n2 : Nat} {Q : Value → Shared → Prop}
    (F : Fr h₀ L s.heap m) (N : News h₀ L s.heap (pre ++ (D, W.listOf its n) :: post)) (h1 : ∀ p ∈ pre, p.1 ≠ D) (h2 : ∀ p ∈ post, p.1 ≠ D) (hB : s.heap.get? B = some (W.listOf its2 n2)) (hsz : its.size + its2.size ≤ 1000)
    (h : ∀ h' n', Fr h₀ L h' m → News h₀ L h' (pre ++ (D, W.listOf (its ++ its2) n') :: post) → Q (.ref D) { s with heap := h' }) :
    wpAny (model prog w) A (inplaceOp .Add (.ref D) (.ref B)) Q E s := by
  have hD := (N (D, W.listOf its n) (List.mem_append_right _ (.head _))).1
  refine inplace_list ⟨_, hD, rfl⟩ ⟨_, hB, rfl⟩ (call_meets PySem.F.slot_list_iadd ⟨_, hD, rfl⟩ PySem.F.entry_list_iadd (PySem.F.args_list_iadd_2 _ _)
    (PySem.AutoSeq1.list___iadd___list_list_0 D its n B its2 n2 ?_ ?_ ?_) ⟨hD, hB, ?_⟩)
  · have : Builtin.List.listTooLong (its.size + its2.size) = false := by
      unfold Builtin.List.listTooLong
      simp [sizeLine_eq]; omega
    rw [this]; simp
  · rw [sizeLine_eq]; omega
  · rw [sizeLine_eq]; omega
  · have U := news_upd (f := Obj.mapSeq fun x => x ++ its2) F N h1 h2 rfl rfl
    exact h _ _ U.1 U.2
end Mine
end

section
open PySem PySem.W PySem.Calls PyProof.Rows
set_option maxRecDepth 100000
namespace Mine

/-- the body of the law's loop -/
def turnBody : List Stmt :=
  match ((recAt 6).body[4]? : Option Stmt) with
  | some (Stmt.For _ _ b _ _) => b
  | _ => []

theorem pat_f : (("011" : Str)) = W (pat false) := by decide
theorem pat_t : (("100" : Str)) = W (pat true) := by decide
theorem kind_two (x : Int) : (x.fdiv 2).fmod 2 = if kindOf' x then 1 else 0 := fmod_two (x.fdiv 2)

variable {prog : Program} {w : World} {A : Around} {E : Value → Shared → Prop} {s : Shared} {mg mb : Str → Option Value}

theorem turn1 {L a : Addr} {cd : Value} {h₀ : Heap} {m : Str → Option Value} {own : List (Addr × Obj)} {P : Addr} {oP oS oN : Obj} {v₀ : Option Value} {x : Int} {tx : Tok} {Q : Flow → Shared → Prop} {rest : List Stmt}
    (hh : A.handled = none) (F : Fr h₀ L s.heap m) (N : News h₀ L s.heap ((P, oP) :: (L + 1 + 1, oS) :: (L + 1, oN) :: own)) (hown : ∀ p ∈ own, p.1 ≠ L + 1 + 1) (hP : P ≠ L + 1 + 1)
    (dS : oS.data = .cell v₀) (ex : m "x" = some (.int x tx)) (hb : turnBody.tail = rest)
    (h : ∀ h' tk oS' t1 t2, Fr h₀ L h' (fun y => if y = "put" then some (.str (W (pat (!(kindOf' x)))) t2) else m y) → News h₀ L h' ((P, oP) :: (L + 1 + 1, oS') :: (L + 1, oN) :: own) → oS'.data = .cell (some (.str (W (pat (kindOf' x))) t1)) →
      wpAny (model prog w) A (execs rest (envOfC (recAt 6).name (recAt 6).scope L a cd)) Q E { s with heap := h', toks := tk }) :
    wpAny (model prog w) A (execs turnBody (envOfC (recAt 6).name (recAt 6).scope L a cd)) Q E s := by
  subst hb
  refine wpAny_execs_cons ?_
  refine Assign_Tuple ?_
  refine Subscript_ ?_
  refine List_ ?_
  refine args_cons ?_
  refine Tuple_ ?_
  refine args_cons ?_
  refine Constant_str ?_
  refine args_cons ?_
  refine Constant_str ?_
  refine args_nil ?_
  refine newTuple_N (s := { s with toks := _ }) F N (fun h1 F1 N1 => ?_) (by simp [sizeLine_eq])
  refine args_cons ?_
  refine Tuple_ ?_
  refine args_cons ?_
  refine Constant_str ?_
  refine args_cons ?_
  refine Constant_str ?_
  refine args_nil ?_
  refine newTuple_N (s := { s with heap := h1, toks := _ }) F1 N1 (fun h2 F2 N2 => ?_) (by simp [sizeLine_eq])
  refine args_nil ?_
  refine newList_N (s := { s with heap := h2, toks := _ }) F2 N2 (fun h3 F3 N3 => ?_) (by simp [sizeLine_eq])
  refine wpAny_BinOp ?_
  refine wpAny_BinOp ?_
  refine ldLoc (s := { s with heap := h3, toks := _ }) F3 ex ?_
  refine wpAny_Constant_int ?_
  refine floordiv_int (by decide) ?_ (Or.inl (PyProof.noPylong_of_log2 (by decide +kernel)))
  refine wpAny_Constant_int ?_
  refine mod_int' (by decide) ?_
  rw [kind_two]
  have i1 : ∃ T t1 t2, ([Value.ref s.heap.objs.size, Value.ref h1.objs.size] : List Value)[(if kindOf' x then (1 : Int) else 0).toNat]? = some (.ref T) ∧ IsTup h3 T [Value.str (W (pat (kindOf' x))) t1, Value.str (W (pat (!(kindOf' x)))) t2].toArray := by
    cases kindOf' x
    · exact ⟨_, _, _, rfl, ⟨_, (N3 _ (.tail _ (.tail _ (.head _)))).1, rfl, 0, rfl⟩⟩
    · exact ⟨_, _, _, rfl, ⟨_, (N3 _ (.tail _ (.head _))).1, rfl, 0, rfl⟩⟩
  obtain ⟨T, t1, t2, g1, g2⟩ := i1
  have hl3 : h3.IsList h2.objs.size [Value.ref s.heap.objs.size, Value.ref h1.objs.size].toArray := ⟨_, (N3 _ (.head _)).1, rfl, 0, rfl⟩
  refine tail_any hl3.typeIs slot_list_getitem.lookup (wpAny_getItem_list (x := .ref T) hl3 ?_ ?_ (by simpa using g1) ?_) (by with_unfolding_all rfl)
  · cases kindOf' x <;> decide
  · cases kindOf' x <;> decide
  refine assign_Tuple_tuple hh g2 rfl rfl (fun h4 he => ?_)
  have F4 := F3.extBut he (Nat.le_refl _)
  have N4 := N3.extBut he (Nat.le_refl _)
  refine wpAny_bind (wpAny_holding ?_)
  refine assign_Name ?_
  refine stCN (s := { s with heap := h4, toks := _ }) (x := "sought") (c := L + 1 + 1) (own := [(P, oP)]) (rest := (L + 1, oN) :: own) F4 (fun p hp => N4 p (.tail _ (.tail _ (.tail _ hp)))) (by with_unfolding_all rfl) dS ?_ ?_ (fun h5 oS' F5 N5 d5 => ?_)
  · intro p hp; rw [List.mem_singleton.mp hp]; exact hP
  · intro p hp
    rcases List.mem_cons.mp hp with rfl | hp
    · exact Nat.ne_of_lt (Nat.lt_succ_self _)
    · exact hown p hp
  refine wpAny_bind (wpAny_holding ?_)
  refine assign_Name ?_
  refine stLocN (s := { s with heap := h5, toks := _ }) F5 N5 (fun h6 F6 N6 => ?_)
  exact wpAny_pure (h h6 _ oS' t1 t2 F6 N6 d5)
end Mine
end

section
open PySem PySem.W PySem.Calls PyProof.Rows
set_option maxRecDepth 100000
namespace Mine

variable {prog : Program} {w : World} {A : Around} {E : Value → Shared → Prop} {s : Shared} {mg mb : Str → Option Value}

theorem turn2 {L a : Addr} {cd : Value} {h₀ : Heap} {m : Str → Option Value} {own : List (Addr × Obj)} {P : Addr} {oP oS oN : Obj} {c : Bool} {q : List Bool} {t1 tN : Tok} {Q : Flow → Shared → Prop} {rest : List Stmt}
    (T : Amb mg mb h₀) (hh : A.handled = none) (F : Fr h₀ L s.heap m) (N : News h₀ L s.heap ((P, oP) :: (L + 1 + 1, oS) :: (L + 1, oN) :: own))
    (dS : oS.data = .cell (some (.str (W (pat c)) t1))) (dN : oN.data = .cell (some (.str (W q) tN))) (hq : q.length ≤ 64) (hb : turnBody.tail.tail = rest)
    (h : ∀ h' tk D ys k, Fr h₀ L h' (fun y => if y = "places" then some (.ref D) else m y) → News h₀ L h' ((D, W.listOf ys k) :: (P, oP) :: (L + 1 + 1, oS) :: (L + 1, oN) :: own) → ys.size = occ c q → (D ≠ P ∧ D ≠ L + 1 + 1 ∧ D ≠ L + 1) →
      wpAny (model prog w) A (execs rest (envOfC (recAt 6).name (recAt 6).scope L a cd)) Q E { s with heap := h', toks := tk }) :
    wpAny (model prog w) A (execs turnBody.tail (envOfC (recAt 6).name (recAt 6).scope L a cd)) Q E s := by
  subst hb
  have cS : s.heap.IsCell (L + 1 + 1) (some (.str (W (pat c)) t1)) := ⟨_, (N _ (.tail _ (.head _))).1, dS⟩
  have cN : s.heap.IsCell (L + 1) (some (.str (W q) tN)) := ⟨_, (N _ (.tail _ (.tail _ (.head _)))).1, dN⟩
  refine wpAny_execs_cons ?_
  refine Assign_ListComp_DCr (h₀ := h₀) (L := L) (m := m) (pz := fun k => (q.drop k.toNat).take 3 == pat c) (d := fun k => .int k) (by with_unfolding_all rfl) rfl hh (by with_unfolding_all rfl) (by decide) rfl (by decide) (by decide) rfl rfl ?_ (fun _ => rfl)
  refine Call_ ?_
  refine nm_range (T.keeps F.keep) rfl rfl rfl rfl ?_
  refine PyProof.Rows.callWith_type1 ?_
  refine args_cons ?_
  refine Call_ ?_
  refine nm_len (T.keeps F.keep) rfl rfl rfl rfl ?_
  refine PyProof.Rows.callWith_builtin1 ?_
  refine args_cons ?_
  refine ldCN (x := "now") N (by with_unfolding_all rfl) (.tail _ (.tail _ (.head _))) dN ?_
  refine args_nil ?_
  refine PySem.P.len_str (by rw [W_length]; omega) ?_
  refine args_nil ?_
  rw [W_length]
  refine range1_rows (s := { s with toks := _ }) F N (fun h3 tk3 t1 u1 v1 hR F3 N3 k3 => ?_)
  refine ⟨_, _, 0, q.length, 1, t1, u1, v1, q.length, rfl, hR, small_one (by omega) (by omega) (by omega) (by omega), by rw [rangeSize_nat]; simp, by rw [sizeLine_eq]; omega, F3, N3, ?_, ?_, ?_⟩
  · rintro C k v s₂ m₂ E' hC hk ⟨tk, rfl⟩ hns hm hkeep
    have hk' := mem_rangeInts hk
    obtain ⟨j, rfl⟩ : ∃ j : Nat, k = (j : Int) := ⟨k.toNat, by omega⟩
    refine wpAny_tests_one ?_
    refine wpAny_isTrue_Compare1 ?_
    refine Subscript_ ?_
    refine ldCellK (x := "now") (by with_unfolding_all rfl) (cN.keeps fun b o e => hkeep b o (k3 b o e)) ?_
    refine wpAny_Slice ?_
    refine evalPart_some_step ?_
    refine ldVarK hns hm ?_
    refine evalPart_some_step ?_
    refine wpAny_BinOp ?_
    refine ldVarK hns hm ?_
    refine wpAny_Constant_int ?_
    refine add_int ?_
    refine evalPart_none_step ?_
    refine tail_of_ItemOn (SBH.sliceItem_ss (s := { s₂ with toks := _ }) (P := fun u => ∀ b o, s₂.heap.get? b = some o → u.get? b = some o) (fun u ob hu b o e => Heap.get?_push_of_some _ (hu b o e)) (fun b o e => e) (fun u t5 k5 hu => ?_) (by rw [W_length, sizeLine_eq]; omega)) (by with_unfolding_all rfl) (fun _ => by with_unfolding_all rfl)
    refine ldCellK (x := "sought") (by with_unfolding_all rfl) (cS.keeps fun b o e => hu b o (hkeep b o (k3 b o e))) ?_
    refine PySem.P.eq_str (wpAny_truthy_bool ?_)
    rw [slice3 q (by omega), W_eq_iff]
    exact ⟨rfl, u, _, rfl, hu⟩
  · rintro C k v s₂ m₂ E' hC hk ⟨tk, rfl⟩ hpz hns hm hkeep
    exact ldVarK hns hm ⟨.int _ _, Keeps.refl⟩
  · intro D ys h4 tk4 F4 N4 hD hlD hnp hc
    obtain ⟨k5, N5⟩ := made_enters hnp F4 N4 hD
    have hlen : ys.length = occ c q := by
      have := CarriedAll.length_eq hc
      rw [List.length_map, occ_rangeInts] at this
      exact this
    refine h h4 tk4 D ys.toArray k5 F4 ?_ (by simpa using hlen) ?_
    · exact N5
    · exact ⟨fun e => hnp.2 _ (.head _) e.symm, fun e => hnp.2 _ (.tail _ (.head _)) e.symm, fun e => hnp.2 _ (.tail _ (.tail _ (.head _))) e.symm⟩
end Mine
end

section
open PySem PySem.W PySem.Calls PyProof.Rows
set_option maxRecDepth 100000
namespace Mine

variable {prog : Program} {w : World} {A : Around} {E : Value → Shared → Prop} {s : Shared} {mg mb : Str → Option Value}

theorem turn3 {L a : Addr} {cd : Value} {h₀ : Heap} {m : Str → Option Value} {news : List (Addr × Obj)} {oS oN : Obj} {c : Bool} {l q : List Bool} {t1 t2 tN tw to : Tok} {Q : Flow → Shared → Prop} {rest : List Stmt}
    (T : Amb mg mb h₀) (hh : A.handled = none) (hr : A.depth + 1 < recursionLimit) (F : Fr h₀ L s.heap m) (N : News h₀ L s.heap news) (mS : (L + 1 + 1, oS) ∈ news) (mN : (L + 1, oN) ∈ news)
    (dS : oS.data = .cell (some (.str (W (pat c)) t1))) (dN : oN.data = .cell (some (.str (W q) tN))) (ep : m "put" = some (.str (W (pat (!c))) t2)) (ew : m "word" = some (.str (W l) tw)) (eo : m "worth" = some (.int (val l) to))
    (hq : q.length = l.length) (hv : val q = val l) (hl2 : 2 ≤ l.length) (hl : l.length ≤ 64) (hb : turnBody.tail.tail.tail.tail = rest)
    (h : ∀ h' tk t, Fr h₀ L h' (fun y => if y = "new" then some (.str (W (rw3 c q)) t) else m y) → News h₀ L h' news →
      wpAny (model prog w) A (execs rest (envOfC (recAt 6).name (recAt 6).scope L a cd)) Q E { s with heap := h', toks := tk }) :
    wpAny (model prog w) A (execs turnBody.tail.tail (envOfC (recAt 6).name (recAt 6).scope L a cd)) Q E s := by
  subst hb
  obtain ⟨ar, or, pmr, cor, dor, r1, r2, r3, r4⟩ := T.fn 1 (by simp)
  obtain ⟨aw, ow, pmw, cow, dow, w1, w2, w3, w4⟩ := T.fn 4 (by simp)
  refine wpAny_execs_cons ?_
  refine wpAny_Assign_Name ?_
  refine Call_ ?_
  refine nm_glob (T.keeps F.keep) r1 rfl rfl rfl (by decide) ?_
  refine callWith_def r3 ?_
  refine args_cons ?_
  refine ldCN (x := "now") N (by with_unfolding_all rfl) mN dN ?_
  refine args_cons ?_
  refine ldCN (x := "sought") N (by with_unfolding_all rfl) mS dS ?_
  refine args_cons ?_
  refine ldLoc F ep ?_
  refine args_nil ⟨F.keep _ _ r2, ?_⟩
  refine call_rep (cs := [c]) (T.keeps F.keep) r1 (Nat.lt_of_succ_lt hr) (by simp) (by omega) (by simp) (.cons c t1 t2 .nil) (fun h1 tk1 tn k1 => ?_)
  have F1 := F.keeps k1
  have N1 := N.grown k1
  refine stLocN (s := { s with heap := h1, toks := _ }) F1 N1 (fun h2 F2 N2 => ?_)
  refine wpAny_execs_cons ?_
  refine wpAny_If ?_
  have hlen : (rw3 c q).length = l.length := by rw [rw3_length, hq]
  refine isTrue_or ?_
  refine wpAny_isTrue_Compare1 ?_
  refine Call_ ?_
  refine nm_len (s := { s with heap := h2, toks := _ }) (T.keeps F2.keep) rfl rfl rfl rfl ?_
  refine PyProof.Rows.callWith_builtin1 ?_
  refine args_cons ?_
  refine ldLoc (s := { s with heap := h2, toks := _ }) F2 rfl ?_
  refine args_nil ?_
  show wpAny _ _ (call (.builtin "len") [Value.str (W (rw3 c q)) tn]) _ _ _
  refine PySem.P.len_str (by rw [W_length]; omega) ?_
  rw [W_length, hlen]
  refine Call_ ?_
  refine nm_len (s := { s with heap := h2, toks := _ }) (T.keeps F2.keep) rfl rfl rfl rfl ?_
  refine PyProof.Rows.callWith_builtin1 ?_
  refine args_cons ?_
  refine ldLoc (s := { s with heap := h2, toks := _ }) F2 ew ?_
  refine args_nil ?_
  refine PySem.P.len_str (by rw [W_length]; omega) ?_
  rw [W_length]
  refine ne_int ?_
  refine wpAny_truthy_bool ?_
  rw [show (((l.length : Nat) : Int) != ((l.length : Nat) : Int)) = false by simp, if_neg Bool.false_ne_true]
  refine isTrue_or ?_
  refine wpAny_isTrue_Compare1 ?_
  refine Call_ ?_
  refine nm_glob (s := { s with heap := h2, toks := _ }) (T.keeps F2.keep) w1 rfl rfl rfl (by decide) ?_
  refine callWith_def w3 ?_
  refine args_cons ?_
  refine ldLoc (s := { s with heap := h2, toks := _ }) F2 rfl ?_
  refine args_nil ⟨F2.keep _ _ w2, ?_⟩
  refine call_worth (s := { s with heap := h2, toks := _ }) (l := rw3 c q) (t := tn) (T.keeps F2.keep) w1 hh hr (by omega) (by omega) (fun h3 tk3 t3 k3 => ?_)
  have F3 := F2.keeps k3
  have N3 := N2.grown k3
  rw [rw3_val, hv]
  refine ldLoc (s := { s with heap := h3, toks := _ }) F3 eo ?_
  refine ne_int ?_
  refine wpAny_truthy_bool ?_
  rw [show (val l != val l) = false by simp, if_neg Bool.false_ne_true]
  refine isTrue_or_nil ?_
  rw [if_neg Bool.false_ne_true]
  refine wpAny_execs_nil ?_
  exact h h3 _ tn F3 N3
end Mine
end

section
open PySem PySem.W PySem.Calls PyProof.Rows
set_option maxRecDepth 100000
namespace Mine

variable {prog : Program} {w : World} {A : Around} {E : Value → Shared → Prop} {s : Shared} {mg mb : Str → Option Value}

theorem bits_pm {c : Bool} (a : Int) : IntMulOk a (((pat (!c)).count true : Int) - ((pat c).count true : Int)) :=
  IntMulOk.of_right (by cases c <;> decide +kernel)

theorem turn4 {L a : Addr} {cd : Value} {h₀ : Heap} {m : Str → Option Value} {own : List (Addr × Obj)} {D P : Addr} {ys : Array Value} {pv : List Value} {k n : Nat} {oS oN : Obj} {c : Bool} {q : List Bool} {t1 t2 tN tn : Tok} {Q : Flow → Shared → Prop}
    (T : Amb mg mb h₀) (F : Fr h₀ L s.heap m) (N : News h₀ L s.heap ((D, W.listOf ys k) :: (P, W.listOf pv.toArray n) :: (L + 1 + 1, oS) :: (L + 1, oN) :: own))
    (hD : D ≠ P ∧ D ≠ L + 1 + 1 ∧ D ≠ L + 1) (hown : ∀ p ∈ own, p.1 ≠ P ∧ p.1 ≠ L + 1) (hP : P ≠ L + 1 + 1 ∧ P ≠ L + 1) (hy : ys.size = occ c q) (hq : q.length ≤ 64) (hpv : pv.length ≤ 200)
    (dS : oS.data = .cell (some (.str (W (pat c)) t1))) (dN : oN.data = .cell (some (.str (W q) tN))) (ep : m "put" = some (.str (W (pat (!c))) t2)) (en : m "new" = some (.str (W (rw3 c q)) tn)) (el : m "places" = some (.ref D)) (er : m "pairs" = some (.ref P))
    (h : ∀ h' tk n' oN', Fr h₀ L h' (fun y => if y = "pairs" then some (.ref P) else m y) → News h₀ L h' ((P, W.listOf (pv ++ [Value.str (W (pat c)) t1, Value.str (W (pat (!c))) t2]).toArray n') :: (L + 1 + 1, oS) :: (L + 1, oN') :: own) →
      oN'.data = .cell (some (.str (W (rw3 c q)) tn)) → Q .next { s with heap := h', toks := tk }) :
    wpAny (model prog w) A (execs turnBody.tail.tail.tail.tail (envOfC (recAt 6).name (recAt 6).scope L a cd)) Q E s := by
  have mS : (L + 1 + 1, oS) ∈ (D, W.listOf ys k) :: (P, W.listOf pv.toArray n) :: (L + 1 + 1, oS) :: (L + 1, oN) :: own := .tail _ (.tail _ (.head _))
  have mN : (L + 1, oN) ∈ (D, W.listOf ys k) :: (P, W.listOf pv.toArray n) :: (L + 1 + 1, oS) :: (L + 1, oN) :: own := .tail _ (.tail _ (.tail _ (.head _)))
  refine wpAny_execs_cons ?_
  refine wpAny_If ?_
  refine wpAny_isTrue_Compare1 ?_
  refine wpAny_BinOp ?_
  refine MethodCall_ ?_
  refine ldLoc F en ?_
  refine GM.count ?_
  refine callWith_method1 ?_
  refine args_cons ?_
  refine Constant_str ?_
  refine args_nil ?_
  refine SC.count ?_
  refine MethodCall_ ?_
  refine ldCN (s := { s with toks := _ }) (x := "now") N (by with_unfolding_all rfl) mN dN ?_
  refine GM.count ?_
  refine callWith_method1 ?_
  refine args_cons ?_
  refine Constant_str ?_
  refine args_nil ?_
  refine SC.count ?_
  refine sub_int ?_
  refine wpAny_BinOp ?_
  refine Call_ ?_
  refine nm_len (s := { s with toks := _ }) (T.keeps F.keep) rfl rfl rfl rfl ?_
  refine PyProof.Rows.callWith_builtin1 ?_
  refine args_cons ?_
  refine ldLoc (s := { s with toks := _ }) F el ?_
  refine args_nil ?_
  have hocc := occ_le c q
  have hcnt : q.count (!c) ≤ q.length := List.count_le_length ..
  refine call_len_list (s := { s with toks := _ }) ⟨_, (N _ (.head _)).1, rfl, k, rfl⟩ (by rw [hy]; omega) ?_
  rw [hy]
  refine wpAny_BinOp ?_
  refine MethodCall_ ?_
  refine ldLoc (s := { s with toks := _ }) F ep ?_
  refine GM.count ?_
  refine callWith_method1 ?_
  refine args_cons ?_
  refine Constant_str ?_
  refine args_nil ?_
  refine SC.count ?_
  refine MethodCall_ ?_
  refine ldCN (s := { s with toks := _ }) (x := "sought") N (by with_unfolding_all rfl) mS dS ?_
  refine GM.count ?_
  refine callWith_method1 ?_
  refine args_cons ?_
  refine Constant_str ?_
  refine args_nil ?_
  refine SC.count ?_
  refine sub_int ?_
  rw [count_W, count_W, count_W, count_W]
  refine PySem.P.mul_int ?_ (bits_pm _)
  refine ne_int ?_
  refine wpAny_truthy_bool ?_
  rw [show ((((rw3 c q).count true : Nat) : Int) - ((q.count true : Nat) : Int) != ((occ c q : Nat) : Int) * ((((pat (!c)).count true : Nat) : Int) - (((pat c).count true : Nat) : Int))) = false by rw [ones_change]; simp, if_neg Bool.false_ne_true]
  refine wpAny_execs_nil ?_
  refine wpAny_execs_cons ?_
  refine wpAny_AugAssign_Name ?_
  refine wpAny_loadName_local (s := { s with toks := _ }) rfl rfl F.ns er ?_
  refine List_ ?_
  refine args_cons ?_
  refine ldCN (s := { s with toks := _ }) (x := "sought") N (by with_unfolding_all rfl) mS dS ?_
  refine args_cons ?_
  refine ldLoc (s := { s with toks := _ }) F ep ?_
  refine args_nil ?_
  refine newList_N (s := { s with toks := _ }) F N (fun h1 F1 N1 => ?_) (by simp [sizeLine_eq])
  refine iadd_K (s := { s with heap := h1, toks := _ }) (pre := []) (post := (L + 1 + 1, oS) :: (L + 1, oN) :: own) F1 (fun p hp => N1 p (.tail _ (.tail _ hp))) (fun _ h => nomatch h) ?_ (N1 _ (.head _)).1 (by simp; omega) (fun h2 n2 F2 N2 => ?_)
  · intro p hp
    rcases List.mem_cons.mp hp with rfl | hp
    · exact hP.1.symm
    rcases List.mem_cons.mp hp with rfl | hp
    · exact hP.2.symm
    · exact (hown p hp).1
  refine stLocN (s := { s with heap := h2, toks := _ }) F2 N2 (fun h3 F3 N3 => ?_)
  refine wpAny_execs_cons ?_
  refine wpAny_Assign_Name ?_
  refine ldLoc (s := { s with heap := h3, toks := _ }) F3 en ?_
  refine stCN (s := { s with heap := h3, toks := _ }) (x := "now") (c := L + 1) (own := [(P, _), (L + 1 + 1, oS)]) (rest := own) F3 N3 (by with_unfolding_all rfl) dN ?_ ?_ (fun h4 oN' F4 N4 d4 => ?_)
  · intro p hp
    rcases List.mem_cons.mp hp with rfl | hp
    · exact hP.2
    rw [List.mem_singleton.mp hp]
    exact Nat.ne_of_gt (Nat.lt_succ_self _)
  · intro p hp; exact (hown p hp).2
  refine wpAny_execs_nil ?_
  exact h h4 _ n2 oN' F4 (by simpa using N4) d4
end Mine
end

section
open PySem PySem.W PySem.Calls PyProof.Rows
set_option maxRecDepth 100000
namespace Mine

theorem steps_append : ∀ (a b l : List Bool), steps (a ++ b) l = steps b (steps a l)
  | [], _, _ => rfl
  | c :: a, b, l => by rw [List.cons_append, steps, steps, steps_append a b]
theorem steps_length : ∀ (cs l : List Bool), (steps cs l).length = l.length
  | [], _ => rfl
  | c :: cs, l => by rw [steps, steps_length cs, rw3_length]
theorem steps_val : ∀ (cs l : List Bool), val (steps cs l) = val l
  | [], _ => rfl
  | c :: cs, l => by rw [steps, steps_val cs, rw3_val]
theorem PairsAre.append : ∀ {vs ws : List Value} {cs ds : List Bool}, PairsAre vs cs → PairsAre ws ds → PairsAre (vs ++ ws) (cs ++ ds)
  | _, _, _, _, .nil, h => h
  | _, _, _, _, .cons c t u g, h => .cons c t u (PairsAre.append g h)

/-- the ints that the loop goes over, and the kinds of the pairs -/
def intsOf (ns : List Int) : List Int := ns.take 12 ++ [0, 2]
def kindsOf (ns : List Int) : List Bool := (intsOf ns).map kindOf'
theorem intsOf_length (ns : List Int) : (intsOf ns).length ≤ 14 := by simp [intsOf]; omega
theorem kindsOf_length (ns : List Int) : (kindsOf ns).length ≤ 14 := by rw [kindsOf, List.length_map]; exact intsOf_length ns
theorem kindsOf_ne (ns : List Int) : kindsOf ns ≠ [] := by simp [kindsOf, intsOf]
theorem kinds_take {ns : List Int} {i : Nat} {x : Int} (h : (intsOf ns)[i]? = some x) : (kindsOf ns).take (i + 1) = (kindsOf ns).take i ++ [kindOf' x] := by
  have e : (kindsOf ns)[i]? = some (kindOf' x) := by rw [kindsOf, List.getElem?_map, h]; rfl
  rw [List.take_add_one, e]; rfl

variable {prog : Program} {w : World} {A : Around} {s : Shared} {mg mb : Str → Option Value}

/-- what holds between the turns -/
def Jn (L P : Addr) (ns : List Int) (i : Nat) (m' : Str → Option Value) (news' : List (Addr × Obj)) : Prop :=
  ∃ pv n oS oN vS tN tw to, news' = [(P, W.listOf (List.toArray pv) n), (L + 1 + 1, oS), (L + 1, oN)] ∧ PairsAre pv ((kindsOf ns).take i) ∧ oS.data = .cell vS ∧
    oN.data = .cell (some (.str (W (steps ((kindsOf ns).take i) (wordOf ns))) tN)) ∧ m' "word" = some (.str (W (wordOf ns)) tw) ∧ m' "worth" = some (.int (val (wordOf ns)) to) ∧ m' "pairs" = some (.ref P)

set_option maxHeartbeats 4000000 in
theorem turn {L a : Addr} {cd : Value} {h₀ : Heap} {m₁ : Str → Option Value} {own news₁ : List (Addr × Obj)} {P I X : Addr} {ns : List Int} {i : Nat} {x : Int} {tx : Tok}
    (T : Amb mg mb h₀) (hh : A.handled = none) (hr : A.depth + 1 < recursionLimit) (hx : (intsOf ns)[i]? = some x)
    (hown : ∀ p ∈ own, p.1 ∈ [I, X]) (hI : I ≠ P ∧ I ≠ L + 1 + 1 ∧ I ≠ L + 1) (hX : X ≠ P ∧ X ≠ L + 1 + 1 ∧ X ≠ L + 1) (hP : P ≠ L + 1 + 1 ∧ P ≠ L + 1)
    (J : Jn L P ns i m₁ news₁) (F : Fr h₀ L s.heap (fun y => if y = "x" then some (.int x tx) else m₁ y)) (N : News h₀ L s.heap (own ++ news₁)) :
    wpAny (model prog w) A (execs turnBody (envOfC (recAt 6).name (recAt 6).scope L a cd)) (LoopStepU h₀ L [I] own (Jn L P ns (i + 1)) s) (fun _ _ => False) s := by
  obtain ⟨pv, n, oS, oN, vS, tN, tw, to, rfl, hp, dS, dN, ew, eo, er⟩ := J
  have own' : ∀ p ∈ own, p.1 ≠ P ∧ p.1 ≠ L + 1 + 1 ∧ p.1 ≠ L + 1 := by
    intro p hp
    rcases List.mem_cons.mp (hown p hp) with e | e
    · rw [e]; exact hI
    · rw [List.mem_singleton.mp e]; exact hX
  have N' : News h₀ L s.heap ((P, W.listOf pv.toArray n) :: (L + 1 + 1, oS) :: (L + 1, oN) :: own) := by
    intro p hp
    refine N p ?_
    rcases List.mem_cons.mp hp with rfl | hp
    · exact List.mem_append_right _ (.head _)
    rcases List.mem_cons.mp hp with rfl | hp
    · exact List.mem_append_right _ (.tail _ (.head _))
    rcases List.mem_cons.mp hp with rfl | hp
    · exact List.mem_append_right _ (.tail _ (.tail _ (.head _)))
    · exact List.mem_append_left _ hp
  have hw := wordOf_le ns
  have hw' := wordOf_ge ns
  have hk := kindsOf_length ns
  have hql : (steps ((kindsOf ns).take i) (wordOf ns)).length = (wordOf ns).length := steps_length _ _
  have hqv : val (steps ((kindsOf ns).take i) (wordOf ns)) = val (wordOf ns) := steps_val _ _
  have hpl := hp.len
  have htl : ((kindsOf ns).take i).length ≤ 14 := by rw [List.length_take]; omega
  refine turn1 hh F N' (fun p hp => (own' p hp).2.1) hP.1 dS rfl rfl (fun h1 tk1 oS1 t1 t2 F1 N1 d1 => ?_)
  refine turn2 (s := { s with heap := h1, toks := tk1 }) T hh F1 N1 d1 dN (by omega) rfl (fun h2 tk2 D ys k F2 N2 hy hD => ?_)
  refine turn3 (s := { s with heap := h2, toks := tk2 }) (l := wordOf ns) T hh hr F2 N2 (.tail _ (.tail _ (.head _))) (.tail _ (.tail _ (.tail _ (.head _)))) d1 dN rfl ew eo hql hqv (by omega) (by omega) rfl (fun h3 tk3 t3 F3 N3 => ?_)
  refine turn4 (s := { s with heap := h3, toks := tk3 }) T F3 N3 hD (fun p hp => ⟨(own' p hp).1, (own' p hp).2.2⟩) hP hy (by omega) (by omega) d1 dN rfl rfl rfl er (fun h4 tk4 n4 oN4 F4 N4 d4 => ?_)
  refine ⟨rfl, h4, tk4, _, _, rfl, F4, ?_, ?_, pv ++ [Value.str (W (pat (kindOf' x))) t1, Value.str (W (pat (!(kindOf' x)))) t2], n4, oS1, oN4, _, t3, tw, to, rfl, ?_, d1, ?_, ew, eo, rfl⟩
  · intro p hp
    refine N4 p ?_
    rcases List.mem_append.mp hp with hp | hp
    · exact .tail _ (.tail _ (.tail _ hp))
    · rcases List.mem_cons.mp hp with rfl | hp
      · exact .head _
      rcases List.mem_cons.mp hp with rfl | hp
      · exact .tail _ (.head _)
      rw [List.mem_singleton.mp hp]
      exact .tail _ (.tail _ (.head _))
  · intro p hp hb
    rw [List.mem_singleton] at hb
    rcases List.mem_cons.mp hp with rfl | hp
    · exact hI.1 hb.symm
    rcases List.mem_cons.mp hp with rfl | hp
    · exact hI.2.1 hb.symm
    rw [List.mem_singleton.mp hp] at hb
    exact hI.2.2 hb.symm
  · rw [kinds_take hx]
    exact hp.append (.cons _ t1 t2 .nil)
  · rw [kinds_take hx, steps_append]
    exact d4
end Mine
end

section
open PySem PySem.W PySem.Calls PyProof.Rows
set_option maxRecDepth 100000
namespace Mine

variable {prog : Program} {w : World} {A : Around} {s : Shared} {mg mb : Str → Option Value}

theorem pre_loop {E : Value → Shared → Prop} {L a : Addr} {cd : Value} {h₀ : Heap} {m : Str → Option Value} {oS oN : Obj} {v₀ v₁ : Option Value} {ns : List Int} {tw : Tok} {Q : Flow → Shared → Prop} {rest : List Stmt}
    (T : Amb mg mb h₀) (hh : A.handled = none) (hr : A.depth + 1 < recursionLimit) (F : Fr h₀ L s.heap m) (N : News h₀ L s.heap [(L + 1 + 1, oS), (L + 1, oN)])
    (dS : oS.data = .cell v₀) (dN : oN.data = .cell v₁) (ew : m "word" = some (.str (W (wordOf ns)) tw)) (hb : (recAt 6).body.tail.tail.tail.tail = rest)
    (h : ∀ h' tk m' P news', Fr h₀ L h' m' → News h₀ L h' news' → m' "script" = m "script" → (P ≠ L + 1 + 1 ∧ P ≠ L + 1) → Jn L P ns 0 m' news' →
      wpAny (model prog w) A (execs rest (envOfC (recAt 6).name (recAt 6).scope L a cd)) Q E { s with heap := h', toks := tk }) :
    wpAny (model prog w) A (execs (recAt 6).body.tail (envOfC (recAt 6).name (recAt 6).scope L a cd)) Q E s := by
  subst hb
  obtain ⟨aw, ow, pmw, cow, dow, w1, w2, w3, w4⟩ := T.fn 4 (by simp)
  have hw := wordOf_le ns
  have hw' := wordOf_ge ns
  refine wpAny_execs_cons ?_
  refine wpAny_Assign_Name ?_
  refine Call_ ?_
  refine nm_glob (T.keeps F.keep) w1 rfl rfl rfl (by decide) ?_
  refine callWith_def w3 ?_
  refine args_cons ?_
  refine ldLoc F ew ?_
  refine args_nil ⟨F.keep _ _ w2, ?_⟩
  refine call_worth (T.keeps F.keep) w1 hh hr (by omega) (by omega) (fun h1 tk1 t1 k1 => ?_)
  have F1 := F.keeps k1
  have N1 := N.grown k1
  refine stLocN (s := { s with heap := h1, toks := _ }) F1 N1 (fun h2 F2 N2 => ?_)
  refine wpAny_execs_cons ?_
  refine wpAny_Assign_Name ?_
  refine List_ ?_
  refine args_nil ?_
  have hs1 : L + 1 + 1 < h2.objs.size := Heap.lt_size (N2 _ (.head _)).1
  refine newList_N (s := { s with heap := h2, toks := _ }) F2 N2 (fun h3 F3 N3 => ?_) (by simp [sizeLine_eq])
  refine stLocN (s := { s with heap := h3, toks := _ }) F3 N3 (fun h4 F4 N4 => ?_)
  refine wpAny_execs_cons ?_
  refine wpAny_Assign_Name ?_
  refine ldLoc (s := { s with heap := h4, toks := _ }) F4 ew ?_
  refine stCN (s := { s with heap := h4, toks := _ }) (x := "now") (c := L + 1) (own := [(h2.objs.size, _), (L + 1 + 1, oS)]) (rest := []) F4 N4 (by with_unfolding_all rfl) dN ?_ ?_ (fun h5 oN' F5 N5 d5 => ?_)
  · intro p hp
    rcases List.mem_cons.mp hp with rfl | hp
    · show h2.objs.size ≠ L + 1
      exact Nat.ne_of_gt (Nat.lt_trans (Nat.lt_succ_self _) hs1)
    rw [List.mem_singleton.mp hp]
    exact Nat.ne_of_gt (Nat.lt_succ_self _)
  · intro p hp; exact nomatch hp
  refine h h5 _ _ h2.objs.size _ F5 N5 rfl ⟨Nat.ne_of_gt hs1, Nat.ne_of_gt (Nat.lt_trans (Nat.lt_succ_self _) hs1)⟩ ?_
  exact ⟨[], 0, oS, oN', v₀, tw, tw, t1, rfl, .nil, dS, d5, ew, rfl, rfl⟩

set_option maxHeartbeats 4000000 in
theorem loop {L a : Addr} {cd : Value} {h₀ : Heap} {m : Str → Option Value} {news : List (Addr × Obj)} {P S : Addr} {vs : List Value} {ns : List Int} {Q : Flow → Shared → Prop} {rest : List Stmt}
    (T : Amb mg mb h₀) (hh : A.handled = none) (hr : A.depth + 1 < recursionLimit) (F : Fr h₀ L s.heap m) (N : News h₀ L s.heap news)
    (hm : m "script" = some (.ref S)) (hS : h₀.IsList S vs.toArray) (hi : IntsAre vs ns) (hn : ns.length ≤ 63) (hP : P ≠ L + 1 + 1 ∧ P ≠ L + 1) (J : Jn L P ns 0 m news) (hb : (recAt 6).body.tail.tail.tail.tail.tail = rest)
    (h : ∀ h' tk m' news', Fr h₀ L h' m' → News h₀ L h' news' → Jn L P ns (intsOf ns).length m' news' →
      wpAny (model prog w) A (execs rest (envOfC (recAt 6).name (recAt 6).scope L a cd)) Q (fun _ _ => False) { s with heap := h', toks := tk }) :
    wpAny (model prog w) A (execs (recAt 6).body.tail.tail.tail.tail (envOfC (recAt 6).name (recAt 6).scope L a cd)) Q (fun _ _ => False) s := by
  subst hb
  have hlen : vs.length ≤ 63 := by rw [IntsAre.length hi]; exact hn
  have below : ∀ p ∈ news, p.1 < s.heap.objs.size := fun p hp => Heap.lt_size (N p hp).1
  have hPS : P < s.heap.objs.size ∧ L + 1 + 1 < s.heap.objs.size ∧ L + 1 < s.heap.objs.size := by
    obtain ⟨pv, n, oS, oN, vS, tN, tw, to, rfl, -⟩ := J
    exact ⟨below _ (.head _), below _ (.tail _ (.head _)), below _ (.tail _ (.tail _ (.head _)))⟩
  refine wpAny_execs_cons ?_
  refine wpAny_For ?_ (fun _ => rfl)
  refine wpAny_BinOp ?_
  refine Subscript_ ?_
  refine ldLoc F hm ?_
  refine wpAny_Slice ?_
  refine evalPart_none_step ?_
  refine evalPart_some_step ?_
  refine wpAny_Constant_int ?_
  refine evalPart_none_step ?_
  refine kmk_slice_ints (s := { s with toks := _ }) F N (lstInComp hS F.keep) .none (.int _ _) hi (kmk_upto hi (by decide)) rfl (fun D1 ws h1 F1 N1 l1 hi1 _ _ => ?_) (by with_unfolding_all rfl) (fun _ => by with_unfolding_all rfl) (by simp; rw [sizeLine_eq]; omega)
  refine List_ ?_
  refine args_cons ?_
  refine wpAny_Constant_int ?_
  refine args_cons ?_
  refine wpAny_Constant_int ?_
  refine args_nil ?_
  refine newList_N (s := { s with heap := h1, toks := _ }) F1 N1 (fun h2 F2 N2 => ?_) (by simp [sizeLine_eq])
  refine add_arrays_ints (s := { s with heap := h2, toks := _ }) (ms := [0, 2]) F2 N2 ⟨_, (N2 _ (.tail _ (.head _))).1, rfl, 0, rfl⟩ ⟨_, (N2 _ (.head _)).1, rfl, 0, rfl⟩ hi1 (.cons _ _ (.cons _ _ .nil)) (fun h3 F3 N3 hi3 => ?_) (by simp [sizeLine_eq]; omega)
  have hl3 : h3.IsList h2.objs.size _ := ⟨_, (N3 _ (.head _)).1, rfl, 0, rfl⟩
  refine wpAny_pyIter_list hl3 ?_
  have e2 : ∀ p ∈ news, p.1 < h2.objs.size := fun p hp => Heap.lt_size (N2 p (.tail _ (.tail _ hp))).1
  have e3 : ∀ p ∈ news, p.1 < h3.objs.size := fun p hp => Heap.lt_size (N3 p (.tail _ (.tail _ (.tail _ hp)))).1
  have hX3 : h2.objs.size < h3.objs.size := Heap.lt_size (N3 _ (.head _)).1
  have hXL : h2.objs.size ≠ L := (N3 _ (.head _)).2.1
  have hX0 : h₀.get? h2.objs.size = none := (N3 _ (.head _)).2.2
  have N4 : News h₀ L h3 news := fun p hp => N3 p (.tail _ (.tail _ (.tail _ hp)))
  have hXs : h2.objs.size ≠ P ∧ h2.objs.size ≠ L + 1 + 1 ∧ h2.objs.size ≠ L + 1 := by
    obtain ⟨pv, n, oS, oN, vS, tN, tw, to, rfl, -⟩ := J
    exact ⟨Nat.ne_of_gt (e2 _ (.head _)), Nat.ne_of_gt (e2 _ (.tail _ (.head _))), Nat.ne_of_gt (e2 _ (.tail _ (.tail _ (.head _))))⟩
  have hIs : h3.objs.size ≠ P ∧ h3.objs.size ≠ L + 1 + 1 ∧ h3.objs.size ≠ L + 1 := by
    obtain ⟨pv, n, oS, oN, vS, tN, tw, to, rfl, -⟩ := J
    exact ⟨Nat.ne_of_gt (e3 _ (.head _)), Nat.ne_of_gt (e3 _ (.tail _ (.head _))), Nat.ne_of_gt (e3 _ (.tail _ (.tail _ (.head _))))⟩
  generalize hits : ((List.toArray ws).toList ++ (List.toArray [Value.int 0 _, Value.int 2 _]).toList) = its at hl3 hi3
  have hi4 : IntsAre its (intsOf ns) := hi3
  have hitl : its.toArray.size = (intsOf ns).length := by rw [List.size_toArray, IntsAre.length hi4]
  refine codeAny_forLoop_frU (s := { s with heap := h3.push _, toks := _ }) (h₀ := h₀) (Walks.list hh h3.objs.size h2.objs.size (Nat.ne_of_lt hX3) its.toArray) rfl rfl ?_ ?_ ?_ ?_ (F3.push _) (N4.grown fun _ _ e => Heap.get?_push_of_some _ e)
    (Jn L P ns) J ?_ ?_
  · intro hm'
    rcases List.mem_cons.mp hm' with e | e
    · exact absurd F3.ns.lt (by rw [show L = h3.objs.size from e]; exact Nat.lt_irrefl _)
    · exact hXL (List.mem_singleton.mp e).symm
  · intro b hb
    rw [List.mem_singleton.mp hb]
    exact Heap.get?_none_of_le (Nat.le_trans F3.above (Nat.le_of_lt F3.ns.lt))
  · intro p hp hb
    rw [List.mem_singleton] at hb
    exact Nat.lt_irrefl _ (hb ▸ e3 p hp)
  · exact ⟨⟨_, Heap.get?_push_size _ rfl, rfl, rfl⟩, hl3.push _⟩
  · rintro i v m₁ news₁ s₁ own hi' hv hJ - hown - - - F' N'
    obtain ⟨x, tx, rfl, g1⟩ := IntsAre.at hi4 i v (by simpa using hv)
    exact wpAny_mono (turn T hh hr g1 hown hIs hXs hP hJ F' N') (fun _ _ x => x) fun _ _ e => e.elim
  · rintro h' tk' m' news' F' N' - hJ
    rw [hitl] at hJ
    exact h h' _ m' news' F' N' hJ
end Mine
end

section
open PySem PySem.W PySem.Calls PyProof.Rows
set_option maxRecDepth 100000
namespace Mine

theorem steps_rep (c : Bool) : ∀ (n : Nat) (l : List Bool), steps (List.replicate n c) l = rnds c n l
  | 0, _ => rfl
  | n + 1, l => by rw [List.replicate_succ, steps, rnds, steps_rep c n]
theorem pairs_rep (c : Bool) (t u : Tok) : ∀ n : Nat, PairsAre (List.replicate n [Value.str (W (pat c)) t, Value.str (W (pat (!c))) u]).flatten (List.replicate n c)
  | 0 => .nil
  | n + 1 => by
    rw [List.replicate_succ, List.flatten_cons, List.replicate_succ]
    exact .cons c t u (pairs_rep c t u n)

variable {prog : Program} {w : World} {A : Around} {s : Shared} {mg mb : Str → Option Value}

theorem end1 {E : Value → Shared → Prop} {L a : Addr} {cd : Value} {h₀ : Heap} {m : Str → Option Value} {news : List (Addr × Obj)} {P : Addr} {pv : List Value} {n : Nat} {oN : Obj} {l cs : List Bool} {tw tN : Tok} {Q : Flow → Shared → Prop} {rest : List Stmt}
    (T : Amb mg mb h₀) (hr : A.depth + 1 < recursionLimit) (F : Fr h₀ L s.heap m) (N : News h₀ L s.heap news) (mP : (P, W.listOf pv.toArray n) ∈ news) (mN : (L + 1, oN) ∈ news) (hp : PairsAre pv cs) (hne : cs ≠ []) (hc : cs.length ≤ 14)
    (dN : oN.data = .cell (some (.str (W (steps cs l)) tN))) (ew : m "word" = some (.str (W l) tw)) (ep : m "pairs" = some (.ref P)) (hl : l.length ≤ 29) (hb : (recAt 6).body.tail.tail.tail.tail.tail.tail = rest)
    (h : ∀ h' tk, Fr h₀ L h' m → News h₀ L h' news →
      wpAny (model prog w) A (execs rest (envOfC (recAt 6).name (recAt 6).scope L a cd)) Q E { s with heap := h', toks := tk }) :
    wpAny (model prog w) A (execs (recAt 6).body.tail.tail.tail.tail.tail (envOfC (recAt 6).name (recAt 6).scope L a cd)) Q E s := by
  subst hb
  obtain ⟨ar, or, pmr, cor, dor, r1, r2, r3, r4⟩ := T.fn 1 (by simp)
  have hpl := hp.len
  refine wpAny_execs_cons ?_
  refine wpAny_If ?_
  refine wpAny_isTrue_Compare1 ?_
  refine Call_ ?_
  refine nm_glob (T.keeps F.keep) r1 rfl rfl rfl (by decide) ?_
  refine callWith_def r3 ?_
  refine args_cons ?_
  refine ldLoc F ew ?_
  refine items_star ?_
  refine ldLoc F ep ?_
  refine star_seq F N mP rfl rfl (.inl rfl) (show pv.toArray.toList = pv by simp) (by simp; rw [sizeLine_eq]; omega) (fun h1 F1 N1 => ?_)
  refine args_nil ?_
  rw [List.append_nil]
  refine ⟨F1.keep _ _ r2, ?_⟩
  refine call_rep (s := { s with heap := h1 }) (T.keeps F1.keep) r1 (Nat.lt_of_succ_lt hr) hne (by omega) (by omega) hp (fun h2 tk2 t2 k2 => ?_)
  have F2 := F1.keeps k2
  have N2 := N1.grown k2
  refine ldCN (s := { s with heap := h2, toks := _ }) (x := "now") N2 (by with_unfolding_all rfl) mN dN ?_
  refine PySem.P.ne_str ?_
  refine wpAny_truthy_bool ?_
  rw [show ((W (steps cs l)).cps.toList != (W (steps cs l)).cps.toList) = false by simp, if_neg Bool.false_ne_true]
  refine wpAny_execs_nil ?_
  exact h h2 _ F2 N2

/-- the call of replace with as many pairs of one kind behind the others -/
theorem call_more {E : Value → Shared → Prop} {L a : Addr} {cd : Value} {h₀ : Heap} {m : Str → Option Value} {news : List (Addr × Obj)} {P : Addr} {pv : List Value} {n : Nat} {l cs : List Bool} {c : Bool} {tw : Tok} {Q : Value → Shared → Prop}
    {p1 p2 p3 p4 p5 p6 p7 p8 p9 p10 p11 p12 p13 : Pos} {k1 k2 : Nat} {x1 x2 : Str} (hx1 : x1 = W (pat c)) (hx2 : x2 = W (pat (!c)))
    (T : Amb mg mb h₀) (hr : A.depth + 1 < recursionLimit) (F : Fr h₀ L s.heap m) (N : News h₀ L s.heap news) (mP : (P, W.listOf pv.toArray n) ∈ news) (hp : PairsAre pv cs) (hne : cs ≠ []) (hc : cs.length ≤ 14)
    (ew : m "word" = some (.str (W l) tw)) (ep : m "pairs" = some (.ref P)) (hl : l.length ≤ 29)
    (h : ∀ h' tk t, Fr h₀ L h' m → News h₀ L h' news → Q (.str (W (rnds c l.length (steps cs l))) t) { s with heap := h', toks := tk }) :
    wpAny (model prog w) A (eval (.Call (.Name "replace" p1) [.Name "word" p2, .Starred (.BinOp (.Name "pairs" p3) .Add (.BinOp (.List [.Constant (.str x1) k1 p4, .Constant (.str x2) k2 p5] p6) .Mult (.Call (.Name "len" p7) [.Name "word" p8] [] p9) p10) p11) p12] [] p13) (envOfC (recAt 6).name (recAt 6).scope L a cd)) Q E s := by
  subst hx1 hx2
  obtain ⟨ar, or, pmr, cor, dor, r1, r2, r3, r4⟩ := T.fn 1 (by simp)
  have hpl := hp.len
  refine Call_ ?_
  refine nm_glob (T.keeps F.keep) r1 rfl rfl rfl (by decide) ?_
  refine callWith_def r3 ?_
  refine args_cons ?_
  refine ldLoc F ew ?_
  refine items_star ?_
  refine wpAny_BinOp ?_
  refine ldLoc F ep ?_
  refine wpAny_BinOp ?_
  refine List_ ?_
  refine args_cons ?_
  refine Constant_str ?_
  refine args_cons ?_
  refine Constant_str ?_
  refine args_nil ?_
  refine newList_N (s := { s with toks := _ }) F N (fun h1 F1 N1 => ?_) (by simp [sizeLine_eq])
  refine Call_ ?_
  refine nm_len (s := { s with heap := h1, toks := _ }) (T.keeps F1.keep) rfl rfl rfl rfl ?_
  refine PyProof.Rows.callWith_builtin1 ?_
  refine args_cons ?_
  refine ldLoc (s := { s with heap := h1, toks := _ }) F1 ew ?_
  refine args_nil ?_
  refine PySem.P.len_str (by rw [W_length]; omega) ?_
  rw [W_length]
  refine mul_list_is (s := { s with heap := h1, toks := _ }) (ds := [.str (W (pat c)), .str (W (pat (!c)))]) F1 N1 ⟨_, (N1 _ (.head _)).1, rfl, 0, rfl⟩ (.cons (.str _ _) (.cons (.str _ _) .nil)) (by omega) (by omega) (by simp; omega) (fun h2 F2 N2 hn2 hl2 _ => ?_)
  rw [Int.toNat_natCast] at hl2
  refine add_arrays (s := { s with heap := h2, toks := _ }) F2 N2 ⟨_, (N2 _ (.tail _ mP)).1, rfl, n, rfl⟩ hl2 (fun h3 F3 N3 => ?_) ?_
  · have hpp := hp.append (pairs_rep c s.toks (s.toks + 1) l.length)
    have hplen := hpp.len
    refine star_seq (s := { s with heap := h3, toks := _ }) F3 N3 (.head _) rfl rfl (.inl rfl) (show _ = pv ++ (List.replicate l.length [Value.str (W (pat c)) s.toks, Value.str (W (pat (!c))) (s.toks + 1)]).flatten by simp) ?_ (fun h4 F4 N4 => ?_)
    · simp at hplen ⊢; rw [sizeLine_eq]; omega
    refine args_nil ?_
    rw [List.append_nil]
    refine ⟨F4.keep _ _ r2, ?_⟩
    refine call_rep (s := { s with heap := h4, toks := _ }) (cs := cs ++ List.replicate l.length c) (T.keeps F4.keep) r1 (Nat.lt_of_succ_lt hr) (by simp [hne]) (by omega) (by simp; omega) hpp (fun h5 tk5 t5 k5 => ?_)
    rw [steps_append, steps_rep]
    exact h h5 tk5 t5 (F4.keeps k5) (fun p hp => (N4.grown k5) p (.tail _ (.tail _ hp)))
  · have := (pairs_rep c s.toks (s.toks + 1) l.length).len
    simp at this ⊢; rw [sizeLine_eq]; omega
end Mine
end

section
open PySem PySem.W PySem.Calls PyProof.Rows
set_option maxRecDepth 100000
namespace Mine

variable {prog : Program} {w : World} {A : Around} {s : Shared} {mg mb : Str → Option Value}

theorem end2 {E : Value → Shared → Prop} {L a : Addr} {cd : Value} {h₀ : Heap} {m : Str → Option Value} {news : List (Addr × Obj)} {P : Addr} {pv : List Value} {n : Nat} {ns : List Int} {cs : List Bool} {tw to : Tok} {Q : Flow → Shared → Prop} {rest : List Stmt}
    (T : Amb mg mb h₀) (hh : A.handled = none) (hr : A.depth + 1 < recursionLimit) (F : Fr h₀ L s.heap m) (N : News h₀ L s.heap news) (mP : (P, W.listOf pv.toArray n) ∈ news) (hp : PairsAre pv cs) (hne : cs ≠ []) (hc : cs.length ≤ 14)
    (ew : m "word" = some (.str (W (wordOf ns)) tw)) (eo : m "worth" = some (.int (val (wordOf ns)) to)) (ep : m "pairs" = some (.ref P)) (hb : (recAt 6).body.tail.tail.tail.tail.tail.tail.tail = rest)
    (h : ∀ h' tk, Fr h₀ L h' m → News h₀ L h' news →
      wpAny (model prog w) A (execs rest (envOfC (recAt 6).name (recAt 6).scope L a cd)) Q E { s with heap := h', toks := tk }) :
    wpAny (model prog w) A (execs (recAt 6).body.tail.tail.tail.tail.tail.tail (envOfC (recAt 6).name (recAt 6).scope L a cd)) Q E s := by
  subst hb
  obtain ⟨au, ou, pmu, cou, dou, u1, u2, u3, u4⟩ := T.fn 5 (by simp)
  have hw := wordOf_le ns
  have hw' := wordOf_ge ns
  refine wpAny_execs_cons ?_
  refine wpAny_If ?_
  refine wpAny_isTrue_Compare1 ?_
  refine call_more (c := false) pat_f pat_t T hr F N mP hp hne hc ew ep hw (fun h1 tk1 t1 F1 N1 => ?_)
  refine Call_ ?_
  refine nm_glob (s := { s with heap := h1, toks := _ }) (T.keeps F1.keep) u1 rfl rfl rfl (by decide) ?_
  refine callWith_def u3 ?_
  refine args_cons ?_
  refine ldLoc (s := { s with heap := h1, toks := _ }) F1 eo ?_
  refine args_cons ?_
  refine Call_ ?_
  refine nm_len (s := { s with heap := h1, toks := _ }) (T.keeps F1.keep) rfl rfl rfl rfl ?_
  refine PyProof.Rows.callWith_builtin1 ?_
  refine args_cons ?_
  refine ldLoc (s := { s with heap := h1, toks := _ }) F1 ew ?_
  refine args_nil ?_
  refine PySem.P.len_str (by rw [W_length]; omega) ?_
  rw [W_length]
  refine args_cons ?_
  refine Constant_bool ?_
  refine args_nil ⟨F1.keep _ _ u2, ?_⟩
  refine call_utm (s := { s with heap := h1, toks := _ }) (T.keeps F1.keep) u1 hh hr (by omega) (by omega) (fun h2 tk2 t2 k2 => ?_)
  refine PySem.P.ne_str ?_
  refine wpAny_truthy_bool ?_
  have key : rnds false (wordOf ns).length (steps cs (wordOf ns)) = utm true (wordOf ns).length (val (wordOf ns)) := by
    have := great_of (l0 := (ns.take 20).map bitOf ++ [false, true, true, false, true, true, true]) (l := steps cs (wordOf ns)) (steps_length _ _) (steps_val _ _)
    rw [steps_length, steps_val] at this
    exact this
  rw [key, show ((W (utm true (wordOf ns).length (val (wordOf ns)))).cps.toList != (W (utm true (wordOf ns).length (val (wordOf ns)))).cps.toList) = false by simp, if_neg Bool.false_ne_true]
  refine wpAny_execs_nil ?_
  exact h h2 _ (F1.keeps k2) (N1.grown k2)

theorem end3 {E : Value → Shared → Prop} {L a : Addr} {cd : Value} {h₀ : Heap} {m : Str → Option Value} {news : List (Addr × Obj)} {P : Addr} {pv : List Value} {n : Nat} {ns : List Int} {cs : List Bool} {tw to : Tok} {Q : Flow → Shared → Prop}
    (T : Amb mg mb h₀) (hh : A.handled = none) (hr : A.depth + 1 < recursionLimit) (F : Fr h₀ L s.heap m) (N : News h₀ L s.heap news) (mP : (P, W.listOf pv.toArray n) ∈ news) (hp : PairsAre pv cs) (hne : cs ≠ []) (hc : cs.length ≤ 14)
    (ew : m "word" = some (.str (W (wordOf ns)) tw)) (eo : m "worth" = some (.int (val (wordOf ns)) to)) (ep : m "pairs" = some (.ref P))
    (h : ∀ h' tk, Keep h₀ h' → Q (.ret (.bool true)) { s with heap := h', toks := tk }) :
    wpAny (model prog w) A (execs (recAt 6).body.tail.tail.tail.tail.tail.tail.tail (envOfC (recAt 6).name (recAt 6).scope L a cd)) Q E s := by
  obtain ⟨au, ou, pmu, cou, dou, u1, u2, u3, u4⟩ := T.fn 5 (by simp)
  have hw := wordOf_le ns
  have hw' := wordOf_ge ns
  refine wpAny_execs_cons ?_
  refine wpAny_Return_some ?_
  refine wpAny_Compare1 ?_
  refine call_more (c := true) pat_t pat_f T hr F N mP hp hne hc ew ep hw (fun h1 tk1 t1 F1 N1 => ?_)
  refine Call_ ?_
  refine nm_glob (s := { s with heap := h1, toks := _ }) (T.keeps F1.keep) u1 rfl rfl rfl (by decide) ?_
  refine callWith_def u3 ?_
  refine args_cons ?_
  refine ldLoc (s := { s with heap := h1, toks := _ }) F1 eo ?_
  refine args_cons ?_
  refine Call_ ?_
  refine nm_len (s := { s with heap := h1, toks := _ }) (T.keeps F1.keep) rfl rfl rfl rfl ?_
  refine PyProof.Rows.callWith_builtin1 ?_
  refine args_cons ?_
  refine ldLoc (s := { s with heap := h1, toks := _ }) F1 ew ?_
  refine args_nil ?_
  refine PySem.P.len_str (by rw [W_length]; omega) ?_
  rw [W_length]
  refine args_cons ?_
  refine Constant_bool ?_
  refine args_nil ⟨F1.keep _ _ u2, ?_⟩
  refine call_utm (s := { s with heap := h1, toks := _ }) (T.keeps F1.keep) u1 hh hr (by omega) (by omega) (fun h2 tk2 t2 k2 => ?_)
  refine PySem.P.eq_str ?_
  have key : rnds true (wordOf ns).length (steps cs (wordOf ns)) = utm false (wordOf ns).length (val (wordOf ns)) := by
    have := least_of (steps cs (wordOf ns))
    rw [steps_length, steps_val] at this
    exact this
  rw [key, show ((W (utm false (wordOf ns).length (val (wordOf ns)))).cps.toList == (W (utm false (wordOf ns).length (val (wordOf ns)))).cps.toList) = true by simp]
  exact h h2 _ (F1.keeps k2).keep

theorem law_body {L a : Addr} {cd : Value} {h₀ : Heap} {m : Str → Option Value} {oS oN : Obj} {v₀ v₁ : Option Value} {S : Addr} {vs : List Value} {ns : List Int} {Q : Flow → Shared → Prop}
    (T : Amb mg mb h₀) (hh : A.handled = none) (hr : A.depth + 1 < recursionLimit) (F : Fr h₀ L s.heap m) (N : News h₀ L s.heap [(L + 1 + 1, oS), (L + 1, oN)])
    (dS : oS.data = .cell v₀) (dN : oN.data = .cell v₁) (hm : m "script" = some (.ref S)) (hS : h₀.IsList S vs.toArray) (hi : IntsAre vs ns) (hn : ns.length ≤ 63)
    (h : ∀ h' tk, Keep h₀ h' → Q (.ret (.bool true)) { s with heap := h', toks := tk }) :
    wpAny (model prog w) A (execs (recAt 6).body (envOfC (recAt 6).name (recAt 6).scope L a cd)) Q (fun _ _ => False) s := by
  refine word_stmt hh F N hm hS hi hn rfl (fun h1 tk1 t1 F1 N1 => ?_)
  refine pre_loop (s := { s with heap := h1, toks := tk1 }) T hh hr F1 N1 dS dN rfl rfl (fun h2 tk2 m2 P news2 F2 N2 e2 hP J2 => ?_)
  refine loop (s := { s with heap := h2, toks := tk2 }) T hh hr F2 N2 (e2.trans hm) hS hi hn hP J2 rfl (fun h3 tk3 m3 news3 F3 N3 J3 => ?_)
  obtain ⟨pv, n, oS, oN, vS, tN, tw, to, rfl, hp, dS, dN, ew, eo, er⟩ := J3
  have hk : (kindsOf ns).take (intsOf ns).length = kindsOf ns := List.take_of_length_le (by rw [kindsOf, List.length_map]; exact Nat.le_refl _)
  rw [hk] at hp dN
  have hne := kindsOf_ne ns
  have hkl := kindsOf_length ns
  refine end1 (s := { s with heap := h3, toks := tk3 }) T hr F3 N3 (.head _) (.tail _ (.tail _ (.head _))) hp hne hkl dN ew er (wordOf_le ns) rfl (fun h4 tk4 F4 N4 => ?_)
  refine end2 (s := { s with heap := h4, toks := tk4 }) T hh hr F4 N4 (.head _) hp hne hkl ew eo er rfl (fun h5 tk5 F5 N5 => ?_)
  exact end3 (s := { s with heap := h5, toks := tk5 }) T hh hr F5 N5 (.head _) hp hne hkl ew eo er (fun h6 tk6 k6 => h h6 tk6 k6)
end Mine
end

section
open PySem PySem.W PySem.Calls PyProof.Rows
set_option maxRecDepth 100000
namespace Mine

theorem amb_of_top {p : Program} {loose : List Str} {mean : ExcName → Option Value} {mg mb : Str → Option Value} {h : Heap} (T : Top p loose mean mg mb h) (hr : recsOf p = [recAt 1, recAt 3, recAt 4, recAt 5, recAt 6])
    (hf : ∀ x ∈ ([("len" : Str), "range", "sum"] : List Str), x ∉ startupNames ∧ x ∉ loose ∧ x ∉ (recsOf p).map (·.name) ∧ x ∉ (litsOf p).map (·.1) ∧ x ∉ (clssOf p loose).map (·.name)) : Amb mg mb h where
  g := T.g
  b := T.b
  nolimit := T.nolimit
  bt := T.builtins
  nolen := let ⟨a, b, c, d, e⟩ := hf "len" (.head _); T.free _ a b c d e
  norange := let ⟨a, b, c, d, e⟩ := hf "range" (.tail _ (.head _)); T.free _ a b c d e
  nosum := let ⟨a, b, c, d, e⟩ := hf "sum" (.tail _ (.tail _ (.head _))); T.free _ a b c d e
  fn := fun n hn => T.fn (recAt n) (by
    rw [hr]
    rcases List.mem_cons.mp hn with rfl | hn
    · exact .head _
    rcases List.mem_cons.mp hn with rfl | hn
    · exact .tail _ (.head _)
    rcases List.mem_cons.mp hn with rfl | hn
    · exact .tail _ (.tail _ (.head _))
    rw [List.mem_singleton.mp hn]
    exact .tail _ (.tail _ (.tail _ (.head _))))

theorem good_true {c : ClaimW} {cl : Str → Option Addr} {mean : ExcName → Option Value} {args : List WData} {s₁ s' : Shared} (hk : Keep s₁.heap s'.heap) (hg : s'.gens = #[]) (hn : ∀ cls, c.raises args cls = false) (hp : c.post args (.bool true) args = true) (hos : s'.os = s₁.os) :
    GoodW c cl mean args s₁ (.ok (.ret (.bool true))) s' :=
  ⟨.inl ⟨_, .bool true, [], rfl, hn, .bool _, hp, fun _ => ⟨List.nodup_nil, fun _ h => nomatch h⟩⟩, hk, hos, hg⟩

end Mine
end

open PySem PySem.W PySem.Calls PyProof.Rows
set_option maxRecDepth 100000 in
set_option maxHeartbeats 8000000 in
theorem PySem.Challenge.cw_mj0331_01_holds : PySem.Challenge.rw_mj0331_01.Holds := by
  w_on; o_law; k_head; (case hw => w_witness2)
  k_go0
  rename Top _ _ _ _ _ _ => T
  rename Fr _ _ _ _ => F
  rename News _ _ _ _ => N
  rename IntsAre _ _ => hI
  rename Heap.IsList _ _ _ => hL
  rename_i dS dN X0
  refine wpAny_mono (Mine.law_body (Mine.amb_of_top T ?_ ?_) rfl ?_ F N dS dN rfl hL hI ?_ (fun h' tk hk => ?_)) (fun _ _ x => x) (fun _ _ x => x.elim)
  · with_unfolding_all rfl
  · decide +kernel
  · exact Nat.le_of_ble_eq_true rfl
  · omega
  · exact Mine.good_true hk (by assumption) (fun _ => rfl) (postW_of (X := true) rfl (by with_unfolding_all rfl) rfl) rfl
