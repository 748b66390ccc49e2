import PyProof.Rows.All
import Wide.All
import OpenK.AllK
import Wide.FinOn
import PySem.Challenge.RW_ki0037_01
open PySem PySem.W PyProof.Rows
set_option Elab.async false

namespace Mine
set_option maxRecDepth 100000
set_option maxHeartbeats 4000000

/-- the program's statements, by place -/
def stmtAt (n : Nat) : Stmt := PySem.Challenge.pw_ki0037_01.main.body.getD n (.Pass ⟨0, 0, 0, 0⟩)
def fBody : Stmt → List Stmt
  | .FunctionDef _ _ b .. => b
  | _ => []
def fParams : Stmt → Arguments
  | .FunctionDef _ p .. => p
  | _ => default
def fScope : Stmt → Scope
  | .FunctionDef _ _ _ _ _ _ sc .. => sc
  | _ => default
abbrev prg : Program := PySem.Challenge.pw_ki0037_01
/-- a text out of its signs' numbers -/
abbrev S (l : List Nat) : Str := ⟨l.toArray⟩
abbrev Keeps (h h' : Heap) : Prop := ∀ b o, h.get? b = some o → h'.get? b = some o

section
variable {h₀ h h' : Heap} {L I : Addr} {m : Str → Option Value} {n : List (Addr × Obj)}
theorem Keeps.trans {h h' h'' : Heap} (a : Keeps h h') (b : Keeps h' h'') : Keeps h h'' := fun x o e => b x o (a x o e)
theorem news_keeps (N : News h₀ L h n) (k : Keeps h h') : News h₀ L h' n := fun p hp => ⟨k _ _ (N p hp).1, (N p hp).2⟩
theorem fr_extBut (F : Fr h₀ L h m) (hs : Heap.ExtBut I h h') (hL : I ≠ L) (hn : h₀.get? I = none) : Fr h₀ L h' m := by
  refine ⟨F.ns.extBut hs hL.symm, fun b o e => hs b o ?_ (F.keep b o e), F.above⟩
  rintro rfl
  rw [hn] at e; cases e
theorem news_extBut (N : News h₀ L h n) (hs : Heap.ExtBut I h h') (hn : ∀ p ∈ n, p.1 ≠ I) : News h₀ L h' n :=
  fun p hp => ⟨hs _ _ (hn p hp) (N p hp).1, (N p hp).2⟩
theorem news_sameBut {oI oI' : Obj} (N : News h₀ L h ((I, oI) :: n)) (hs : Heap.SameBut I h h') (hn : ∀ p ∈ n, p.1 ≠ I) (ho : h'.get? I = some oI') : News h₀ L h' ((I, oI') :: n) := by
  intro p hp
  rcases List.mem_cons.mp hp with rfl | hp
  · exact ⟨ho, (N (I, oI) (.head _)).2⟩
  · exact ⟨(hs.2 _ (hn p hp)).trans (N p (.tail _ hp)).1, (N p (.tail _ hp)).2⟩
theorem news_tail {x : Addr × Obj} (N : News h₀ L h (x :: n)) : News h₀ L h n := fun p hp => N p (.tail _ hp)
end

section
variable {w : World} {A : Around} {E : Value → Shared → Prop} {s : Shared} {h₀ : Heap} {L : Addr} {m : Str → Option Value} {news : List (Addr × Obj)} {env : Env}

/-- for sign in text, by what holds between the turns -/
theorem for_text {Q : Flow → Shared → Prop} {v : Str} {px pos : Pos} {iter : Expr} {body : List Stmt} {l : List Nat} {t : Tok}
    (hh : A.handled = none) (hL : env.locals = L) (hv : env.kindOf v = some .local)
    (hp : (env.scope.kind == .class || (env.scope.kind == .module && env.locals != env.globals)) = false)
    (F : Fr h₀ L s.heap m) (N : News h₀ L s.heap news) (ha : ∀ c ∈ l, c < 128)
    (hiter : ∀ Q' : Value → Shared → Prop, Q' (.str (S l) t) s → wpAny (model prg w) A (eval iter env) Q' E s)
    (J : Nat → (Str → Option Value) → List (Addr × Obj) → Prop) (h0 : J 0 m news)
    (step : ∀ i c tk m₁ n₁ I oI h₁ tk₁, l[i]? = some c → J i m₁ n₁ → Fr h₀ L h₁ (fun y => if y = v then some (.str (S [c]) tk) else m₁ y) → News h₀ L h₁ ((I, oI) :: n₁) → (∀ p ∈ n₁, p.1 ≠ I) →
      wpAny (model prg w) A (execs body env) (fun f s₂ => f = .next ∧ ∃ h₂ tk₂ m₂ n₂, s₂ = { s with heap := h₂, toks := tk₂ } ∧ J (i + 1) m₂ n₂ ∧ Fr h₀ L h₂ m₂ ∧ News h₀ L h₂ ((I, oI) :: n₂) ∧ ∀ p ∈ n₂, p.1 ≠ I) (fun _ _ => False) { s with heap := h₁, toks := tk₁ })
    (hQ : ∀ h' tk m' n', J l.length m' n' → Fr h₀ L h' m' → News h₀ L h' n' → Q .next { s with heap := h', toks := tk })
    (hs : ∀ y, foldedSetIterable iter env y = pure y := by intro _; rfl) :
    wpAny (model prg w) A (exec (.For (.Name v px) iter body [] pos) env) Q E s := by
  subst hL
  have ha' : (S l).cps.all (· < 128) = true := by
    show l.toArray.all (· < 128) = true
    rw [List.all_toArray]
    exact List.all_eq_true.mpr fun c hc => decide_eq_true (ha c hc)
  refine wpAny_For (hiter _ (wpAny_pyIter_ascii ha' ?_)) hs
  have hLs : env.locals < s.heap.objs.size := F.ns.lt
  have hIL : s.heap.objs.size ≠ env.locals := Nat.ne_of_gt hLs
  have hI0 : h₀.get? s.heap.objs.size = none := Heap.get?_none_of_le (Nat.le_trans F.above (Nat.le_of_lt hLs))
  refine codeAny_forLoop (fun n s' => ∃ h' tk m' n' i oI, s' = { s with heap := h', toks := tk } ∧ h'.IsStrIter s.heap.objs.size "str_ascii_iterator" (S l) t i ∧ Fr h₀ env.locals h' m' ∧ News h₀ env.locals h' ((s.heap.objs.size, oI) :: n') ∧
      (∀ p ∈ n', p.1 ≠ s.heap.objs.size) ∧ J i m' n' ∧ i ≤ l.length ∧ n = l.length + 1 - i) ?_ (l.length + 1) ?_
  · rintro n s' ⟨h', tk, m', n', i, oI, rfl, hit, F', N', hne, hJ, hi, rfl⟩
    cases hc : l[i]? with
    | none =>
      have hsz : i = l.length := Nat.le_antisymm hi (by simpa using hc)
      refine wpAny_pyNext_ascii_end hh hit (by simpa using hc) fun h₁ he₁ => wpAny_execs_nil ?_
      exact hQ h₁ tk m' n' (hsz ▸ hJ) (fr_extBut F' he₁ hIL hI0) (news_extBut (news_tail N') he₁ hne)
    | some c =>
      have hlt : i < l.length := (List.getElem?_eq_some_iff.mp hc).1
      refine wpAny_pyNext_ascii_item hit (c := c) (by simpa using hc) fun h₁ hit₁ hs₁ => ?_
      obtain ⟨oI', hoI', _⟩ := id hit₁
      have F₁ := F'.change hs₁ hIL hI0
      have N₁ := news_sameBut N' hs₁ hne hoI'
      refine wpAny_assign_Name (wpAny_storeName_local hv F₁.ns (fun h₂ hn₂ hs₂ => ?_) hp)
      refine wpAny_mono (step i c _ m' n' _ oI' h₂ _ hc hJ (F₁.set hn₂ hs₂) (N₁.set hs₂) hne) (fun f s₃ h₃ => ?_) fun _ _ e => e.elim
      obtain ⟨rfl, h₃', tk₃, m₂, n₂, rfl, hJ₂, F₂, N₂, hne₂⟩ := h₃
      refine ⟨l.length + 1 - (i + 1), by omega, h₃', tk₃, m₂, n₂, i + 1, oI', rfl, ?_, F₂, N₂, hne₂, hJ₂, hlt, rfl⟩
      obtain ⟨o2, ho2, r2⟩ := hit₁
      rw [hoI'] at ho2; cases ho2
      exact ⟨oI', (N₂ _ (.head _)).1, r2⟩
  · refine ⟨_, s.toks, m, news, 0, _, rfl, ⟨_, Heap.get?_push_size _ rfl, rfl, rfl⟩, F.push _, N.push F _, fun p hp => ?_, h0, Nat.zero_le _, rfl⟩
    exact Nat.ne_of_lt (Heap.lt_size (N p hp).1)
end
end Mine

namespace Mine
set_option maxRecDepth 100000
set_option maxHeartbeats 4000000

/-- a def of the text at an address -/
def FnAt (h : Heap) (a : Addr) (n : Nat) (q : Str) (dV : Value) (cd : Value) : Prop :=
  ∃ o kV doc pm an ct, h.get? a = some o ∧ o.data = .func (fnOf q q (fParams (stmtAt n)) (fBody (stmtAt n)) (fScope (stmtAt n)) dV kV doc pm an cd ct) ∧ h.CodeRec cd q
theorem FnAt.keeps {h h' : Heap} {a : Addr} {n : Nat} {q : Str} {dV cd : Value} (x : FnAt h a n q dV cd) (k : Keeps h h') : FnAt h' a n q dV cd :=
  let ⟨o, kV, doc, pm, an, ct, h1, h2, h3⟩ := x; ⟨o, kV, doc, pm, an, ct, k _ _ h1, h2, h3.keeps k⟩

/-- what each call asks of the heap -/
structure Ctx (mg mb : Str → Option Value) (h : Heap) : Prop where
  g : h.Ns mainGlobals mg
  b : h.Ns builtinsNs mb
  bi : ∀ x : Str, x ≠ "__name__" → mb x = bootBuiltins x
  lim : h.NoLimit
  fchr : mg "chr" = none
  ford : mg "ord" = none
  fmap : mg "map" = none
  fstr : mg "str" = none
  great : ∃ a cd, mg "_law_great" = some (.ref a) ∧ FnAt h a 7 "_law_great" .none cd
  rows : ∃ a cd, mg "_law_rows" = some (.ref a) ∧ FnAt h a 5 "_law_rows" .none cd
  words : ∃ a cd, mg "_law_words" = some (.ref a) ∧ FnAt h a 6 "_law_words" .none cd
  white : ∃ a cd, mg "_law_white" = some (.ref a) ∧ FnAt h a 8 "_law_white" .none cd
  cap : ∃ a cd T o n, mg "capwords" = some (.ref a) ∧ FnAt h a 3 "capwords" (.ref T) cd ∧ h.get? T = some o ∧ o.data = .seq #[.none] n
theorem Ctx.keeps {mg mb : Str → Option Value} {h h' : Heap} (C : Ctx mg mb h) (k : Keeps h h') : Ctx mg mb h' where
  g := C.g.keeps k
  b := C.b.keeps k
  bi := C.bi
  lim := C.lim.keeps k
  fchr := C.fchr
  ford := C.ford
  fmap := C.fmap
  fstr := C.fstr
  great := let ⟨a, cd, h1, h2⟩ := C.great; ⟨a, cd, h1, h2.keeps k⟩
  rows := let ⟨a, cd, h1, h2⟩ := C.rows; ⟨a, cd, h1, h2.keeps k⟩
  words := let ⟨a, cd, h1, h2⟩ := C.words; ⟨a, cd, h1, h2.keeps k⟩
  white := let ⟨a, cd, h1, h2⟩ := C.white; ⟨a, cd, h1, h2.keeps k⟩
  cap := let ⟨a, cd, T, o, n, h1, h2, h3, h4⟩ := C.cap; ⟨a, cd, T, o, n, h1, h2.keeps k, k _ _ h3, h4⟩

/-- the sign made great, made small; a text made so -/
def up (c : Nat) : Nat := if 97 ≤ c ∧ c ≤ 122 then c - 32 else c
def low (c : Nat) : Nat := if 65 ≤ c ∧ c ≤ 90 then c + 32 else c
def great : List Nat → List Nat
  | [] => []
  | c :: r => up c :: r.map low
theorem great_length (l : List Nat) : (great l).length = l.length := by cases l <;> simp [great]
theorem great_snoc (l : List Nat) (c : Nat) : great (l ++ [c]) = great l ++ [if l = [] then up c else low c] := by cases l <;> simp [great]
theorem great_nil {l : List Nat} : great l = [] ↔ l = [] := by cases l <;> simp [great]

theorem S_eq (a b : List Nat) : (S a == S b) = decide (a = b) := by
  rw [Bool.eq_iff_iff]; simp
theorem S_ne (a b : List Nat) : (S a != S b) = !decide (a = b) := by
  rw [bne, S_eq]
theorem eqS {w : World} {A : Around} {E : Value → Shared → Prop} {s : Shared} {a b : List Nat} {x : Str} {t u : Tok} {Q : Value → Shared → Prop} (e : x = S b) (h : Q (.bool (decide (a = b))) s) :
    wpAny (model prg w) A (compareOp .Eq (.str (S a) t) (.str x u)) Q E s := by
  subst e; exact eq_str (by rw [S_eq]; exact h)
theorem neS {w : World} {A : Around} {E : Value → Shared → Prop} {s : Shared} {a b : List Nat} {x : Str} {t u : Tok} {Q : Value → Shared → Prop} (e : x = S b) (h : Q (.bool (!decide (a = b))) s) :
    wpAny (model prg w) A (compareOp .NotEq (.str (S a) t) (.str x u)) Q E s := by
  subst e; exact ne_str (by rw [S_ne]; exact h)
theorem S_length (a : List Nat) : (S a).length = a.length := by simp [Str.length]
theorem S_append (a b : List Nat) : S a ++ S b = S (a ++ b) := Str.ext' (by simp [Str.cps_append])

section
variable {w : World} {A : Around} {s : Shared} {h₀ : Heap} {L a : Addr} {cd : Value} {mg mb m₁ : Str → Option Value} {c : Nat} {tk : Tok}

/-- out += V -/
theorem great_aug {I : Addr} {oI : Obj} {g : List Nat} {to : Tok} {e : Expr} {c' : Nat} {p1 p2 : Pos} (hm : m₁ (Str.ofString "out") = some (.str (S g) to)) (hg : g.length ≤ 10000)
    (F : Fr h₀ L s.heap (fun y => if y = Str.ofString "sign" then some (.str (S [c]) tk) else m₁ y)) (N : News h₀ L s.heap [(I, oI)])
    (he : ∀ Q' : Value → Shared → Prop, (∀ t' k, Q' (.str (S [c']) t') { s with toks := k }) → wpAny (model prg w) A (eval e (envOf (Str.ofString "_law_great") (fScope (stmtAt 7)) L a cd)) Q' (fun _ _ => False) s) :
    wpAny (model prg w) A (execs [.AugAssign (.Name (Str.ofString "out") p1) .Add e p2] (envOf (Str.ofString "_law_great") (fScope (stmtAt 7)) L a cd))
      (fun f s₂ => f = .next ∧ ∃ h₂ tk₂ m₂, s₂ = { s with heap := h₂, toks := tk₂ } ∧ (∃ t', m₂ (Str.ofString "out") = some (.str (S (g ++ [c'])) t')) ∧ Fr h₀ L h₂ m₂ ∧ News h₀ L h₂ [(I, oI)]) (fun _ _ => False) s := by
  refine wpAny_execs_cons (wpAny_AugAssign_Name (ldn F ((if_neg (by decide)).trans hm) (he _ fun t' k => iadd_str (fun t2 tk2 => stN (by exact F) (by exact N) fun h₃ F₃ N₃ => wpAny_execs_nil ?_) ?_)))
  · refine ⟨rfl, h₃, _, _, rfl, ⟨t2, ?_⟩, F₃, N₃⟩
    rw [if_pos rfl, S_append]
  · rw [S_length, S_length, sizeLine_eq]; simp only [List.length_cons, List.length_nil]; omega

/-- lo <= sign <= hi -/
theorem great_chain {lo hi : Nat} {x1 x2 : Str} {k1 k2 : Nat} {p1 p2 p3 p4 : Pos} {wh : Sem Value} {Q' : Bool → Shared → Prop} {E : Value → Shared → Prop} (e1 : x1 = S [lo]) (e2 : x2 = S [hi])
    (F : Fr h₀ L s.heap (fun y => if y = Str.ofString "sign" then some (.str (S [c]) tk) else m₁ y))
    (hq : ∀ k, Q' (decide (lo ≤ c ∧ c ≤ hi)) { s with toks := k }) :
    wpAny (model prg w) A (isTrue (.Compare (.Constant (.str x1) k1 p1) [.LtE, .LtE] [.Name (Str.ofString "sign") p2, .Constant (.str x2) k2 p3] p4) (envOf (Str.ofString "_law_great") (fScope (stmtAt 7)) L a cd) wh) Q' E s := by
  subst e1 e2
  refine isTrue_chain (wpAny_Constant_str (test_link (ld (by exact F) (if_pos rfl) (P.le_str (wpAny_truthy_bool ?_)))))
  have q1 : decide ((S [c]).cps.toList < (S [lo]).cps.toList) = decide (c < lo) := by
    show decide ([c] < [lo]) = _
    rw [StrLaws.lt_cons_cons, StrLaws.lt_nil_nil]; simp
  have q2 : decide ((S [hi]).cps.toList < (S [c]).cps.toList) = decide (hi < c) := by
    show decide ([hi] < [c]) = _
    rw [StrLaws.lt_cons_cons, StrLaws.lt_nil_nil]; simp
  rw [q1]
  by_cases g1 : c < lo
  · rw [decide_eq_true g1]
    have := hq (s.toks + 1)
    rw [decide_eq_false (by omega)] at this
    exact this
  · rw [decide_eq_false g1]
    refine test_last (wpAny_Constant_str (P.le_str (wpAny_truthy_bool ?_)))
    rw [q2]
    have := hq (s.toks + 1 + 1)
    rw [show decide (lo ≤ c ∧ c ≤ hi) = !decide (hi < c) by
      rw [Bool.eq_iff_iff]; simp; omega] at this
    exact this

/-- chr(ord(sign) - 32), chr(ord(sign) + 32) -/
theorem great_ord {p1 p2 p3 : Pos} {Q' E : Value → Shared → Prop} (C : Ctx mg mb h₀) (F : Fr h₀ L s.heap (fun y => if y = Str.ofString "sign" then some (.str (S [c]) tk) else m₁ y))
    (hq : ∀ t' k, Q' (.int c t') { s with toks := k }) :
    wpAny (model prg w) A (eval (.Call (.Name (Str.ofString "ord") p1) [.Name (Str.ofString "sign") p2] [] p3) (envOf (Str.ofString "_law_great") (fScope (stmtAt 7)) L a cd)) Q' E s :=
  PyProof.Rows.Call_Name1 (ld_builtin_at F C.g C.ford C.b (C.bi _ (by decide)) (_root_.PySem.callWith_builtin1 (ld F (if_pos rfl) (P.ord_of_char (hq _ _)))))
theorem great_sub {p1 p2 p3 p4 p5 p6 p7 : Pos} {k1 : Nat} {Q' E : Value → Shared → Prop} (C : Ctx mg mb h₀) (F : Fr h₀ L s.heap (fun y => if y = Str.ofString "sign" then some (.str (S [c]) tk) else m₁ y)) (h1 : 32 ≤ c) (h2 : c < 128)
    (hq : ∀ t' k, Q' (.str (S [c - 32]) t') { s with toks := k }) :
    wpAny (model prg w) A (eval (.Call (.Name (Str.ofString "chr") p4) [.BinOp (.Call (.Name (Str.ofString "ord") p1) [.Name (Str.ofString "sign") p2] [] p3) .Sub (.Constant (.int 32) k1 p5) p6] [] p7) (envOf (Str.ofString "_law_great") (fScope (stmtAt 7)) L a cd)) Q' E s := by
  refine PyProof.Rows.Call_Name1 (ld_builtin_at F C.g C.fchr C.b (C.bi _ (by decide)) (_root_.PySem.callWith_builtin1 (wpAny_BinOp (great_ord C F fun t' k' => wpAny_Constant_int (sub_int (chr_of_range (by omega) (by omega) ?_))))))
  rw [show ((c : Int) - 32).toNat = c - 32 by omega]
  exact hq _ _
theorem great_add {p1 p2 p3 p4 p5 p6 p7 : Pos} {k1 : Nat} {Q' E : Value → Shared → Prop} (C : Ctx mg mb h₀) (F : Fr h₀ L s.heap (fun y => if y = Str.ofString "sign" then some (.str (S [c]) tk) else m₁ y)) (h2 : c < 128)
    (hq : ∀ t' k, Q' (.str (S [c + 32]) t') { s with toks := k }) :
    wpAny (model prg w) A (eval (.Call (.Name (Str.ofString "chr") p4) [.BinOp (.Call (.Name (Str.ofString "ord") p1) [.Name (Str.ofString "sign") p2] [] p3) .Add (.Constant (.int 32) k1 p5) p6] [] p7) (envOf (Str.ofString "_law_great") (fScope (stmtAt 7)) L a cd)) Q' E s := by
  refine PyProof.Rows.Call_Name1 (ld_builtin_at F C.g C.fchr C.b (C.bi _ (by decide)) (_root_.PySem.callWith_builtin1 (wpAny_BinOp (great_ord C F fun t' k' => wpAny_Constant_int (add_int (chr_of_range (by omega) (by omega) ?_))))))
  rw [show ((c : Int) + 32).toNat = c + 32 by omega]
  exact hq _ _

def fOr : Stmt → List Stmt
  | .For _ _ b .. => b
  | _ => []
/-- the loop's body -/
theorem great_turn {I : Addr} {oI : Obj} {g : List Nat} {to : Tok} (C : Ctx mg mb h₀) (hm : m₁ (Str.ofString "out") = some (.str (S g) to)) (hg : g.length ≤ 10000) (hc : c < 128)
    (F : Fr h₀ L s.heap (fun y => if y = Str.ofString "sign" then some (.str (S [c]) tk) else m₁ y)) (N : News h₀ L s.heap [(I, oI)]) :
    wpAny (model prg w) A (execs (fOr ((fBody (stmtAt 7)).getD 1 (.Pass ⟨0, 0, 0, 0⟩))) (envOf (Str.ofString "_law_great") (fScope (stmtAt 7)) L a cd))
      (fun f s₂ => f = .next ∧ ∃ h₂ tk₂ m₂, s₂ = { s with heap := h₂, toks := tk₂ } ∧ (∃ t', m₂ (Str.ofString "out") = some (.str (S (g ++ [if g = [] then up c else low c])) t')) ∧ Fr h₀ L h₂ m₂ ∧ News h₀ L h₂ [(I, oI)]) (fun _ _ => False) s := by
  conv in fOr _ => whnf
  have e0 : Str.ofString "" = S [] := by decide +kernel
  have hm' : (fun y => if y = Str.ofString "sign" then some (Value.str (S [c]) tk) else m₁ y) (Str.ofString "out") = some (.str (S g) to) := (if_neg (by decide)).trans hm
  refine wpAny_execs_cons (wpAny_If (isTrue_and (wpAny_isTrue_Compare1 (ld F hm' (wpAny_Constant_str (eqS e0 (wpAny_truthy_bool ?_)))))))
  have next : ∀ {t : Sem Flow} {c' : Nat} {s' : Shared} {h' : Heap} {k : Nat}, s' = { s with heap := h', toks := k } → c' = (if g = [] then up c else low c) →
      wpAny (model prg w) A t (fun f s₂ => f = .next ∧ ∃ h₂ tk₂ m₂, s₂ = { s' with heap := h₂, toks := tk₂ } ∧ (∃ t', m₂ (Str.ofString "out") = some (.str (S (g ++ [c'])) t')) ∧ Fr h₀ L h₂ m₂ ∧ News h₀ L h₂ [(I, oI)]) (fun _ _ => False) s' →
      wpAny (model prg w) A t (fun f s' => match f with
        | .next => wpAny (model prg w) A (execs [] (envOf (Str.ofString "_law_great") (fScope (stmtAt 7)) L a cd)) (fun f s₂ => f = .next ∧ ∃ h₂ tk₂ m₂, s₂ = { s with heap := h₂, toks := tk₂ } ∧ (∃ t', m₂ (Str.ofString "out") = some (.str (S (g ++ [if g = [] then up c else low c])) t')) ∧ Fr h₀ L h₂ m₂ ∧ News h₀ L h₂ [(I, oI)]) (fun _ _ => False) s'
        | f => f = .next ∧ ∃ h₂ tk₂ m₂, s' = { s with heap := h₂, toks := tk₂ } ∧ (∃ t', m₂ (Str.ofString "out") = some (.str (S (g ++ [if g = [] then up c else low c])) t')) ∧ Fr h₀ L h₂ m₂ ∧ News h₀ L h₂ [(I, oI)]) (fun _ _ => False) s' := by
    rintro t c' s' h' k rfl rfl h
    refine wpAny_mono h (fun f s₂ hf => ?_) fun _ _ e => e
    obtain ⟨rfl, h₂, tk₂, m₂, rfl, r⟩ := hf
    exact wpAny_execs_nil ⟨rfl, h₂, tk₂, m₂, rfl, r⟩
  by_cases hi0 : g = []
  · rw [decide_eq_true hi0, if_pos rfl]
    refine isTrue_and (great_chain (lo := 97) (hi := 122) (by decide +kernel) (by decide +kernel) F fun k => ?_)
    by_cases hup : 97 ≤ c ∧ c ≤ 122
    · rw [decide_eq_true hup, if_pos rfl]
      exact isTrue_and_nil (next rfl (c' := c - 32) (by rw [if_pos hi0, up, if_pos hup]) (great_aug hm hg F N fun Q' hq => great_sub C F (by omega) hc hq))
    · rw [decide_eq_false hup, if_neg Bool.false_ne_true, if_neg Bool.false_ne_true]
      refine next rfl (c' := c) (by rw [if_pos hi0, up, if_neg hup]) ?_
      refine wpAny_execs_cons (wpAny_If (isTrue_and (wpAny_isTrue_Compare1 (ld F hm' (wpAny_Constant_str (neS e0 (wpAny_truthy_bool ?_)))))))
      rw [decide_eq_true hi0, Bool.not_true, if_neg Bool.false_ne_true, if_neg Bool.false_ne_true]
      refine wpAny_mono (great_aug hm hg F N fun Q' hq => ld (by exact F) (if_pos rfl) (hq _ _)) (fun f s' hf => ?_) fun _ _ e => e
      obtain ⟨rfl, hf⟩ := hf
      exact wpAny_execs_nil ⟨rfl, hf⟩
  · rw [decide_eq_false hi0, if_neg Bool.false_ne_true, if_neg Bool.false_ne_true]
    refine next rfl (c' := if g = [] then up c else low c) rfl ?_
    refine wpAny_execs_cons (wpAny_If (isTrue_and (wpAny_isTrue_Compare1 (ld F hm' (wpAny_Constant_str (neS e0 (wpAny_truthy_bool ?_)))))))
    rw [decide_eq_false hi0, Bool.not_false, if_pos rfl]
    refine isTrue_and (great_chain (lo := 65) (hi := 90) (by decide +kernel) (by decide +kernel) F fun k => ?_)
    by_cases hlo : 65 ≤ c ∧ c ≤ 90
    · rw [decide_eq_true hlo, if_pos rfl]
      exact isTrue_and_nil (next rfl (c' := c + 32) (by rw [if_neg hi0, low, if_pos hlo]) (great_aug hm hg F N fun Q' hq => great_add C F hc hq))
    · rw [decide_eq_false hlo, if_neg Bool.false_ne_true, if_neg Bool.false_ne_true]
      exact next rfl (c' := c) (by rw [if_neg hi0, low, if_neg hlo]) (great_aug hm hg F N fun Q' hq => ld (by exact F) (if_pos rfl) (hq _ _))
end

section
variable {w : World} {A : Around} {E : Value → Shared → Prop} {s : Shared} {mg mb : Str → Option Value} {Q : Value → Shared → Prop}

theorem great_call {a : Addr} {l : List Nat} {t : Tok} (C : Ctx mg mb s.heap) (hg : mg "_law_great" = some (.ref a)) (hh : A.handled = none) (hr : A.depth < recursionLimit)
    (ha : ∀ c ∈ l, c < 128) (hl : l.length ≤ 10000)
    (h : ∀ t' h' tk, Keeps s.heap h' → Q (.str (S (great l)) t') { s with heap := h', toks := tk }) : wpAny (model prg w) A (call (.ref a) [.str (S l) t]) Q E s := by
  obtain ⟨a', cd, h1, o, kV, doc, pm, an, ct, ho, hd, hcd⟩ := C.great
  rw [hg] at h1; cases h1
  refine wpAny_call (codeAny_call_def (binds := [(Str.ofString "text", .str (S l) t)]) hr ho hd C.lim hcd rfl (BindsTo.of_eq rfl) (show ∀ x ∈ (fScope (stmtAt 7)).names, x.2 ≠ .cell by decide) (locs rfl) (fun h₁ hns hk₁ => ?_) rfl rfl rfl)
  show wpAny _ _ (execs (fBody (stmtAt 7)) (envOf (Str.ofString "_law_great") (fScope (stmtAt 7)) s.heap.objs.size a cd)) _ _ _
  have F : Fr s.heap s.heap.objs.size h₁ (fun y => [(Str.ofString "text", Value.str (S l) t)].reverse.lookup y) := ⟨hns, hk₁, Nat.le_refl _⟩
  generalize hA : A.deeper _ = A'
  have hh' : A'.handled = none := by rw [← hA]; exact hh
  clear hA
  conv in fBody _ => whnf
  refine wpAny_execs_cons (wpAny_Assign_Name (wpAny_Constant_str (st F fun h' F' => wpAny_execs_cons ?_)))
  refine for_text (L := s.heap.objs.size) (news := []) (l := l) (t := t) hh' rfl rfl rfl F' News.nil ha (fun Q' hq => ld F' rfl hq)
    (fun i m n => n = [] ∧ ∃ t', m (Str.ofString "out") = some (.str (S (great (l.take i))) t')) ⟨rfl, _, rfl⟩ ?_ ?_
  · rintro i c tk m₁ n₁ I oI h₁ tk₁ hc ⟨rfl, to, hm⟩ F₁ N₁ -
    have hi : i < l.length := (List.getElem?_eq_some_iff.mp hc).1
    have htk : l.take (i + 1) = l.take i ++ [c] := by rw [List.take_add_one, hc]; rfl
    refine wpAny_mono (great_turn C hm (by rw [great_length, List.length_take]; omega) (ha c (List.mem_of_getElem? hc)) F₁ N₁) (fun f s₂ hf => ?_) fun _ _ e => e
    obtain ⟨rfl, h₂, tk₂, m₂, rfl, ⟨t', hm₂⟩, F₂, N₂⟩ := hf
    refine ⟨rfl, h₂, tk₂, m₂, [], rfl, ⟨rfl, t', ?_⟩, F₂, N₂, fun _ hp => nomatch hp⟩
    rw [hm₂, htk, great_snoc]
    simp only [great_nil]
  · rintro h₂ tk m' n' ⟨-, t', hm⟩ F₂ -
    refine wpAny_execs_cons (wpAny_Return_some (ld F₂ hm ?_))
    rw [List.take_length]
    exact h t' h₂ tk F₂.keep
end
end Mine

namespace Mine
set_option maxRecDepth 100000
set_option maxHeartbeats 4000000

/-- a list's values are these texts -/
inductive Strs : List Value → List (List Nat) → Prop
  | nil : Strs [] []
  | cons (r : List Nat) (t : Tok) {vs : List Value} {rs : List (List Nat)} : Strs vs rs → Strs (.str (S r) t :: vs) (r :: rs)
theorem Strs.length {vs : List Value} {rs : List (List Nat)} (h : Strs vs rs) : vs.length = rs.length := by
  induction h with
  | nil => rfl
  | cons _ _ _ ih => simp [ih]
theorem Strs.snoc {vs : List Value} {rs : List (List Nat)} (h : Strs vs rs) (r : List Nat) (t : Tok) : Strs (vs ++ [.str (S r) t]) (rs ++ [r]) := by
  induction h with
  | nil => exact .cons r t .nil
  | cons r' t' _ ih => exact .cons r' t' ih
theorem Strs.last {vs : List Value} {rs : List (List Nat)} {r : List Nat} (h : Strs vs (rs ++ [r])) : ∃ vs' t, vs = vs' ++ [.str (S r) t] ∧ Strs vs' rs := by
  induction rs generalizing vs with
  | nil =>
    cases h with
    | cons _ t h' => cases h'; exact ⟨[], t, rfl, .nil⟩
  | cons r' rs ih =>
    cases h with
    | cons _ t h' =>
      obtain ⟨vs', t', rfl, h2⟩ := ih h'
      exact ⟨.str (S r') t :: vs', t', rfl, .cons r' t h2⟩
theorem Strs.get {vs : List Value} {rs : List (List Nat)} (h : Strs vs rs) : ∀ {i : Nat} {v : Value}, vs[i]? = some v → ∃ r t, v = .str (S r) t ∧ rs[i]? = some r := by
  induction h with
  | nil => intro i v e; simp at e
  | cons r t h ih =>
    intro i v e
    cases i with
    | zero => simp at e; exact ⟨r, t, e.symm, rfl⟩
    | succ i => simp at e; obtain ⟨r', t', h1, h2⟩ := ih e; exact ⟨r', t', h1, by simpa using h2⟩
theorem Strs.pairs {vs : List Value} {rs : List (List Nat)} (h : Strs vs rs) : ∃ ps : List (Str × Tok), vs = strValues ps ∧ ps.map (·.1) = rs.map S := by
  induction h with
  | nil => exact ⟨[], rfl, rfl⟩
  | cons r t _ ih => obtain ⟨ps, h1, h2⟩ := ih; exact ⟨(S r, t) :: ps, by rw [h1]; rfl, by simp [h2]⟩

section
variable {w : World} {A : Around} {s : Shared} {h₀ : Heap} {L a D I : Addr} {cd : Value} {m : Str → Option Value} {c : Nat} {nm x : Str} {sc : Scope} {oI : Obj} {vs : List Value} {r : List Nat} {t ts : Tok} {n : Nat}
  {E : Value → Shared → Prop} {Q : Flow → Shared → Prop}

theorem seqLast (vs : List Value) (v : Value) : seqIndex? (-1) (vs ++ [v]).toArray.size = some vs.length := by
  rw [seqIndex_neg (by decide) (by simp; omega)]; simp; omega
theorem ki_setL_last (v u : Value) : ∀ vs : List Value, ki_setL (vs ++ [v]) vs.length u = some (vs ++ [u])
  | [] => rfl
  | y :: vs => by
    show ki_setL (y :: (vs ++ [v])) (vs.length + 1) u = _
    unfold ki_setL
    rw [ki_setL_last v u vs]
    rfl

/-- x[-1] -/
theorem get_last {Q' : Value → Shared → Prop} (hl : s.heap.IsList D (vs ++ [Value.str (S r) t]).toArray) {u : Tok} (h : Q' (.str (S r) t) s) :
    wpAny (model prg w) A (getItem (.ref D) (.int (-1) u)) Q' E s :=
  wpAny_getItem_list_neg hl (by decide) (by simp; omega) (by decide) (by
    have e : ((-1 : Int) + ((vs ++ [Value.str (S r) t]).toArray.size : Int)).toNat = vs.length := by simp; omega
    rw [e]; simp) h

/-- x[-1] += sign -/
theorem last_aug {k : Nat} {p1 p2 p3 p4 p5 p6 : Pos} (hsc : sc.kind = .function) (hx : (envOf nm sc L a cd).kindOf x = some .local) (hd : (x == ("__debug__" : Str)) = false) (hsg : (envOf nm sc L a cd).kindOf (Str.ofString "sign") = some .local)
    (F : Fr h₀ L s.heap m) (N : News h₀ L s.heap [(I, oI), (D, listOf (vs ++ [Value.str (S r) t]).toArray n)]) (hI : D ≠ I) (hm : m x = some (.ref D)) (hms : m (Str.ofString "sign") = some (.str (S [c]) ts)) (hr : r.length ≤ 10000)
    (h : ∀ h' t' k', Fr h₀ L h' m → News h₀ L h' [(I, oI), (D, listOf (vs ++ [Value.str (S (r ++ [c])) t']).toArray n)] → Q .next { s with heap := h', toks := k' }) :
    wpAny (model prg w) A (exec (.AugAssign (.Subscript (.Name x p1) (.UnaryOp .USub (.Constant (.int 1) k p2) p3) p4) .Add (.Name (Str.ofString "sign") p5) p6) (envOf nm sc L a cd)) Q E s := by
  have hD : s.heap.get? D = some (listOf (vs ++ [Value.str (S r) t]).toArray n) := (N _ (.tail _ (.head _))).1
  refine wpAny_AugAssign_Subscript_any (ld F hm (wpAny_UnaryOp (wpAny_Constant_int (neg_int (get_last (by exact ⟨_, hD, rfl, _, rfl⟩) ?_)))) hsc hx hd)
  refine ld (by exact F) hms (iadd_str (fun t' tk => ?_) ?_) hsc hsg
  · rw [S_append]
    refine ki_setNeg (by exact F) (by exact N) (by decide) (by decide) (seqLast _ _) (ki_setL_last _ _ _) (Upd.tail (Ne.symm hI) (Upd.head (by intro _ hp; cases hp))) fun h' F' N' => ?_
    exact h h' t' _ F' N'
  · rw [S_length, S_length, sizeLine_eq]; simp only [List.length_cons, List.length_nil]; omega

/-- x.append(V) -/
theorem list_append {p1 p2 p3 p4 : Pos} {e : Expr} {v : Value} (hsc : sc.kind = .function) (hx : (envOf nm sc L a cd).kindOf x = some .local) (hd : (x == ("__debug__" : Str)) = false) (he : starEach [e] (envOf nm sc L a cd) = [(false, eval e (envOf nm sc L a cd))])
    (hb : attributeBase (.Name x p1) "append" (envOf nm sc L a cd) (eval (.Name x p1) (envOf nm sc L a cd)) = eval (.Name x p1) (envOf nm sc L a cd)) (hp : (p2.endLine == p3.line) = true)
    (hsw : swapsWith (.Call (.Attribute (.Name x p1) "append" p2) [e] [] p3) none p4.line (envOf nm sc L a cd) = pure false)
    (F : Fr h₀ L s.heap m) (N : News h₀ L s.heap [(I, oI), (D, listOf vs.toArray n)]) (hI : D ≠ I) (hm : m x = some (.ref D)) (hr : vs.length ≤ 20000)
    (hv : ∀ Q' : Value → Shared → Prop, (∀ k, Q' v { s with toks := k }) → wpAny (model prg w) A (eval e (envOf nm sc L a cd)) Q' E s)
    (h : ∀ h' k', Fr h₀ L h' m → News h₀ L h' [(I, oI), (D, listOf (vs ++ [v]).toArray (n + 1))] → Q .next { s with heap := h', toks := k' }) :
    wpAny (model prg w) A (exec (.Expr (.Call (.Attribute (.Name x p1) "append" p2) [e] [] p3) p4) (envOf nm sc L a cd)) Q E s := by
  have hD : s.heap.get? D = some (listOf vs.toArray n) := (N _ (.tail _ (.head _))).1
  refine wpAny_Expr (wpAny_Call_append hb (by rw [he]; rfl) hp (by rw [he]; rfl) (ld F hm ⟨D, vs.toArray, rfl, ⟨_, n, hD, rfl, rfl, rfl⟩, hv _ fun k => ?_⟩ hsc hx hd)) ?_ hsw
  · refine append_K (by exact F) (by exact N) (Upd.tail (Ne.symm hI) (Upd.head (by intro _ hp; cases hp))) (fun h' F' N' => ?_) (by rw [List.size_toArray, sizeLine_eq]; omega)
    rw [List.push_toArray] at N'
    exact h h' k F' N'
  · unfold interactive; rw [show (envOf nm sc L a cd).scope = sc from rfl, hsc]; rfl
end
end Mine

namespace Mine
set_option maxRecDepth 100000
set_option maxHeartbeats 4000000

/-- the rows, sign by sign: the rows that are done, the row at hand -/
def rstep (p : List (List Nat) × List Nat) (c : Nat) : List (List Nat) × List Nat := if c = 10 then (p.1 ++ [p.2 ++ [c]], []) else (p.1, p.2 ++ [c])
def rowsOf (l : List Nat) : List (List Nat) :=
  let p := l.foldl rstep ([], [])
  if p.2 = [] then p.1 else p.1 ++ [p.2]
theorem rstep_len (l : List Nat) : ∀ p : List (List Nat) × List Nat, (l.foldl rstep p).1.length + (l.foldl rstep p).2.length ≤ p.1.length + p.2.length + l.length := by
  induction l with
  | nil => intro p; simp
  | cons c l ih =>
    intro p
    have := ih (rstep p c)
    have h2 : (rstep p c).1.length + (rstep p c).2.length ≤ p.1.length + p.2.length + 1 := by
      unfold rstep; split <;> simp <;> omega
    simp only [List.foldl_cons, List.length_cons]; omega

theorem sub_last {w : World} {A : Around} {E : Value → Shared → Prop} {s : Shared} {value slice : Expr} {D : Addr} {vs : List Value} {r : List Nat} {t u : Tok} {Q' : Value → Shared → Prop} (hl : s.heap.IsList D (vs ++ [Value.str (S r) t]).toArray) (h : Q' (.str (S r) t) s)
    (hs : subscripted slice false (.ref D) (.int (-1) u) = operate [.ref D, .int (-1) u] (getItem (.ref D) (.int (-1) u))) : wpAny (model prg w) A (subscriptTail value slice (.ref D) (.int (-1) u)) Q' E s :=
  tail_any hl.typeIs slot_list_getitem.lookup (get_last hl h) hs
theorem ne1 {D I : Addr} {o : Obj} (h : D ≠ I) : ∀ p ∈ [(D, o)], p.1 ≠ I := by
  intro p hp
  rcases List.mem_cons.mp hp with rfl | hp
  · exact h
  · cases hp

section
variable {w : World} {A : Around} {E : Value → Shared → Prop} {s : Shared} {mg mb : Str → Option Value} {Q : Value → Shared → Prop}

theorem rows_call {a : Addr} {l : List Nat} {t : Tok} (C : Ctx mg mb s.heap) (hg : mg "_law_rows" = some (.ref a)) (hh : A.handled = none) (hr : A.depth < recursionLimit)
    (ha : ∀ c ∈ l, c < 128) (hl : l.length ≤ 9000)
    (h : ∀ D vs n h' tk, Keeps s.heap h' → s.heap.get? D = none → h'.get? D = some (listOf vs.toArray n) → Strs vs (rowsOf l) → Q (.ref D) { s with heap := h', toks := tk }) : wpAny (model prg w) A (call (.ref a) [.str (S l) t]) Q E s := by
  obtain ⟨a', cd, h1, o, kV, doc, pm, an, ct, ho, hd, hcd⟩ := C.rows
  rw [hg] at h1; cases h1
  refine wpAny_call (codeAny_call_def (binds := [(Str.ofString "text", .str (S l) t)]) hr ho hd C.lim hcd rfl (BindsTo.of_eq rfl) (show ∀ x ∈ (fScope (stmtAt 5)).names, x.2 ≠ .cell by decide) (locs rfl) (fun h₁ hns hk₁ => ?_) rfl rfl rfl)
  show wpAny _ _ (execs (fBody (stmtAt 5)) (envOf (Str.ofString "_law_rows") (fScope (stmtAt 5)) s.heap.objs.size a cd)) _ _ _
  have F : Fr s.heap s.heap.objs.size h₁ (fun y => [(Str.ofString "text", Value.str (S l) t)].reverse.lookup y) := ⟨hns, hk₁, Nat.le_refl _⟩
  generalize hA : A.deeper _ = A'
  have hh' : A'.handled = none := by rw [← hA]; exact hh
  clear hA
  have e0 : Str.ofString "" = S [] := by decide +kernel
  have e1 : Str.ofString "\n" = S [10] := by decide +kernel
  conv in fBody _ => whnf
  refine wpAny_execs_cons (wpAny_Assign_Name (List_ (args_cons (wpAny_Constant_str (args_nil (newList_K (by exact F) News.nil (fun D hD F₀ N₀ _ => stN (by exact F₀) (by exact N₀) fun h' F' N' => wpAny_execs_cons ?_) (by show 1 ≤ sizeLine; decide)))))))
  refine for_text (L := s.heap.objs.size) (l := l) (t := t) hh' rfl rfl rfl F' N' ha (fun Q' hq => ld F' rfl hq)
    (fun i m n => ∃ vs k, n = [(D, listOf vs.toArray k)] ∧ m (Str.ofString "rows") = some (.ref D) ∧ Strs vs (((l.take i).foldl rstep ([], [])).1 ++ [((l.take i).foldl rstep ([], [])).2])) ⟨_, _, rfl, rfl, by rw [e0]; exact .cons [] _ .nil⟩ ?_ ?_
  · rintro i c tk m₁ n₁ I oI h₁ tk₁ hc ⟨vs, k, rfl, hm, hS⟩ F₁ N₁ hne
    have hI : D ≠ I := hne _ (.head _)
    have hi : i < l.length := (List.getElem?_eq_some_iff.mp hc).1
    have htk : l.take (i + 1) = l.take i ++ [c] := by rw [List.take_add_one, hc]; rfl
    have hb := rstep_len (l.take i) ([], [])
    rw [List.length_take] at hb
    simp only [List.length_nil, Nat.add_zero, Nat.zero_add] at hb
    rw [htk, List.foldl_append]
    generalize (l.take i).foldl rstep ([], []) = p at *
    obtain ⟨d, cur⟩ := p
    dsimp only at hS hb ⊢
    obtain ⟨vs', t', hvs, hS'⟩ := hS.last
    subst hvs
    conv in execs _ _ => arg 1; whnf
    have hm' : (fun y => if y = Str.ofString "sign" then some (Value.str (S [c]) tk) else m₁ y) (Str.ofString "rows") = some (.ref D) := (if_neg (by decide)).trans hm
    refine wpAny_execs_cons (last_aug rfl rfl rfl rfl F₁ N₁ hI hm' (if_pos rfl) (by omega) fun h₂ t₂ k₂ F₂ N₂ => ?_)
    refine wpAny_execs_cons (wpAny_If (wpAny_isTrue_Compare1 (ld (by exact F₂) (if_pos rfl) (wpAny_Constant_str (eqS e1 (wpAny_truthy_bool ?_))))))
    have hS2 := hS'.snoc (cur ++ [c]) t₂
    by_cases hc10 : c = 10
    · rw [decide_eq_true (by rw [hc10]), if_pos rfl]
      refine wpAny_execs_cons (list_append (m := fun y => if y = Str.ofString "sign" then some (Value.str (S [c]) tk) else m₁ y) rfl rfl rfl rfl rfl rfl rfl (by exact F₂) (by exact N₂) hI hm' (by have := hS2.length; simp at this; simp; omega) (fun Q' hq => wpAny_Constant_str (hq _)) fun h₃ k₃ F₃ N₃ => ?_)
      refine wpAny_execs_nil (wpAny_execs_nil ⟨rfl, h₃, _, (fun y => if y = Str.ofString "sign" then some (Value.str (S [c]) tk) else m₁ y), _, rfl, ⟨_, _, rfl, hm', ?_⟩, F₃, N₃, ne1 hI⟩)
      show Strs _ ((rstep (d, cur) c).1 ++ [(rstep (d, cur) c).2])
      rw [rstep, if_pos hc10, e0]
      exact hS2.snoc [] _
    · rw [decide_eq_false (fun q => hc10 (by simpa using q)), if_neg Bool.false_ne_true]
      refine wpAny_execs_nil (wpAny_execs_nil ⟨rfl, h₂, _, (fun y => if y = Str.ofString "sign" then some (Value.str (S [c]) tk) else m₁ y), _, rfl, ⟨_, _, rfl, hm', ?_⟩, F₂, N₂, ne1 hI⟩)
      show Strs _ ((rstep (d, cur) c).1 ++ [(rstep (d, cur) c).2])
      rw [rstep, if_neg hc10]
      exact hS2
  · rintro h₂ tk m' n' ⟨vs, k, rfl, hm, hS⟩ F₂ N₂
    have hfresh : s.heap.get? D = none := (N₂ _ (.head _)).2.2
    rw [List.take_length] at hS
    have hb := rstep_len l ([], [])
    simp only [List.length_nil, Nat.add_zero, Nat.zero_add] at hb
    have hrows : rowsOf l = if (l.foldl rstep ([], [])).2 = [] then (l.foldl rstep ([], [])).1 else (l.foldl rstep ([], [])).1 ++ [(l.foldl rstep ([], [])).2] := rfl
    generalize l.foldl rstep ([], []) = p at *
    obtain ⟨d, cur⟩ := p
    dsimp only at hS hb hrows
    have hD := (N₂ _ (.head _)).1
    obtain ⟨vs', t', hvs, hS'⟩ := hS.last
    subst hvs
    refine wpAny_execs_cons (wpAny_If (wpAny_isTrue_Compare1 (Subscript_ (ld (by exact F₂) hm (wpAny_UnaryOp (wpAny_Constant_int (neg_int (sub_last (by exact ⟨_, hD, rfl, _, rfl⟩) (wpAny_Constant_str (eqS e0 (wpAny_truthy_bool ?_))) ?_))))))))
    · by_cases hcur : cur = []
      · rw [decide_eq_true hcur, if_pos rfl]
        refine wpAny_execs_cons (wpAny_Expr (Call_method0 rfl rfl (ld (by exact F₂) hm ⟨"list", "list.pop", PySem.F.plainAttrs_list, PySem.F.slot_list_pop, PySem.F.type_list_pop, ⟨_, hD, rfl⟩, (fun a e => by cases e; exact ⟨_, hD, rfl⟩), Calls.callWith_builtin rfl (evalArgs_nil3 ?_)⟩)) rfl rfl)
        refine kl_pop (its := (vs' ++ [Value.str (S cur) t']).toArray) (p := vs') (y := .str (S cur) t') (by exact F₂) (by exact N₂) (kpa_last _ _) (Upd.head (by intro _ hp; cases hp)) ?_ fun h₃ F₃ N₃ => ?_
        · have := hS.length; simp at this; rw [sizeLine_eq]; simp; omega
        · refine wpAny_execs_nil (wpAny_execs_cons (wpAny_Return_some (ld (by exact F₃) hm ?_)))
          rw [if_pos hcur] at hrows
          exact h D _ _ h₃ _ F₃.keep hfresh (N₃ _ (.head _)).1 (hrows ▸ hS')
      · rw [decide_eq_false hcur, if_neg Bool.false_ne_true]
        refine wpAny_execs_nil (wpAny_execs_cons (wpAny_Return_some (ld (by exact F₂) hm ?_)))
        rw [if_neg hcur] at hrows
        exact h D _ _ h₂ _ F₂.keep hfresh hD (hrows ▸ hS)
    · rfl
end
end Mine

namespace Mine
set_option maxRecDepth 100000
set_option maxHeartbeats 4000000

def wht (c : Nat) : Bool := c == 32 || c == 9 || c == 10
/-- the words, sign by sign: the words that are done, the word at hand -/
def wstep (p : List (List Nat) × Option (List Nat)) (c : Nat) : List (List Nat) × Option (List Nat) :=
  if wht c = true then (p.1 ++ p.2.toList, none) else (p.1, some (p.2.getD [] ++ [c]))
def wordsOf (l : List Nat) : List (List Nat) :=
  let p := l.foldl wstep ([], none)
  p.1 ++ p.2.toList
theorem wstep_len (l : List Nat) : ∀ p : List (List Nat) × Option (List Nat), (l.foldl wstep p).1.length + (l.foldl wstep p).2.toList.length + (l.foldl wstep p).2.toList.flatten.length ≤ p.1.length + p.2.toList.length + p.2.toList.flatten.length + 2 * l.length := by
  induction l with
  | nil => intro p; simp
  | cons c l ih =>
    intro p
    have := ih (wstep p c)
    have h2 : (wstep p c).1.length + (wstep p c).2.toList.length + (wstep p c).2.toList.flatten.length ≤ p.1.length + p.2.toList.length + p.2.toList.flatten.length + 2 := by
      obtain ⟨d, cur⟩ := p
      unfold wstep; split
      · cases cur <;> simp <;> omega
      · cases cur <;> simp <;> omega
    simp only [List.foldl_cons, List.length_cons]; omega

section
variable {w : World} {A : Around} {E : Value → Shared → Prop} {s : Shared} {mg mb : Str → Option Value} {Q : Value → Shared → Prop}

theorem in_white {c : Nat} {t u : Tok} (h : Q (.bool (wht c)) s) : wpAny (model prg w) A (compareOp .In (.str (S [c]) t) (.str (Str.ofString " \t\n") u)) Q E s := by
  refine in_str ?_
  have e : (!(Builtin.Str.occurrences (Str.ofString " \t\n") (S [c]) 0 (Str.ofString " \t\n").length 1).isEmpty) = wht c := by
    rw [show S [c] = (⟨#[c]⟩ : Str) from rfl, StrLaws.found_one, show (Str.ofString " \t\n").cps.toList = [32, 9, 10] by decide +kernel, Bool.eq_iff_iff]
    simp [wht, or_assoc]
  rw [e]
  exact h

theorem words_call {a : Addr} {l : List Nat} {t : Tok} (C : Ctx mg mb s.heap) (hg : mg "_law_words" = some (.ref a)) (hh : A.handled = none) (hr : A.depth < recursionLimit)
    (ha : ∀ c ∈ l, c < 128) (hl : l.length ≤ 4000)
    (h : ∀ D vs n h' tk, Keeps s.heap h' → s.heap.get? D = none → h'.get? D = some (listOf vs.toArray n) → Strs vs (wordsOf l) → Q (.ref D) { s with heap := h', toks := tk }) : wpAny (model prg w) A (call (.ref a) [.str (S l) t]) Q E s := by
  obtain ⟨a', cd, h1, o, kV, doc, pm, an, ct, ho, hd, hcd⟩ := C.words
  rw [hg] at h1; cases h1
  refine wpAny_call (codeAny_call_def (binds := [(Str.ofString "text", .str (S l) t)]) hr ho hd C.lim hcd rfl (BindsTo.of_eq rfl) (show ∀ x ∈ (fScope (stmtAt 6)).names, x.2 ≠ .cell by decide) (locs rfl) (fun h₁ hns hk₁ => ?_) rfl rfl rfl)
  show wpAny _ _ (execs (fBody (stmtAt 6)) (envOf (Str.ofString "_law_words") (fScope (stmtAt 6)) s.heap.objs.size a cd)) _ _ _
  have F : Fr s.heap s.heap.objs.size h₁ (fun y => [(Str.ofString "text", Value.str (S l) t)].reverse.lookup y) := ⟨hns, hk₁, Nat.le_refl _⟩
  generalize hA : A.deeper _ = A'
  have hh' : A'.handled = none := by rw [← hA]; exact hh
  clear hA
  conv in fBody _ => whnf
  refine wpAny_execs_cons (wpAny_Assign_Name (List_ (args_nil (newList_K (by exact F) News.nil (fun D hD F₀ N₀ _ => stN (by exact F₀) (by exact N₀) fun h' F' N' => wpAny_execs_cons (wpAny_Assign_Name (wpAny_Constant_bool (stN (by exact F') (by exact N') fun h' F' N' => wpAny_execs_cons ?_)))) (by show 0 ≤ sizeLine; decide)))))
  refine for_text (L := s.heap.objs.size) (l := l) (t := t) hh' rfl rfl rfl F' N' ha (fun Q' hq => ld F' rfl hq)
    (fun i m n => ∃ vs k, n = [(D, listOf vs.toArray k)] ∧ m (Str.ofString "words") = some (.ref D) ∧ m (Str.ofString "inside") = some (.bool ((l.take i).foldl wstep ([], none)).2.isSome) ∧
      Strs vs (((l.take i).foldl wstep ([], none)).1 ++ ((l.take i).foldl wstep ([], none)).2.toList)) ⟨_, _, rfl, rfl, rfl, .nil⟩ ?_ ?_
  · rintro i c tk m₁ n₁ I oI h₁ tk₁ hc ⟨vs, k, rfl, hm, hmi, hS⟩ F₁ N₁ hne
    have hI : D ≠ I := hne _ (.head _)
    have hi : i < l.length := (List.getElem?_eq_some_iff.mp hc).1
    have htk : l.take (i + 1) = l.take i ++ [c] := by rw [List.take_add_one, hc]; rfl
    have hb := wstep_len (l.take i) ([], none)
    rw [List.length_take] at hb
    simp only [List.length_nil, Nat.add_zero, Nat.zero_add, Option.toList_none, List.flatten_nil] at hb
    rw [htk, List.foldl_append]
    generalize (l.take i).foldl wstep ([], none) = p at *
    obtain ⟨d, cur⟩ := p
    dsimp only at hS hb hmi ⊢
    have hm' : (fun y => if y = Str.ofString "sign" then some (Value.str (S [c]) tk) else m₁ y) (Str.ofString "words") = some (.ref D) := (if_neg (by decide)).trans hm
    have hmi' : (fun y => if y = Str.ofString "sign" then some (Value.str (S [c]) tk) else m₁ y) (Str.ofString "inside") = some (.bool cur.isSome) := (if_neg (by decide)).trans hmi
    conv in execs _ _ => arg 1; whnf
    refine wpAny_execs_cons (wpAny_If (wpAny_isTrue_Compare1 (ld (by exact F₁) (if_pos rfl) (wpAny_Constant_str (in_white (wpAny_truthy_bool ?_))))))
    show if wht c = true then _ else _
    by_cases hc0 : wht c = true
    · rw [if_pos hc0]
      refine wpAny_execs_cons (wpAny_Assign_Name (wpAny_Constant_bool (stN (by exact F₁) (by exact N₁) fun h₂ F₂ N₂ => wpAny_execs_nil (wpAny_execs_nil ⟨rfl, h₂, _, _, _, rfl, ⟨vs, k, rfl, ?_, ?_, ?_⟩, F₂, N₂, ne1 hI⟩))))
      · exact (if_neg (by decide)).trans hm'
      · show _ = some (Value.bool (wstep (d, cur) c).2.isSome)
        rw [wstep, if_pos hc0]; exact if_pos rfl
      · show Strs _ ((wstep (d, cur) c).1 ++ (wstep (d, cur) c).2.toList)
        rw [wstep, if_pos hc0]; simpa using hS
    · rw [if_neg hc0]
      refine wpAny_execs_cons (wpAny_If (wpAny_isTrue_value (ld F₁ hmi' (wpAny_truthy_bool ?_))))
      cases cur with
      | some cur =>
        rw [if_pos (show (some cur).isSome = true from rfl)]
        simp only [Option.toList_some] at hS hb
        obtain ⟨vs', t', hvs, hS'⟩ := hS.last
        subst hvs
        refine wpAny_execs_cons (last_aug rfl rfl rfl rfl F₁ N₁ hI hm' (if_pos rfl) (by simp at hb; omega) fun h₂ t₂ k₂ F₂ N₂ => ?_)
        refine wpAny_execs_nil (wpAny_execs_nil (wpAny_execs_nil ⟨rfl, h₂, _, (fun y => if y = Str.ofString "sign" then some (Value.str (S [c]) tk) else m₁ y), _, rfl, ⟨_, _, rfl, hm', ?_, ?_⟩, F₂, N₂, ne1 hI⟩))
        · show _ = some (Value.bool (wstep (d, some cur) c).2.isSome)
          rw [wstep, if_neg hc0]; exact hmi'
        · show Strs _ ((wstep (d, some cur) c).1 ++ (wstep (d, some cur) c).2.toList)
          rw [wstep, if_neg hc0]; exact hS'.snoc _ _
      | none =>
        rw [if_neg (show ¬ (none : Option (List Nat)).isSome = true from Bool.false_ne_true)]
        simp only [Option.toList_none, List.append_nil] at hS hb
        refine wpAny_execs_cons (list_append rfl rfl rfl rfl rfl rfl rfl F₁ N₁ hI hm' (by have := hS.length; simp at hb; omega) (fun Q' hq => ld F₁ (if_pos rfl) (hq _)) fun h₃ k₃ F₃ N₃ => ?_)
        refine wpAny_execs_cons (wpAny_Assign_Name (wpAny_Constant_bool (stN (by exact F₃) (by exact N₃) fun h₂ F₂ N₂ => wpAny_execs_nil (wpAny_execs_nil (wpAny_execs_nil ⟨rfl, h₂, _, _, _, rfl, ⟨_, _, rfl, ?_, ?_, ?_⟩, F₂, N₂, ne1 hI⟩)))))
        · exact (if_neg (by decide)).trans hm'
        · show _ = some (Value.bool (wstep (d, none) c).2.isSome)
          rw [wstep, if_neg hc0]; exact if_pos rfl
        · show Strs _ ((wstep (d, none) c).1 ++ (wstep (d, none) c).2.toList)
          rw [wstep, if_neg hc0]; exact hS.snoc _ _
  · rintro h₂ tk m' n' ⟨vs, k, rfl, hm, -, hS⟩ F₂ N₂
    have hfresh : s.heap.get? D = none := (N₂ _ (.head _)).2.2
    rw [List.take_length] at hS
    refine wpAny_execs_cons (wpAny_Return_some (ld (by exact F₂) hm ?_))
    exact h D _ _ h₂ _ F₂.keep hfresh (N₂ _ (.head _)).1 hS
end
end Mine

namespace Mine
set_option maxRecDepth 100000
set_option maxHeartbeats 4000000

theorem wstep_mem (P : Nat → Prop) (l : List Nat) (hl : ∀ c ∈ l, P c) : ∀ p : List (List Nat) × Option (List Nat), (∀ r ∈ p.1 ++ p.2.toList, ∀ c ∈ r, P c) → ∀ r ∈ (l.foldl wstep p).1 ++ (l.foldl wstep p).2.toList, ∀ c ∈ r, P c := by
  induction l with
  | nil => intro p h; exact h
  | cons c l ih =>
    intro p h
    refine ih (fun c hc => hl c (.tail _ hc)) (wstep p c) ?_
    obtain ⟨d, cur⟩ := p
    have hc := hl c (.head _)
    unfold wstep
    split
    · intro r hr; exact h r (by simpa using hr)
    · intro r hr
      rcases List.mem_append.mp hr with hr | hr
      · exact h r (List.mem_append_left _ hr)
      · simp only [Option.toList_some, List.mem_singleton] at hr
        subst hr
        intro c' hc'
        rcases List.mem_append.mp hc' with hc' | hc'
        · cases cur with
          | none => cases hc'
          | some cur => exact h cur (by simp) c' hc'
        · rw [List.mem_singleton.mp hc']; exact hc
theorem wordsOf_mem (P : Nat → Prop) {l : List Nat} (hl : ∀ c ∈ l, P c) : ∀ r ∈ wordsOf l, ∀ c ∈ r, P c := wstep_mem P l hl ([], none) (by simp)

abbrev strsD (rs : List (List Nat)) : List PyData := rs.map fun r => PyData.str (S r)
theorem strs_reads {h : Heap} {vs : List Value} {rs : List (List Nat)} (x : Strs vs rs) : ReadsAll h vs (strsD rs) [] := by
  induction x with
  | nil => exact .nil
  | cons r t _ ih => exact ReadsAll.cons (as := []) (.str _ _) ih
theorem strs_lay : ∀ rs : List (List Nat), (∀ r ∈ rs, ∀ c ∈ r, c < 128) → PyData.canLayAll0 (strsD rs) = true
  | [], _ => rfl
  | r :: rs, h => by
    have ih := strs_lay rs fun r' hr => h r' (.tail _ hr)
    have hr := h r (.head _)
    simp only [strsD, List.map_cons, PyData.canLayAll0, PyData.canLay0, PyData.strOk, List.all_toArray, Bool.and_eq_true, List.all_eq_true, decide_eq_true_eq] at ih ⊢
    exact ⟨fun c hc => Nat.lt_trans (hr c hc) (by decide), ih⟩
theorem strs_depth : ∀ rs : List (List Nat), PyData.depthAll (strsD rs) = 0
  | [] => rfl
  | r :: rs => by
    have ih := strs_depth rs
    simp only [strsD, List.map_cons, PyData.depthAll, PyData.depth] at ih ⊢
    rw [ih]; rfl

section
variable {w : World} {A : Around} {E : Value → Shared → Prop} {s : Shared} {mg mb : Str → Option Value} {Q : Value → Shared → Prop}

theorem eq_nil {D D' : Addr} {vs : List Value} {rs : List (List Nat)} {n n' : Nat} (hD : s.heap.get? D = some (listOf vs.toArray n)) (hD' : s.heap.get? D' = some (listOf #[] n')) (hS : Strs vs rs) (hr : ∀ r ∈ rs, ∀ c ∈ r, c < 128) (hu : A.units + 64 < cLine)
    (h : Q (.bool (decide (rs = []))) s) : wpAny (model prg w) A (compareOp .Eq (.ref D) (.ref D')) Q E s := by
  refine SeqAt.compareEq_reads (da := .list (strsD rs)) (db := .list []) (as := [D]) (bs := [D']) (.list hD rfl rfl (strs_reads hS)) (.list hD' rfl rfl .nil) (strs_lay rs hr) rfl ?_ ?_
  · simp only [PyData.depth, strs_depth, PyData.depthAll]; omega
  · rw [show PyData.eqv (.list (strsD rs)) (.list []) = decide (rs = []) by cases rs <;> simp [PyData.eqv, PyData.eqvAll]]
    exact h
/-- what a call has made goes onto the ledger -/
theorem news_fresh {h₀ h h' : Heap} {L D : Addr} {m : Str → Option Value} {n : List (Addr × Obj)} {o : Obj} (F : Fr h₀ L h m) (N : News h₀ L h n) (hfr : h.get? D = none) (k : Keeps h h') (hD : h'.get? D = some o) : News h₀ L h' ((D, o) :: n) := by
  intro p hp
  rcases List.mem_cons.mp hp with rfl | hp
  · refine ⟨hD, fun q => ?_, ?_⟩
    · obtain ⟨oL, _, _, hL, _⟩ := F.ns
      rw [← q] at hL; rw [hfr] at hL; cases hL
    · cases q : h₀.get? D with
      | none => rfl
      | some o' => rw [F.keep _ _ q] at hfr; cases hfr
  · exact ⟨k _ _ (N p hp).1, (N p hp).2⟩

theorem white_call {a : Addr} {l : List Nat} {t : Tok} (C : Ctx mg mb s.heap) (hg : mg "_law_white" = some (.ref a)) (hh : A.handled = none) (hr : A.depth + 1 < recursionLimit) (hu : A.units + 80 < cLine)
    (ha : ∀ c ∈ l, c < 128) (hl : l.length ≤ 4000)
    (h : ∀ h' tk, Keeps s.heap h' → Q (.bool (decide (wordsOf l = []))) { s with heap := h', toks := tk }) : wpAny (model prg w) A (call (.ref a) [.str (S l) t]) Q E s := by
  obtain ⟨a', cd, h1, o, kV, doc, pm, an, ct, ho, hd, hcd⟩ := C.white
  rw [hg] at h1; cases h1
  obtain ⟨aw, cdw, hgw, ow, kw1, kw2, kw3, kw4, kw5, how, hdw, -⟩ := C.words
  refine wpAny_call (codeAny_call_def (binds := [(Str.ofString "row", .str (S l) t)]) (by omega) ho hd C.lim hcd rfl (BindsTo.of_eq rfl) (show ∀ x ∈ (fScope (stmtAt 8)).names, x.2 ≠ .cell by decide) (locs rfl) (fun h₁ hns hk₁ => ?_) rfl rfl rfl)
  show wpAny _ _ (execs (fBody (stmtAt 8)) (envOf (Str.ofString "_law_white") (fScope (stmtAt 8)) s.heap.objs.size a cd)) _ _ _
  have F : Fr s.heap s.heap.objs.size h₁ (fun y => [(Str.ofString "row", Value.str (S l) t)].reverse.lookup y) := ⟨hns, hk₁, Nat.le_refl _⟩
  generalize hA : A.deeper _ = A'
  have hh' : A'.handled = none := by rw [← hA]; exact hh
  have hr' : A'.depth < recursionLimit := by rw [← hA]; exact hr
  have hu' : A'.units + 64 < cLine := by rw [← hA]; show A.units + 3 + 64 < cLine; omega
  clear hA
  conv in fBody _ => whnf
  refine wpAny_execs_cons (wpAny_Return_some (wpAny_Compare1 ?_))
  refine PyProof.Rows.Call_Name1 (ld_global_at (by exact F) C.g hgw ?_)
  refine Calls.callWith_function (o := ow) (Calls.evalArgs_plain (Calls.spliced_cons (ld (by exact F) rfl (Calls.spliced_nil ⟨⟨F.keep _ _ how, hdw⟩, ?_⟩))))
  refine words_call (C.keeps F.keep) hgw hh' hr' ha hl fun D vs n h' tk hk hfr hD hS => ?_
  refine List_ (args_nil (newList_K (by exact F.after hk) (by exact news_fresh F News.nil hfr hk hD) (fun D' h₂ F₂ N₂ _ => ?_) (by show 0 ≤ sizeLine; decide)))
  exact eq_nil (N₂ _ (.tail _ (.head _))).1 (N₂ _ (.head _)).1 hS (wordsOf_mem _ ha) hu' (h h₂ _ F₂.keep)
end
end Mine

namespace Mine
set_option maxRecDepth 100000
set_option maxHeartbeats 4000000

section
variable {w : World} {A : Around} {E : Value → Shared → Prop} {s : Shared} {Q : Value → Shared → Prop}
/-- str.capitalize, the method itself -/
theorem attr_capitalize {expr : Bool} (h : Q (.builtin "str.capitalize") { s with toks := s.toks + 1 }) : wpAny (model prg w) A (getAttr (.type "str") "capitalize" expr) Q E s := by
  have X : Frag.In [] s.heap := fun a o e => by cases e
  have hstub : opaqueClassAbove (.type "str") = pure none := by unfold opaqueClassAbove; dsimp only; rw [show Manifest.isStub "str" = false by decide +kernel]; rfl
  refine cls_open X (Looks.of_pure hstub) (Looks.of_pure (kitMeta_of (by decide +kernel))) type_tga (looks_hook X (r := none) (by rfl)) (by decide +kernel) (r := .val (.builtin "str.capitalize")) (by kernel_rfl) ?_
  exact wpAny_pure (handed_on (by decide +kernel) h)
end

namespace MF
theorem owner_map : Manifest.owners.lookup (String.ofList ['p', 'a', 'm'].reverse) = some Manifest.sig_map := by kernel_rfl
theorem slot_map_init : Slot "map" "__init__" "object.__init__" :=
  .of (owner := "object") (n := "__init__") (by rw [typeLookup_type, builtinLookup_eq_fast]; kernel_rfl) (by decide +kernel) (by decide +kernel) (by decide +kernel)
    (by first | exact .inl (by decide +kernel) | exact .inr (by decide +kernel)) (by rw [isSubtype_type]; kernel_rfl)
theorem slot_map_iter : Slot "map" "__iter__" "map.__iter__" :=
  .of (owner := "map") (n := "__iter__") (by rw [typeLookup_type, builtinLookup_eq_fast]; kernel_rfl) (by decide +kernel) (by decide +kernel) (by decide +kernel)
    (by first | exact .inl (by decide +kernel) | exact .inr (by decide +kernel)) (by rw [isSubtype_type]; kernel_rfl)
theorem slot_map_next : Slot "map" "__next__" "map.__next__" :=
  .of (owner := "map") (n := "__next__") (by rw [typeLookup_type, builtinLookup_eq_fast]; kernel_rfl) (by decide +kernel) (by decide +kernel) (by decide +kernel)
    (by first | exact .inl (by decide +kernel) | exact .inr (by decide +kernel)) (by rw [isSubtype_type]; kernel_rfl)
theorem args_map_iter_1 (a : Value) : argsOk "map.__iter__" ⟨[a], []⟩ := by
  unfold argsOk; rw [signature?_of (id := "map.__iter__") (n := ['_', '_', 'r', 'e', 't', 'i', '_', '_']) (o := ['p', 'a', 'm']) (by kernel_rfl) owner_map]; kernel_rfl
theorem args_map_next_1 (a : Value) : argsOk "map.__next__" ⟨[a], []⟩ := by
  unfold argsOk; rw [signature?_of (id := "map.__next__") (n := ['_', '_', 't', 'x', 'e', 'n', '_', '_']) (o := ['p', 'a', 'm']) (by kernel_rfl) owner_map]; kernel_rfl
theorem entry_map_next : entryFor table "map.__next__" = some Builtin.«map.__next__» := entryFor_of_tree (by kernel_rfl)
theorem entry_map_new : entryFor table "map.__new__" = some Builtin.«map.__new__» := entryFor_of_tree (by kernel_rfl)
theorem entry_map_iter : entryFor table "map.__iter__" = some Builtin.«dict_keyiterator.__iter__» :=
  entryFor_alias (id' := "dict_keyiterator.__iter__") (by kernel_rfl) (by first | rfl | decide +kernel | (unfold String.splitOn; simp +decide [String.splitOnAux])) (by decide +kernel) (by kernel_rfl)
theorem mro_map : mroOf (.type "map") = pure [.type "map", .type "object"] := by rw [mroOf_type]; kernel_rfl
theorem lookup_map_new : typeLookup (.type "map") "__new__" = pure (some (.builtin "map.__new__")) := by rw [typeLookup_type, builtinLookup_eq_fast]; kernel_rfl
theorem called_map : TypeCalled "map" "map.__new__" "object.__init__" :=
  ⟨by decide +kernel, by decide +kernel, ⟨_, _, mro_map⟩, madeBy_type mro_map lookup_map_new (by decide +kernel), by decide +kernel, by rw [isSubtype_type]; kernel_rfl, slot_map_init⟩
theorem typeCall_map_2 (a b : Value) : checkTypeCall "map" ⟨[a, b], []⟩ = pure () := by kernel_rfl
theorem newCall_map_2 (a b : Value) : checkBuiltinCall "map.__new__" ⟨[.type "map", a, b], []⟩ = pure () := by kernel_rfl
theorem sub_map : isSubtype (.type "map") (.type "map") = pure true := by rw [isSubtype_type]; kernel_rfl
theorem map_no_len : typeLookup (.type "map") "__len__" = pure none := by rw [typeLookup_type, builtinLookup_eq_fast]; kernel_rfl
theorem map_no_hint : typeLookup (.type "map") "__length_hint__" = pure none := by rw [typeLookup_type, builtinLookup_eq_fast]; kernel_rfl
end MF
end Mine

namespace Mine
set_option maxRecDepth 100000
set_option maxHeartbeats 4000000

abbrev mapObj (T : Addr) : Obj := { cls := .type "map", data := .fields #[.ref T, .builtin "str.capitalize"] }
abbrev tup1 (I : Addr) : Obj := { cls := .type "tuple", data := .seq #[.ref I] }
/-- map(str.capitalize, xs), i items drawn -/
structure MapAt (h : Heap) (M T I D : Addr) (vs : List Value) (i : Nat) : Prop where
  m : h.get? M = some (mapObj T)
  t : h.get? T = some (tup1 I)
  i : h.IsListIter I D i
  d : h.IsList D vs.toArray
  mi : M ≠ I
  ti : T ≠ I
  di : D ≠ I

section
variable {w : World} {A : Around} {E : Value → Shared → Prop} {s : Shared} {M T I D : Addr} {vs : List Value} {i : Nat}

theorem meets_map_new (l : Addr) (xs : Array Value) :
    Meets (Builtin.«map.__new__» ⟨[.type "map", .builtin "str.capitalize", .ref l], []⟩) (fun _ R s => s.heap.IsList l xs ∧
      R (.ok (.ret (.ref ((s.heap.push { cls := .type "list_iterator", data := .fields #[.ref l, .int 0 0] }).push (tup1 s.heap.objs.size)).objs.size)))
        { s with heap := ((s.heap.push { cls := .type "list_iterator", data := .fields #[.ref l, .int 0 0] }).push (tup1 s.heap.objs.size)).push (mapObj (s.heap.push { cls := .type "list_iterator", data := .fields #[.ref l, .int 0 0] }).objs.size) }) :=
  .of_wp fun prog w A R s h => by
    obtain ⟨hp, g, d, tk, os⟩ := s; obtain ⟨hl1, h⟩ := h
    have hsub := MF.sub_map
    have hL1 : Heap.IsList (Shared.heap ⟨hp, g, d, tk, os⟩) l xs := hl1
    wp_walk using wpAny_pyIter_list hL1
    exact ⟨_, rfl, h⟩

theorem call_map {Q : Value → Shared → Prop} (hl : s.heap.IsList D vs.toArray)
    (h : ∀ M T I h', MapAt h' M T I D vs 0 → Keeps s.heap h' → s.heap.objs.size ≤ I → Q (.ref M) { s with heap := h' }) :
    wpAny (model prg w) A (call (.type "map") [.builtin "str.capitalize", .ref D]) Q E s := by
  refine callType_new MF.called_map (by decide) (MF.typeCall_map_2 _ _) (MF.newCall_map_2 _ _) (fun obj => F.args_object_init_3 obj _ _) MF.entry_map_new (meets_map_new D vs.toArray) ⟨hl, ?_⟩
  generalize hh1 : s.heap.push { cls := .type "list_iterator", data := .fields #[.ref D, .int 0 0] } = h1
  generalize hh2 : h1.push (tup1 s.heap.objs.size) = h2
  generalize hh3 : h2.push (mapObj h1.objs.size) = h3
  have z1 : h1.objs.size = s.heap.objs.size + 1 := by rw [← hh1]; exact Heap.size_push ..
  have z2 : h2.objs.size = s.heap.objs.size + 2 := by rw [← hh2, Heap.size_push, z1]
  have g1 : h1.get? s.heap.objs.size = some { cls := .type "list_iterator", data := .fields #[.ref D, .int 0 0] } := by rw [← hh1]; exact Heap.get?_push_size _ rfl
  have k1 : Keeps s.heap h1 := fun b o e => by rw [← hh1]; exact Heap.get?_push_of_some _ e
  have k2 : Keeps h1 h2 := fun b o e => by rw [← hh2]; exact Heap.get?_push_of_some _ e
  have k3 : Keeps h2 h3 := fun b o e => by rw [← hh3]; exact Heap.get?_push_of_some _ e
  have g2 : h2.get? h1.objs.size = some (tup1 s.heap.objs.size) := by rw [← hh2]; exact Heap.get?_push_size _ rfl
  have g3 : h3.get? h2.objs.size = some (mapObj h1.objs.size) := by rw [← hh3]; exact Heap.get?_push_size _ rfl
  have kk : Keeps s.heap h3 := k1.trans (k2.trans k3)
  have hDlt : D < s.heap.objs.size := by obtain ⟨_, e, _⟩ := hl; exact Heap.lt_size e
  refine ⟨⟨_, g3, rfl⟩, h h2.objs.size h1.objs.size s.heap.objs.size h3 ⟨g3, k3 _ _ g2, ⟨_, k3 _ _ (k2 _ _ g1), rfl, rfl⟩, ?_, Nat.ne_of_gt (by omega), Nat.ne_of_gt (by omega), Nat.ne_of_lt hDlt⟩ kk (Nat.le_refl _)⟩
  obtain ⟨o, e, r⟩ := hl
  exact ⟨o, kk _ _ e, r⟩

theorem map_item {x : Str} {t : Tok} {Q : Option Value → Shared → Prop} (H : MapAt s.heap M T I D vs i) (hx : vs[i]? = some (.str x t)) (hfit : Builtin.Str.tooLong (Txt.capitalized x).length = false)
    (hQ : ∀ h' t' k, MapAt h' M T I D vs (i + 1) → Heap.SameBut I s.heap h' → Q (some (.str (Txt.capitalize x) t')) { s with heap := h', toks := k }) : wpAny (model prg w) A (pyNext (.ref M)) Q E s := by
  have hT : s.TypeIs (.ref M) "map" := ⟨_, H.m, rfl⟩
  unfold pyNext
  refine wpAny_bind (wpAny_attempt (wpAny_callSpecial?_slot (name := Str.ofString "__next__") hT MF.slot_map_next (wpAny_call_entry MF.slot_map_next hT MF.entry_map_next ?_ (MF.args_map_next_1 _))))
  show wpAny _ _ (field (.ref M) 0 >>= _) _ _ _
  refine wpAny_bind (wpAny_field H.m rfl (x := .ref T) rfl ?_)
  refine wpAny_bind (wpAny_seqItems H.t rfl ?_)
  dsimp only
  refine wpAny_bind ?_
  simp only [List.forIn_toArray, List.forIn_cons, List.forIn_nil]
  refine wpAny_bind (wpAny_bind (wpAny_holding (wpAny_nextOf_list_item H.i H.d (by simpa using hx) fun h' hi' hs' => wpAny_pure ?_)))
  dsimp only
  refine wpAny_pure ?_
  have H' : MapAt h' M T I D vs (i + 1) := ⟨(hs'.2 _ H.mi).trans H.m, (hs'.2 _ H.ti).trans H.t, hi', H.d.extBut hs'.extBut H.di, H.mi, H.ti, H.di⟩
  refine wpAny_bind (wpAny_field H'.m rfl (x := .builtin "str.capitalize") rfl ?_)
  refine wpAny_bind (wpAny_holding (SC.capitalize hfit fun t' k => ?_))
  exact wpAny_bind (wpAny_letGo (wpAny_pure ⟨_, rfl, wpAny_pure (hQ h' t' k H' hs')⟩))

theorem map_end {Q : Option Value → Shared → Prop} (hh : A.handled = none) (H : MapAt s.heap M T I D vs i) (hx : vs[i]? = none)
    (hQ : ∀ h', Heap.ExtBut I s.heap h' → Q none { s with heap := h' }) : wpAny (model prg w) A (pyNext (.ref M)) Q E s := by
  have hT : s.TypeIs (.ref M) "map" := ⟨_, H.m, rfl⟩
  unfold pyNext
  refine wpAny_bind (wpAny_attempt (wpAny_callSpecial?_slot (name := Str.ofString "__next__") hT MF.slot_map_next (wpAny_call_entry MF.slot_map_next hT MF.entry_map_next ?_ (MF.args_map_next_1 _))))
  show wpAny _ _ (field (.ref M) 0 >>= _) _ _ _
  refine wpAny_bind (wpAny_field H.m rfl (x := .ref T) rfl ?_)
  refine wpAny_bind (wpAny_seqItems H.t rfl ?_)
  dsimp only
  refine wpAny_bind ?_
  simp only [List.forIn_toArray, List.forIn_cons, List.forIn_nil]
  refine wpAny_bind (wpAny_bind (wpAny_holding (wpAny_nextOf_list_end hh H.i H.d (by simpa using hx) fun h' e hs' he => ?_)))
  obtain ⟨o, ho, hc⟩ := he
  refine wpAny_bind (wpAny_isInstance (T := "StopIteration") (b := true) ⟨o, ho, hc⟩ isSubtype_stop ?_)
  exact wpAny_pure (hQ _ hs')

theorem map_self {Q : Value → Shared → Prop} (H : MapAt s.heap M T I D vs i) (h : Q (.ref M) s) : wpAny (model prg w) A (pyIter (.ref M)) Q E s := by
  have hT : s.TypeIs (.ref M) "map" := ⟨_, H.m, rfl⟩
  refine wpAny_pyIter_slot hT MF.slot_map_iter (wpAny_call_entry MF.slot_map_iter hT MF.entry_map_iter ?_ (MF.args_map_iter_1 _))
  show wpAny _ _ (ret (.ref M)) _ _ s
  exact wpAny_pure ⟨_, rfl, "map", _, hT, MF.slot_map_next.lookup, h⟩
end
end Mine

namespace Mine
set_option maxRecDepth 100000
set_option maxHeartbeats 4000000

theorem title_ascii : ∀ c : Nat, c < 128 → Unicode.titleOf c = [up c] := by unfold up; decide +kernel
theorem lowerA : ∀ c : Nat, c < 128 → Unicode.lowerOf c = [low c] := by unfold low; decide +kernel
theorem cap_placed {l : List Nat} (ha : ∀ c ∈ l, c < 128) : Txt.capitalized (S l) = S (great l) := by
  refine Str.ext' (Array.toList_inj.mp ?_)
  show (placed (S l) _).toList = great l
  cases l with
  | nil => rfl
  | cons c r =>
    have hc := title_ascii c (ha c (.head _))
    simp only [placed, Array.toList_flatten, Array.toList_map, Array.toList_mapIdx]
    rw [map_toList_mapIdx]
    show (List.mapIdx _ (c :: r)).flatten = up c :: r.map low
    rw [List.mapIdx_cons, List.flatten_cons]
    rw [if_pos (by rfl), hc]
    show up c :: _ = up c :: _
    congr 1
    refine flatten_mapIdx_single low r _ fun i d hd => ?_
    have hlt := ha d (.tail _ (List.mem_of_getElem? hd))
    have hne : (d == 0x3A3) = false := by rw [beq_eq_false_iff_ne]; omega
    rw [if_neg (by simp)]
    unfold Unicode.lowerAt
    rw [show (S (c :: r)).cps[i + 1]? = some d by simpa using hd]
    simp only [hne, Bool.false_and, Bool.false_eq_true, if_false]
    exact lowerA d hlt
theorem cap_eq {l : List Nat} (ha : ∀ c ∈ l, c < 128) : Txt.capitalize (S l) = S (great l) := by
  unfold Txt.capitalize
  split
  · rename_i h
    have : l = [] := by rw [S_length] at h; simpa using h
    subst this; rfl
  · exact cap_placed ha
theorem cap_fit {l : List Nat} (ha : ∀ c ∈ l, c < 128) (hl : l.length ≤ 10000) : Builtin.Str.tooLong (Txt.capitalized (S l)).length = false := by
  rw [cap_placed ha, S_length, great_length]
  unfold Builtin.Str.tooLong
  rw [decide_eq_false_iff_not, sizeLine_eq]; omega

theorem Strs.getR {vs : List Value} {rs : List (List Nat)} (h : Strs vs rs) : ∀ {i : Nat}, i < rs.length → ∃ r t, vs[i]? = some (.str (S r) t) ∧ rs[i]? = some r := by
  induction h with
  | nil => intro i hi; simp at hi
  | cons r t _ ih =>
    intro i hi
    cases i with
    | zero => exact ⟨r, t, rfl, rfl⟩
    | succ i => simpa using ih (i := i) (by simpa using hi)

section
variable {w : World} {A : Around} {E : Value → Shared → Prop} {M T I D Sa : Addr} {vs : List Value} {rs : List (List Nat)} {res : Value} {R : Result → Shared → Prop}

theorem map_loop (hh : A.handled = none) (hS : Strs vs rs) (hr : ∀ r ∈ rs, (∀ c ∈ r, c < 128) ∧ r.length ≤ 10000) (hn : rs.length ≤ 10000) (hSI : Sa ≠ I) (hSM : Sa ≠ M) (hST : Sa ≠ T) (hSD : Sa ≠ D) :
    ∀ (k i : Nat) (s : Shared) (acc : List Value) (c : Nat), rs.length - i = k → i ≤ rs.length → MapAt s.heap M T I D vs i → s.heap.get? Sa = some (listOf acc.toArray c) → Strs acc ((rs.take i).map great) →
    (∀ h' tk acc' c', (∀ b o, b ≠ Sa → b ≠ I → s.heap.get? b = some o → h'.get? b = some o) → h'.get? Sa = some (listOf acc'.toArray c') → Strs acc' (rs.map great) → R (.ok (.ret res)) { s with heap := h', toks := tk }) →
    codeAny (model prg w) A (.builtin "list.extend.loop" ⟨[.ref Sa, .ref M, res], []⟩) R s := by
  intro k
  induction k with
  | zero =>
    intro i s acc c hk hi H hSa hacc hR
    have hin : i = rs.length := by omega
    refine codeAny_builtin F.entry_extend_loop ?_
    rw [Around.under_plainId F.plain_extend_loop _]
    show wpAny _ A.in1 (pyNext (.ref M) >>= _) _ _ s
    refine wpAny_bind (map_end hh H (by rw [List.getElem?_eq_none]; rw [hS.length]; omega) fun h' he => ?_)
    refine wpAny_pure (hR h' _ acc c (fun b o _ hb e => he b o hb e) (he _ _ hSI hSa) ?_)
    rw [hin, List.take_length] at hacc
    exact hacc
  | succ k ih =>
    intro i s acc c hk hi H hSa hacc hR
    have hlt : i < rs.length := by omega
    refine codeAny_builtin F.entry_extend_loop ?_
    rw [Around.under_plainId F.plain_extend_loop _]
    show wpAny _ A.in1 (pyNext (.ref M) >>= _) _ _ s
    obtain ⟨r, t, hv, hri⟩ := hS.getR hlt
    have hrr := hr r (List.mem_of_getElem? hri)
    refine wpAny_bind (map_item H hv (cap_fit hrr.1 hrr.2) fun h' t' k' H' hs' => ?_)
    rw [cap_eq hrr.1]
    have hSa' : h'.get? Sa = some (listOf acc.toArray c) := (hs'.2 _ hSI).trans hSa
    have hlen : acc.length ≤ 10000 := by have := hacc.length; simp at this; omega
    show wpAny _ A.in1 (updateSeq Sa (·.push (.str (S (great r)) t')) >>= _) _ _ _
    refine wpAny_bind (wpAny_updateSeq hSa' rfl (wpAny_pure ⟨plainId_quiet F.plain_extend_loop _, ?_⟩) (by rw [List.size_toArray, sizeLine_eq]; omega) (by show (acc.toArray.push _).size ≤ sizeLine + 1; rw [Array.size_push, List.size_toArray, sizeLine_eq]; omega))
    have oth : ∀ b o, b ≠ Sa → h'.get? b = some o → (h'.update Sa (Obj.mapSeq (·.push (.str (S (great r)) t')))).get? b = some o := fun b o hb e => (Heap.get?_update_other _ _ (Ne.symm hb)).trans e
    refine ih (i + 1) _ (acc ++ [.str (S (great r)) t']) (c + 1) (by omega) hlt ⟨oth _ _ (Ne.symm hSM) H'.m, oth _ _ (Ne.symm hST) H'.t, ?_, ?_, H'.mi, H'.ti, H'.di⟩ ?_ ?_ fun h'' tk acc' c' hk'' hS'' hst => ?_
    · obtain ⟨o, e, q⟩ := H'.i; exact ⟨o, oth _ _ (Ne.symm hSI) e, q⟩
    · obtain ⟨o, e, q⟩ := H'.d; exact ⟨o, oth _ _ (Ne.symm hSD) e, q⟩
    · have := Heap.get?_update_self (Obj.mapSeq (·.push (Value.str (S (great r)) t'))) hSa' rfl
      rw [this]
      simp [Obj.mapSeq]
    · rw [List.take_add_one, hri]
      simpa using hacc.snoc (great r) t'
    · exact hR h'' tk acc' c' (fun b o hb1 hb2 e => hk'' b o hb1 hb2 (oth b o hb1 ((hs'.2 _ hb2).trans e))) hS'' hst
end
end Mine

namespace Mine
set_option maxRecDepth 100000
set_option maxHeartbeats 4000000

section
variable {w : World} {A : Around} {E : Value → Shared → Prop} {s : Shared} {M T I D : Addr} {vs : List Value} {rs : List (List Nat)}

theorem map_collect {Q : List Value → Shared → Prop} (hh : A.handled = none) (hS : Strs vs rs) (hr : ∀ r ∈ rs, (∀ c ∈ r, c < 128) ∧ r.length ≤ 10000) (hn : rs.length ≤ 10000) (H : MapAt s.heap M T I D vs 0)
    (hQ : ∀ h' tk acc, (∀ b o, b ≠ I → s.heap.get? b = some o → h'.get? b = some o) → Strs acc (rs.map great) → Q acc { s with heap := h', toks := tk }) : wpAny (model prg w) A (collect (.ref M)) Q E s := by
  have lt : ∀ {a : Addr} {o : Obj}, s.heap.get? a = some o → s.heap.objs.size ≠ a := fun e => Nat.ne_of_gt (Heap.lt_size e)
  have lI : s.heap.objs.size ≠ I := by obtain ⟨_, e, _⟩ := H.i; exact lt e
  have lD : s.heap.objs.size ≠ D := by obtain ⟨_, e, _⟩ := H.d; exact lt e
  have lM := lt H.m
  have lT := lt H.t
  unfold collect
  refine wpAny_bind (wpAny_runValue (codeAny_builtin F.entry_proto_collect ?_))
  rw [Around.under_plainId F.plain_proto_collect _]
  show wpAny _ A.in1 (newList [] >>= fun l => again (.builtin "list.__iadd__" ⟨[l, .ref M], []⟩)) _ _ s
  refine wpAny_bind (wpAny_newObj_type ?_)
  refine wpAny_pure ⟨plainId_quiet F.plain_list_iadd _, codeAny_builtin F.entry_list_iadd ?_⟩
  rw [Around.under_plainId F.plain_list_iadd _]
  generalize hh1 : s.heap.push { cls := .type "list", data := .seq ([] : List Value).toArray } = h1
  have g1 : h1.get? s.heap.objs.size = some (listOf #[] 0) := by rw [← hh1]; exact Heap.get?_push_size _ rfl
  have k1 : Keeps s.heap h1 := fun b o e => by rw [← hh1]; exact Heap.get?_push_of_some _ e
  have mk : ∀ {h h' : Heap} {i : Nat}, MapAt h M T I D vs i → (∀ b o, b ≠ s.heap.objs.size → h.get? b = some o → h'.get? b = some o) → MapAt h' M T I D vs i := fun X k =>
    ⟨k _ _ (Ne.symm lM) X.m, k _ _ (Ne.symm lT) X.t, let ⟨o, e, q⟩ := X.i; ⟨o, k _ _ (Ne.symm lI) e, q⟩, let ⟨o, e, q⟩ := X.d; ⟨o, k _ _ (Ne.symm lD) e, q⟩, X.mi, X.ti, X.di⟩
  have H1 : MapAt h1 M T I D vs 0 := mk H fun b o _ e => k1 b o e
  show wpAny _ A.in1 (Builtin.List.listExtendWith (.ref s.heap.objs.size) (.ref M) (.ref s.heap.objs.size)) _ _ _
  unfold Builtin.List.listExtendWith
  have hT : ∀ {g : Array GenState} {d : Drawn} {t : Nat} {os : OsState}, Shared.TypeIs ⟨h1, g, d, t, os⟩ (.ref M) "map" := ⟨_, H1.m, rfl⟩
  refine wpAny_bind (wpAny_typeOf hT ?_)
  have e1 : Builtin.List.listSameRef (.ref s.heap.objs.size) (.ref M) = false := by simp [Builtin.List.listSameRef, lM]
  have e2 : (Value.type "map" == Value.type "list") = false := by decide
  have e3 : (Value.type "map" == Value.type "tuple") = false := by decide
  simp only [e1, e2, e3, Bool.or_false, Bool.false_eq_true, if_false]
  refine wpAny_bind (map_self H1 ?_)
  refine wpAny_bind (wpAny_holding ?_)
  unfold Builtin.List.listLengthHint
  refine wpAny_bind (wpAny_specialOf hT MF.map_no_len ?_)
  show wpAny _ A.in1 (specialOf (Value.ref M) (Str.ofString "__length_hint__") >>= _) _ _ _
  refine wpAny_bind (wpAny_specialOf hT MF.map_no_hint ?_)
  refine wpAny_pure ?_
  show wpAny _ A.in1 (rule "list.extend.makes-room" >>= fun _ => Builtin.List.listTouch (.ref s.heap.objs.size) >>= fun _ =>
    again (.builtin "list.extend.loop" ⟨[.ref s.heap.objs.size, .ref M, .ref s.heap.objs.size], []⟩)) _ _ _
  refine wpAny_bind (wpAny_rule ?_)
  refine wpAny_bind ?_
  show wpAny _ A.in1 (updateSeq s.heap.objs.size (·.push .none) >>= fun _ => updateSeq s.heap.objs.size (·.pop)) _ _ _
  refine wpAny_bind (wpAny_updateSeq g1 rfl ?_)
  have g2 := Heap.get?_update_self (Obj.mapSeq (·.push Value.none)) g1 rfl
  refine wpAny_updateSeq g2 rfl ?_
  have g3 := Heap.get?_update_self (Obj.mapSeq (·.pop)) g2 rfl
  generalize hh3 : (h1.update s.heap.objs.size (Obj.mapSeq (·.push Value.none))).update s.heap.objs.size (Obj.mapSeq (·.pop)) = h3 at *
  have k3 : ∀ b o, b ≠ s.heap.objs.size → h1.get? b = some o → h3.get? b = some o := fun b o hb e => by
    rw [← hh3]; exact (Heap.get?_update_other _ _ (Ne.symm hb)).trans ((Heap.get?_update_other _ _ (Ne.symm hb)).trans e)
  refine wpAny_pure ⟨plainId_quiet F.plain_extend_loop _, map_loop hh hS hr hn lI lM lT lD rs.length 0 _ [] _ rfl (Nat.zero_le _) (mk H1 k3) g3 .nil fun h' tk acc' c' hk' hS' hst => ?_⟩
  show wpAny _ A (load s.heap.objs.size >>= _) _ _ _
  refine wpAny_bind (wpAny_load hS' ?_)
  refine wpAny_pure (hQ h' tk acc' (fun b o hb e => hk' b o (Ne.symm (lt e)) hb (k3 b o (Ne.symm (lt e)) (k1 b o e))) hst)
end
end Mine

namespace Mine
set_option maxRecDepth 100000
set_option maxHeartbeats 4000000

/-- the signs that a text of the law's may hold -/
def ok (c : Nat) : Bool := c < 128 && (c < 11 || 13 < c) && (c < 28 || 31 < c)
theorem ok_lt {c : Nat} (h : ok c = true) : c < 128 := by simp [ok] at h; omega
theorem ok_space : ∀ c : Nat, c < 128 → ok c = true → Unicode.isSpace c = wht c := by decide +kernel
theorem ok_line : ∀ c : Nat, c < 128 → ok c = true → Unicode.isLineBreak c = (c == 10) := by decide +kernel

def sub (l : List Nat) (a b : Nat) : List Nat := (l.drop a).take (b - a)
theorem sub_snoc {l : List Nat} {a i : Nat} {c : Nat} (h : a ≤ i) (hc : l[i]? = some c) : sub l a (i + 1) = sub l a i ++ [c] := by
  unfold sub
  rw [show i + 1 - a = (i - a) + 1 by omega, List.take_add_one, List.getElem?_drop, show a + (i - a) = i by omega, hc]
  rfl
theorem sub_self (l : List Nat) (a : Nat) : sub l a a = [] := by simp [sub]
theorem sub_S (l : List Nat) (a b : Nat) : Builtin.Str.strSub (S l) a b = S (sub l a b) := by
  refine Str.ext' (Array.toList_inj.mp ?_)
  rw [StrLaws.strSub_toList]
  rfl

open StrLaws in
theorem words_run (l : List Nat) (hl : ∀ c ∈ l, ok c = true) (limit : Nat) (hlim : l.length < limit) : ∀ (m cur : Nat) (st : SwSt), cur + m ≤ l.length →
    (st.1 = none ∧ st.2.1.size ≤ cur ∧ (st.2.1.toList.map fun q => sub l q.1 q.2) = ((l.take cur).foldl wstep ([], none)).1 ∧
      (match st.2.2 with | some b => b ≤ cur ∧ ((l.take cur).foldl wstep ([], none)).2 = some (sub l b cur) | none => ((l.take cur).foldl wstep ([], none)).2 = none)) →
    (let st' := (forIn (List.range' cur m) st (swBody (S l) limit)).run
     st'.1 = none ∧ st'.2.1.size ≤ cur + m ∧ (st'.2.1.toList.map fun q => sub l q.1 q.2) = ((l.take (cur + m)).foldl wstep ([], none)).1 ∧
      (match st'.2.2 with | some b => b ≤ cur + m ∧ ((l.take (cur + m)).foldl wstep ([], none)).2 = some (sub l b (cur + m)) | none => ((l.take (cur + m)).foldl wstep ([], none)).2 = none)) := by
  intro m
  induction m with
  | zero => intro cur st _ h; exact h
  | succ m ih =>
    rintro cur ⟨r, words, start⟩ hm ⟨h1, h2, h3, h4⟩
    rw [List.range'_succ, List.forIn_cons, show cur + (m + 1) = (cur + 1) + m by omega]
    obtain ⟨c, hc⟩ : ∃ c, l[cur]? = some c := ⟨l[cur]'(by omega), List.getElem?_eq_getElem (by omega)⟩
    have hok := hl c (List.mem_of_getElem? hc)
    have hget : (S l).cps.getD cur 0 = c := by simp [Array.getD_eq_getD_getElem?, hc]
    have htk : l.take (cur + 1) = l.take cur ++ [c] := by rw [List.take_add_one, hc]; rfl
    have hsz : ¬ ((words.size == limit) = true) := by rw [beq_iff_eq]; have : words.size ≤ cur := h2; omega
    unfold swBody
    simp only [hsz, hget, ok_space c (ok_lt hok) hok]
    have hfold : (l.take (cur + 1)).foldl wstep ([], none) = wstep ((l.take cur).foldl wstep ([], none)) c := by rw [htk, List.foldl_append]; rfl
    generalize hp : (l.take cur).foldl wstep ([], none) = p at *
    obtain ⟨d, cu⟩ := p
    cases start with
    | none =>
      have h4 : cu = none := h4
      subst h4
      cases hw : wht c
      · refine ih (cur + 1) _ (by omega) ⟨rfl, Nat.le_succ_of_le h2, ?_, Nat.le_succ cur, ?_⟩
        · rw [hfold, wstep, if_neg (by rw [hw]; simp)]; exact h3
        · rw [hfold, wstep, if_neg (by rw [hw]; simp), sub_snoc (Nat.le_refl _) hc, sub_self]; rfl
      · refine ih (cur + 1) _ (by omega) ⟨rfl, Nat.le_succ_of_le h2, ?_, ?_⟩
        · rw [hfold, wstep, if_pos hw]; simpa using h3
        · show _ = none
          rw [hfold, wstep, if_pos hw]
    | some b =>
      obtain ⟨h4, h5⟩ := h4
      have h5 : cu = some (sub l b cur) := h5
      subst h5
      cases hw : wht c
      · refine ih (cur + 1) _ (by omega) ⟨rfl, Nat.le_succ_of_le h2, ?_, Nat.le_succ_of_le h4, ?_⟩
        · rw [hfold, wstep, if_neg (by rw [hw]; simp)]; exact h3
        · rw [hfold, wstep, if_neg (by rw [hw]; simp), sub_snoc h4 hc]; rfl
      · refine ih (cur + 1) _ (by omega) ⟨rfl, ?_, ?_, ?_⟩
        · show (words.push (b, cur)).size ≤ cur + 1
          rw [Array.size_push]; exact Nat.succ_le_succ h2
        · rw [hfold, wstep, if_pos hw]
          show ((words.push (b, cur)).toList.map fun q => sub l q.1 q.2) = _
          have h3 : words.toList.map (fun q => sub l q.1 q.2) = d := h3
          rw [Array.toList_push, List.map_append, h3]; rfl
        · show _ = none
          rw [hfold, wstep, if_pos hw]

open StrLaws in
theorem words_eq {l : List Nat} (hl : ∀ c ∈ l, ok c = true) : Txt.words (S l) = (wordsOf l).map S := by
  have key := words_run l hl ((S l).length + 1) (by rw [S_length]; omega) l.length 0 ((none, #[], none) : SwSt) (by omega) ⟨rfl, Nat.le_refl _, rfl, rfl⟩
  have hspan : (Builtin.Str.spaceWords (S l) ((S l).length + 1)).map (fun q => sub l q.1 q.2) = wordsOf l := by
    rw [sw_eq, show List.range' 0 (S l).length = List.range' 0 l.length by rw [S_length]]
    dsimp only at key
    rw [Nat.zero_add, List.take_length] at key
    unfold wordsOf
    dsimp only
    generalize (forIn (List.range' 0 l.length) ((none, #[], none) : SwSt) (swBody (S l) ((S l).length + 1))).run = st at key ⊢
    generalize l.foldl wstep ([], none) = p at key ⊢
    obtain ⟨r, words, start⟩ := st
    obtain ⟨d, cu⟩ := p
    obtain ⟨h1, -, h3, h4⟩ := key
    have h1 : r = none := h1
    have h3 : words.toList.map (fun q => sub l q.1 q.2) = d := h3
    subst h1
    unfold swEnd
    cases start with
    | none =>
      have h4 : cu = none := h4
      subst h4
      simpa using h3
    | some b =>
      have h4 : cu = some (sub l b l.length) := h4.2
      subst h4
      show ((words.push (b, (S l).length)).toList.map fun q => sub l q.1 q.2) = d ++ [sub l b l.length]
      rw [Array.toList_push, List.map_append, h3, S_length]; rfl
  have hmap : (Builtin.Str.spaceWords (S l) ((S l).length + 1)).map (fun q => Builtin.Str.strSub (S l) q.1 q.2) = (wordsOf l).map S := by
    rw [← hspan, List.map_map]
    refine List.map_congr_left fun q _ => ?_
    exact sub_S l q.1 q.2
  unfold Txt.words
  split
  · rename_i h
    rw [← hmap, eq_of_beq h]
    show [S l] = [Builtin.Str.strSub (S l) 0 (S l).length]
    rw [sub_whole]
  · exact hmap

open StrLaws in
theorem lines_run (l : List Nat) (hl : ∀ c ∈ l, ok c = true) : ∀ (m cur : Nat) (st : LsSt), cur + m ≤ l.length →
    (st.2 ≤ cur ∧ (st.1.toList.map fun q => sub l q.1 q.2.2) = ((l.take cur).foldl rstep ([], [])).1 ∧ ((l.take cur).foldl rstep ([], [])).2 = sub l st.2 cur) →
    (let st' := (Id.run (forIn (m := Id) (List.range' cur m) st (lsBody (S l))))
     st'.2 ≤ cur + m ∧ (st'.1.toList.map fun q => sub l q.1 q.2.2) = ((l.take (cur + m)).foldl rstep ([], [])).1 ∧ ((l.take (cur + m)).foldl rstep ([], [])).2 = sub l st'.2 (cur + m)) := by
  intro m
  induction m with
  | zero => intro cur st _ h; exact h
  | succ m ih =>
    rintro cur ⟨lines, start⟩ hm ⟨h1, h2, h3⟩
    rw [List.range'_succ, List.forIn_cons, show cur + (m + 1) = (cur + 1) + m by omega]
    obtain ⟨c, hc⟩ : ∃ c, l[cur]? = some c := ⟨l[cur]'(by omega), List.getElem?_eq_getElem (by omega)⟩
    have hok := hl c (List.mem_of_getElem? hc)
    have hget : (S l).cps.getD cur 0 = c := by simp [Array.getD_eq_getD_getElem?, hc]
    have htk : l.take (cur + 1) = l.take cur ++ [c] := by rw [List.take_add_one, hc]; rfl
    have h13 : (c == 13) = false := by rw [beq_eq_false_iff_ne]; intro q; subst q; revert hok; decide
    have hnext : lsNext (S l) cur = cur + 1 := by unfold lsNext; rw [hget, h13]; rfl
    have h1 : start ≤ cur := h1
    unfold lsBody
    simp only [hget, hnext, ok_line c (ok_lt hok) hok, decide_eq_true h1, Bool.true_and]
    have hfold : (l.take (cur + 1)).foldl rstep ([], []) = rstep ((l.take cur).foldl rstep ([], [])) c := by rw [htk, List.foldl_append]; rfl
    generalize hp : (l.take cur).foldl rstep ([], []) = p at *
    obtain ⟨d, cu⟩ := p
    have h3 : cu = sub l start cur := h3
    have h2 : lines.toList.map (fun q => sub l q.1 q.2.2) = d := h2
    subst h3
    by_cases h10 : c = 10
    · rw [if_pos (by rw [h10]; rfl)]
      refine ih (cur + 1) _ (by omega) ⟨Nat.le_refl _, ?_, ?_⟩
      · rw [hfold, rstep, if_pos h10]
        show ((lines.push (start, cur, cur + 1)).toList.map fun q => sub l q.1 q.2.2) = _
        rw [Array.toList_push, List.map_append, h2, ← sub_snoc h1 hc]; rfl
      · rw [hfold, rstep, if_pos h10, sub_self]
    · rw [if_neg (by rw [beq_iff_eq]; exact h10)]
      refine ih (cur + 1) _ (by omega) ⟨Nat.le_succ_of_le h1, ?_, ?_⟩
      · rw [hfold, rstep, if_neg h10]; exact h2
      · rw [hfold, rstep, if_neg h10]; exact (sub_snoc h1 hc).symm

/-- a text cut at its line feeds -/
def splitNL : List Nat → List (List Nat)
  | [] => [[]]
  | c :: r => if c = 10 then [] :: splitNL r else match splitNL r with | h :: t => (c :: h) :: t | [] => [[c]]
def joinL (sep : List Nat) : List (List Nat) → List Nat
  | [] => []
  | [x] => x
  | x :: y :: rest => x ++ sep ++ joinL sep (y :: rest)
theorem join_S (sep : List Nat) : ∀ rs : List (List Nat), Str.join (S sep) (rs.map S) = S (joinL sep rs)
  | [] => rfl
  | [_] => rfl
  | x :: y :: rest => by
    have ih := join_S sep (y :: rest)
    show S x ++ S sep ++ Str.join (S sep) ((y :: rest).map S) = _
    rw [ih, S_append, S_append]; rfl
theorem splitNL_free : ∀ p : List Nat, 10 ∉ p → splitNL p = [p]
  | [], _ => rfl
  | c :: r, h => by
    have h1 : c ≠ 10 := fun q => h (by rw [q]; exact .head _)
    rw [splitNL, if_neg h1, splitNL_free r fun q => h (.tail _ q)]
theorem splitNL_cons : ∀ (p q : List Nat), 10 ∉ p → splitNL (p ++ 10 :: q) = p :: splitNL q
  | [], q, _ => by show splitNL (10 :: q) = _; rw [splitNL, if_pos rfl]
  | c :: r, q, h => by
    have h1 : c ≠ 10 := fun q => h (by rw [q]; exact .head _)
    show splitNL (c :: (r ++ 10 :: q)) = _
    rw [splitNL, if_neg h1, splitNL_cons r q fun q => h (.tail _ q)]
theorem splitNL_join : ∀ ps : List (List Nat), ps ≠ [] → (∀ p ∈ ps, 10 ∉ p) → splitNL (joinL [10] ps) = ps
  | [], h, _ => absurd rfl h
  | [p], _, h => splitNL_free p (h p (.head _))
  | p :: q :: rest, _, h => by
    have ih := splitNL_join (q :: rest) (by simp) fun x hx => h x (.tail _ hx)
    show splitNL (p ++ [10] ++ joinL [10] (q :: rest)) = _
    rw [List.append_assoc]
    show splitNL (p ++ 10 :: joinL [10] (q :: rest)) = _
    rw [splitNL_cons p _ (h p (.head _)), ih]
theorem S_of (x : Str) : x = S x.cps.toList := Str.ext' (by simp)
theorem map_S_of (xs : List Str) : xs = (xs.map fun x => x.cps.toList).map S := by
  rw [List.map_map]
  conv => lhs; rw [← List.map_id xs]
  exact List.map_congr_left fun x _ => S_of x
theorem S_inj {a b : List Nat} (h : S a = S b) : a = b := by
  have := congrArg (fun x => x.cps.toList) h
  simpa using this
theorem split_eq (l : List Nat) : Txt.split (S l) (S [10]) = (splitNL l).map S := by
  have h1 := StrLaws.join_split (S l) (S [10])
  have h2 := StrLaws.split_free (S l) 10
  have h2 : ∀ p ∈ Txt.split (S l) (S [10]), 10 ∉ p.cps.toList := h2
  have hne : Txt.split (S l) (S [10]) ≠ [] := by
    unfold Txt.split
    split
    · simp
    · split
      · simp
      · rw [StrLaws.partsBetween_eq]
        obtain ⟨p, r, e⟩ := StrLaws.partsFrom_ne (S l) (S [10]).length 0 (Builtin.Str.occurrences (S l) (S [10]) 0 (S l).length ((S l).length + 1))
        rw [e]; simp
  generalize Txt.split (S l) (S [10]) = xs at *
  rw [map_S_of xs, join_S] at h1
  have h1 := S_inj h1
  conv => lhs; rw [map_S_of xs]
  congr 1
  rw [← h1]
  refine (splitNL_join _ (by simpa using hne) fun p hp => ?_).symm
  obtain ⟨x, hx, rfl⟩ := List.mem_map.mp hp
  exact h2 x hx

/-- splitlines(True) -/
def keepCuts (x : Str) : List (Nat × Nat) := (Builtin.Str.lineSpans x).map fun q => (q.1, q.2.2)
open StrLaws in
theorem lines_eq {l : List Nat} (hl : ∀ c ∈ l, ok c = true) : (keepCuts (S l)).map (fun q => Builtin.Str.strSub (S l) q.1 q.2) = (rowsOf l).map S := by
  have key := lines_run l hl l.length 0 ((#[], 0) : LsSt) (by omega) ⟨Nat.le_refl _, rfl, by simp [sub]⟩
  have hspan : (Builtin.Str.lineSpans (S l)).map (fun q => sub l q.1 q.2.2) = rowsOf l := by
    rw [ls_eq, show List.range' 0 (S l).length = List.range' 0 l.length by rw [S_length]]
    dsimp only at key
    rw [Nat.zero_add, List.take_length] at key
    unfold rowsOf
    dsimp only
    generalize Id.run (forIn (m := Id) (List.range' 0 l.length) ((#[], 0) : LsSt) (lsBody (S l))) = st at key ⊢
    generalize l.foldl rstep ([], []) = p at key ⊢
    obtain ⟨lines, start⟩ := st
    obtain ⟨d, cu⟩ := p
    obtain ⟨h1, h2, h3⟩ := key
    have h1 : start ≤ l.length := h1
    have h2 : lines.toList.map (fun q => sub l q.1 q.2.2) = d := h2
    have h3 : cu = sub l start l.length := h3
    unfold lsEnd
    dsimp only
    have hnil : cu = [] ↔ start = l.length := by
      rw [h3]; unfold sub; rw [List.take_eq_nil_iff, List.drop_eq_nil_iff]; omega
    by_cases hs : start < l.length
    · rw [if_pos (by rw [S_length]; exact hs), if_neg (fun q => by rw [hnil] at q; omega), Array.toList_push, List.map_append, h2, S_length, h3]; rfl
    · rw [if_neg (by rw [S_length]; exact hs), if_pos (hnil.mpr (by omega)), h2]
  unfold keepCuts
  rw [← hspan, List.map_map, List.map_map]
  refine List.map_congr_left fun q _ => ?_
  exact sub_S l q.1 q.2.2
end Mine

namespace Mine
set_option maxRecDepth 100000
set_option maxHeartbeats 4000000

theorem strs_of : ∀ {ps : List (Str × Tok)} {rs : List (List Nat)}, ps.map (·.1) = rs.map S → Strs (strValues ps) rs
  | [], [], _ => .nil
  | [], _ :: _, h => by simp at h
  | _ :: _, [], h => by simp at h
  | (x, t) :: ps, r :: rs, h => by
    simp only [List.map_cons, List.cons.injEq] at h
    obtain ⟨h1, h2⟩ := h
    subst h1
    exact .cons r t (strs_of h2)
theorem splitNL_bound : ∀ l : List Nat, (splitNL l).length ≤ l.length + 1 ∧ ∀ p ∈ splitNL l, p.length ≤ l.length ∧ ∀ c ∈ p, c ∈ l
  | [] => by simp [splitNL]
  | c :: r => by
    obtain ⟨h1, h2⟩ := splitNL_bound r
    rw [splitNL]
    split
    · refine ⟨by simp; omega, fun p hp => ?_⟩
      rcases List.mem_cons.mp hp with rfl | hp
      · simp
      · exact ⟨by have := (h2 p hp).1; simp; omega, fun c hc => .tail _ ((h2 p hp).2 c hc)⟩
    · split
      · rename_i h t e
        rw [e] at h1 h2
        refine ⟨by simp at h1 ⊢; omega, fun p hp => ?_⟩
        rcases List.mem_cons.mp hp with rfl | hp
        · have q := h2 h (.head _)
          refine ⟨by simp; exact q.1, fun d hd => ?_⟩
          rcases List.mem_cons.mp hd with rfl | hd
          · exact .head _
          · exact .tail _ (q.2 d hd)
        · have q := h2 p (.tail _ hp)
          exact ⟨by simp; omega, fun c hc => .tail _ (q.2 c hc)⟩
      · simp
theorem wstep_bound (l : List Nat) : ∀ (n : Nat) (p : List (List Nat) × Option (List Nat)), (∀ r ∈ p.1, r.length ≤ n) → (∀ r ∈ p.2.toList, r.length ≤ n) → ∀ r ∈ (l.foldl wstep p).1 ++ (l.foldl wstep p).2.toList, r.length ≤ n + l.length := by
  induction l with
  | nil =>
    intro n p h1 h2 r hr
    rcases List.mem_append.mp hr with hr | hr
    · exact h1 r hr
    · exact h2 r hr
  | cons c l ih =>
    intro n p h1 h2 r hr
    obtain ⟨d, cu⟩ := p
    have := ih (n + 1) (wstep (d, cu) c) ?_ ?_ r hr
    · simp only [List.length_cons]; omega
    · intro r hr
      unfold wstep at hr
      split at hr
      · rcases List.mem_append.mp hr with hr | hr
        · exact Nat.le_succ_of_le (h1 r hr)
        · exact Nat.le_succ_of_le (h2 r hr)
      · exact Nat.le_succ_of_le (h1 r hr)
    · intro r hr
      unfold wstep at hr
      split at hr
      · simp at hr
      · simp only [Option.toList_some, List.mem_singleton] at hr
        subst hr
        cases cu with
        | none => simp
        | some cu => have := h2 cu (by simp); simp; omega
theorem wordsOf_bound (l : List Nat) : (wordsOf l).length ≤ 2 * l.length ∧ ∀ r ∈ wordsOf l, r.length ≤ l.length := by
  constructor
  · have := wstep_len l ([], none)
    simp only [List.length_nil, Nat.add_zero, Nat.zero_add, Option.toList_none, List.flatten_nil] at this
    unfold wordsOf
    simp only [List.length_append]; omega
  · intro r hr
    have := wstep_bound l 0 ([], none) (by simp) (by simp) r hr
    omega

section
variable {w : World} {A : Around} {E : Value → Shared → Prop} {s : Shared} {Q : Value → Shared → Prop} {l : List Nat} {t u : Tok}

theorem split_nl (hl : l.length ≤ 10000)
    (h : ∀ D vs h' k, Keeps s.heap h' → h'.IsList D vs.toArray → Strs vs (splitNL l) → Q (.ref D) { s with heap := h', toks := k }) :
    wpAny (model prg w) A (call (.builtin "str.split") [.str (S l) t, .str (S [10]) u]) Q E s := by
  refine SCH.split1 (P := fun h' => Keeps s.heap h') (fun _ _ k b o e => Heap.get?_push_of_some _ (k b o e)) (fun _ _ e => e) rfl (fun D ps h' k hp hk hL => h D _ h' k hk hL (strs_of (hp.trans (split_eq l)))) ?_ ?_
  · rw [S_length, sizeLine_eq]; omega
  · rw [length_partsBetween]
    have := StrLaws.occ_length_le (S l) (S [10]) 0 (S l).length ((S l).length + 1)
    rw [sizeLine_eq]; rw [S_length l] at this ⊢; omega

theorem split_none (hl : l.length ≤ 10000) (ho : ∀ c ∈ l, ok c = true)
    (h : ∀ D vs h' k, Keeps s.heap h' → h'.IsList D vs.toArray → Strs vs (wordsOf l) → Q (.ref D) { s with heap := h', toks := k }) :
    wpAny (model prg w) A (call (.builtin "str.split") [.str (S l) t, .none]) Q E s := by
  have hsz : (S l).length ≤ sizeLine := by rw [S_length, sizeLine_eq]; omega
  have hsz2 : (Builtin.Str.spaceWords (S l) ((S l).length + 1)).length ≤ sizeLine := by
    have h1 := StrLaws.len_le_wsum (Builtin.Str.spaceWords (S l) ((S l).length + 1))
    have h2 := (StrLaws.sw_weight (S l)).1
    rw [S_length] at h1 h2 ⊢; rw [sizeLine_eq]; omega
  have tree : Builtin.«str.split» ⟨[.str (S l) t, .none], []⟩ = Builtin.«str.split» ⟨[.str (S l) t], []⟩ := rfl
  have m0 := meets_str_split_space (S l) t hsz hsz2
  rw [← tree] at m0
  refine call_meets F.slot_str_split (typeIs_str _ _ _) F.entry_str_split (F.args_str_split_2 _ _) m0 ?_
  have hw := words_eq ho
  unfold Txt.words at hw
  cases hc : Builtin.Str.spaceWords (S l) ((S l).length + 1) == [(0, (S l).length)]
  · rw [hc, if_neg Bool.false_ne_true] at hw
    simp only [Bool.false_eq_true, if_false]
    rw [strsFrom_eq]
    exact h _ _ _ _ (fun b o e => Heap.get?_push_of_some _ e) ⟨_, Heap.get?_push_size _ rfl, rfl, _, rfl⟩ (strs_of ((numbered_texts _ _).trans hw))
  · rw [hc, if_pos rfl] at hw
    simp only [if_true]
    exact h _ [.str (S l) t] _ s.toks (fun b o e => Heap.get?_push_of_some _ e) ⟨_, Heap.get?_push_size _ rfl, rfl, _, rfl⟩ (strs_of (ps := [(S l, t)]) hw)

theorem join_map {M T I D : Addr} {vs : List Value} {rs : List (List Nat)} {sep : List Nat} (hh : A.handled = none) (hS : Strs vs rs) (hr : ∀ r ∈ rs, (∀ c ∈ r, c < 128) ∧ r.length ≤ 2000) (hn : rs.length ≤ 4000) (hsep : sep.length ≤ 10)
    (H : MapAt s.heap M T I D vs 0)
    (hQ : ∀ h' t' tk, (∀ b o, b ≠ I → s.heap.get? b = some o → h'.get? b = some o) → Q (.str (S (joinL sep (rs.map great))) t') { s with heap := h', toks := tk }) :
    wpAny (model prg w) A (call (.builtin "str.join") [.str (S sep) t, .ref M]) Q E s := by
  refine wpAny_call (codeAny_call_builtin F.slot_str_join.plain F.entry_str_join (F.slot_str_join.check _ _ _ _ _ _ _ _ (typeIs_str _ _ _) (F.args_str_join_2 _ _) ?_))
  rw [join_tree_other]
  refine wpAny_bind (wpAny_typeOf ⟨_, H.m, rfl⟩ ?_)
  show wpAny _ A.in1 ((pyIter (.ref M)).tryCatch _ >>= fun it => collect it >>= fun items => joinTail (S sep) items) _ _ s
  refine wpAny_bind (wpAny_tryCatch (map_self H ?_))
  refine wpAny_bind (map_collect (by exact hh) hS (fun r q => ⟨(hr r q).1, Nat.le_trans (hr r q).2 (by decide)⟩) (Nat.le_trans hn (by decide)) H fun h' tk acc hk hst => ?_)
  obtain ⟨ps, rfl, hps⟩ := hst.pairs
  have hlen : (ps.map (·.1)).length = rs.length := by rw [hps]; simp
  have hok : Builtin.Str.tooLong ((ps.map (·.1)).toArray.foldl (· + ·.length + (S sep).length) 0) = false := by
    refine StrLaws.joinFits (B := 2000) (fun y hy => ?_) ?_
    · rw [hps] at hy
      obtain ⟨r, hr', rfl⟩ := List.mem_map.mp hy
      obtain ⟨r0, hr0, rfl⟩ := List.mem_map.mp hr'
      rw [S_length, great_length]; exact (hr r0 hr0).2
    · rw [hlen, S_length]
      have : rs.length * sep.length ≤ rs.length * 10 := Nat.mul_le_mul_left _ hsep
      omega
  have g : Gives (joinTail (S sep) (strValues ps)) (joinMade (S sep) ps) := by
    have g0 := gives_joinTail (S sep) ps hok
    cases ps with
    | nil => exact g0
    | cons p r => cases r with
      | nil => exact g0
      | cons q r' => exact g0
  refine g prg w A (wants Q E) _ (post_join ps ⟨joinFit_length hok, fun t' k => ?_⟩)
  have e : Txt.join (S sep) (ps.map (·.1)) = S (joinL sep (rs.map great)) := by
    unfold Txt.join
    rw [StrLaws.glued_eq_join, hps, join_S]
  rw [e]
  exact hQ h' t' k hk
end
end Mine

namespace Mine
set_option maxRecDepth 100000
set_option maxHeartbeats 4000000

section
variable {w : World} {A : Around} {E : Value → Shared → Prop} {s : Shared} {mg mb : Str → Option Value} {Q : Value → Shared → Prop} {l : List Nat} {t u : Tok}

/-- a method of a str, one argument -/
theorem str_meth1 {env : Env} {o e : Expr} {name : Str} {id : String} {apos pos : Pos} (hbase : attributeBase o name env (eval o env) = eval o env) (hs : starEach [e] env = [(false, eval e env)]) (hline : (apos.endLine == pos.line) = true)
    (slot : Slot "str" name id) (ty : typeOf (.builtin id) = pure (.type "method_descriptor"))
    (h : wpAny (model prg w) A (eval o env) (fun ov s₁ => ∃ x t, ov = .str x t ∧ wpAny (model prg w) A (eval e env) (fun v s₂ => wpAny (model prg w) A (call (.builtin id) [.str x t, v]) Q E s₂) E s₁) E s) :
    wpAny (model prg w) A (eval (.Call (.Attribute o name apos) [e] [] pos) env) Q E s := by
  refine Call_method1 hbase hs hline (wpAny_mono h (fun ov s₁ h₁ => ?_) fun _ _ x => x)
  obtain ⟨x, t, rfl, h₁⟩ := h₁
  exact ⟨"str", id, PySem.F.plainAttrs_str, slot, ty, typeIs_str _ _ _, (fun _ e => nomatch e), Calls.callWith_builtin rfl (Calls.evalArgs_plain (Calls.spliced_cons (wpAny_mono h₁ (fun v s₂ h₂ => Calls.spliced_nil h₂) fun _ _ x => x)))⟩

theorem cap_run {L a : Addr} {cd sv : Value} {h₀ : Heap} {rs : List (List Nat)} {sep : List Nat} (C : Ctx mg mb h₀) (hh : A.handled = none) (F : Fr h₀ L s.heap (fun y => [(Str.ofString "s", Value.str (S l) t), (Str.ofString "sep", sv)].reverse.lookup y))
    (hr : ∀ r ∈ rs, (∀ c ∈ r, c < 128) ∧ r.length ≤ 2000) (hn : rs.length ≤ 4000) (hsep : sep.length ≤ 10)
    (hor : ∀ {p1 p2 p3 : Pos} {k : Nat} {Q' E' : Value → Shared → Prop}, (∀ t' k, Q' (.str (S sep) t') { s with toks := k }) → wpAny (model prg w) A (eval (.BoolOp .Or [.Name (Str.ofString "sep") p1, .Constant (.str (Str.ofString " ")) k p2] p3) (envOf (Str.ofString "capwords") (fScope (stmtAt 3)) L a cd)) Q' E' s)
    (hsp : ∀ {s' : Shared} {Q' E' : Value → Shared → Prop}, (∀ D vs h' k, Keeps s'.heap h' → h'.IsList D vs.toArray → Strs vs rs → Q' (.ref D) { s' with heap := h', toks := k }) → wpAny (model prg w) A (call (.builtin "str.split") [.str (S l) t, sv]) Q' E' s')
    (h : ∀ t' h' tk, Keeps h₀ h' → Q (.str (S (joinL sep (rs.map great))) t') { s with heap := h', toks := tk }) :
    wpAny (model prg w) A (execs (fBody (stmtAt 3)) (envOf (Str.ofString "capwords") (fScope (stmtAt 3)) L a cd)) (fun f s' => Q (match f with | .ret v => v | _ => .none) s') E s := by
  conv in fBody _ => whnf
  refine wpAny_execs_cons (wpAny_Return_some ?_)
  refine str_meth1 rfl rfl rfl PySem.F.slot_str_join PySem.F.type_str_join (hor fun t₀ k₀ => ⟨_, _, rfl, ?_⟩)
  refine PyProof.Rows.Call_Name2 (ld_builtin_at (by exact F) C.g C.fmap C.b (C.bi _ (by decide)) ?_)
  refine _root_.PySem.callWith_type rfl (Calls.evalArgs_plain (Calls.spliced_cons ?_))
  refine Attribute_Name_ (ld_builtin_at (by exact F) C.g C.fstr C.b (C.bi _ (by decide)) (attr_capitalize ?_))
  refine Calls.spliced_cons ?_
  refine str_meth1 rfl rfl rfl PySem.F.slot_str_split PySem.F.type_str_split (ld (by exact F) rfl ⟨_, _, rfl, ld (by exact F) rfl ?_⟩)
  refine hsp fun D vs h' k hk hL hS => Calls.spliced_nil ?_
  refine call_map hL fun M T I h₂ H hk₂ hI => ?_
  refine join_map hh hS hr hn hsep H fun h₃ t₃ k₃ hk₃ => h t₃ h₃ k₃ fun b o e => ?_
  have e1 := hk b o (F.keep b o e)
  exact hk₃ b o (Nat.ne_of_lt (Nat.lt_of_lt_of_le (Heap.lt_size e1) hI)) (hk₂ b o e1)

theorem cap_nl {a : Addr} (C : Ctx mg mb s.heap) (hg : mg "capwords" = some (.ref a)) (hh : A.handled = none) (hr : A.depth < recursionLimit) (ha : ∀ c ∈ l, c < 128) (hl : l.length ≤ 2000)
    (h : ∀ t' h' tk, Keeps s.heap h' → Q (.str (S (joinL [10] ((splitNL l).map great))) t') { s with heap := h', toks := tk }) : wpAny (model prg w) A (call (.ref a) [.str (S l) t, .str (S [10]) u]) Q E s := by
  obtain ⟨a', cd, T, oT, n, h1, ⟨o, kV, doc, pm, an, ct, ho, hd, hcd⟩, hT, hTd⟩ := C.cap
  rw [hg] at h1; cases h1
  refine wpAny_call (codeAny_call_def (binds := [(Str.ofString "s", .str (S l) t), (Str.ofString "sep", .str (S [10]) u)]) hr ho hd C.lim hcd rfl ?_ (show ∀ x ∈ (fScope (stmtAt 3)).names, x.2 ≠ .cell by decide) (locs rfl) (fun h₁ hns hk₁ => ?_) rfl rfl rfl)
  · exact BindsTo.of_defaults rfl hT hTd rfl rfl
  · have F : Fr s.heap s.heap.objs.size h₁ (fun y => [(Str.ofString "s", Value.str (S l) t), (Str.ofString "sep", .str (S [10]) u)].reverse.lookup y) := ⟨hns, hk₁, Nat.le_refl _⟩
    have hb := splitNL_bound l
    refine wpAny_mono (cap_run (l := l) (rs := splitNL l) (sep := [10]) (E := fun _ _ => False) C (by exact hh) (by exact F) (fun r hr => ⟨fun c hc => ha c ((hb.2 r hr).2 c hc), by have := (hb.2 r hr).1; omega⟩) (by omega) (by decide) ?_ ?_ (fun t' h' tk hk => ?_)) (fun _ _ x => x) fun _ _ x => x.elim
    · intro p1 p2 p3 k Q' E' hq
      refine wpAny_Or2 (ld (by exact F) rfl (P.truthy_str (by decide) ?_))
      exact hq _ _
    · intro s' Q' E' hq
      exact split_nl (by omega) hq
    · exact h t' h' tk hk

theorem cap_none {a : Addr} (C : Ctx mg mb s.heap) (hg : mg "capwords" = some (.ref a)) (hh : A.handled = none) (hr : A.depth < recursionLimit) (ha : ∀ c ∈ l, ok c = true) (hl : l.length ≤ 2000)
    (h : ∀ t' h' tk, Keeps s.heap h' → Q (.str (S (joinL [32] ((wordsOf l).map great))) t') { s with heap := h', toks := tk }) : wpAny (model prg w) A (call (.ref a) [.str (S l) t]) Q E s := by
  obtain ⟨a', cd, T, oT, n, h1, ⟨o, kV, doc, pm, an, ct, ho, hd, hcd⟩, hT, hTd⟩ := C.cap
  rw [hg] at h1; cases h1
  refine wpAny_call (codeAny_call_def (binds := [(Str.ofString "s", .str (S l) t), (Str.ofString "sep", .none)]) hr ho hd C.lim hcd rfl ?_ (show ∀ x ∈ (fScope (stmtAt 3)).names, x.2 ≠ .cell by decide) (locs rfl) (fun h₁ hns hk₁ => ?_) rfl rfl rfl)
  · exact BindsTo.of_defaults rfl hT hTd rfl rfl
  · have F : Fr s.heap s.heap.objs.size h₁ (fun y => [(Str.ofString "s", Value.str (S l) t), (Str.ofString "sep", Value.none)].reverse.lookup y) := ⟨hns, hk₁, Nat.le_refl _⟩
    have hb := wordsOf_bound l
    refine wpAny_mono (cap_run (l := l) (rs := wordsOf l) (sep := [32]) (E := fun _ _ => False) C (by exact hh) (by exact F) (fun r hr => ⟨wordsOf_mem _ (fun c hc => ok_lt (ha c hc)) r hr, by have := hb.2 r hr; omega⟩) (by omega) (by decide) ?_ ?_ (fun t' h' tk hk => ?_)) (fun _ _ x => x) fun _ _ x => x.elim
    · intro p1 p2 p3 k Q' E' hq
      refine wpAny_Or2 (ld (by exact F) rfl (truthy_none ?_))
      rw [if_neg Bool.false_ne_true]
      refine wpAny_Constant_str ?_
      rw [show Str.ofString " " = S [32] by decide +kernel]
      exact hq _ _
    · intro s' Q' E' hq
      exact split_none (by omega) ha hq
    · exact h t' h' tk hk
end
end Mine

namespace Mine
set_option maxRecDepth 100000
set_option maxHeartbeats 4000000

section
variable {w : World} {A : Around} {E : Value → Shared → Prop} {s : Shared} {h₀ : Heap} {L D : Addr} {m : Str → Option Value} {news : List (Addr × Obj)} {env : Env}

/-- the iterator of a list, and the loop over it, by what holds between the turns -/
theorem loop_list {Q : Flow → Shared → Prop} {v : Str} {px : Pos} {body : List Stmt} {vs : List Value} {nD : Nat}
    (hh : A.handled = none) (hL : env.locals = L) (hv : env.kindOf v = some .local)
    (hp : (env.scope.kind == .class || (env.scope.kind == .module && env.locals != env.globals)) = false)
    (F : Fr h₀ L s.heap m) (N : News h₀ L s.heap ((D, listOf vs.toArray nD) :: news))
    (J : Nat → (Str → Option Value) → List (Addr × Obj) → Prop) (h0 : J 0 m news)
    (step : ∀ i x m₁ n₁ I oI h₁ tk₁, vs[i]? = some x → J i m₁ n₁ → Fr h₀ L h₁ (fun y => if y = v then some x else m₁ y) → News h₀ L h₁ ((I, oI) :: (D, listOf vs.toArray nD) :: n₁) → I ≠ D → (∀ p ∈ n₁, p.1 ≠ I) →
      wpAny (model prg w) A (execs body env) (fun f s₂ => f = .next ∧ ∃ h₂ tk₂ m₂ n₂, s₂ = { s with heap := h₂, toks := tk₂ } ∧ J (i + 1) m₂ n₂ ∧ Fr h₀ L h₂ m₂ ∧ News h₀ L h₂ ((I, oI) :: (D, listOf vs.toArray nD) :: n₂) ∧ ∀ p ∈ n₂, p.1 ≠ I) (fun _ _ => False) { s with heap := h₁, toks := tk₁ })
    (hQ : ∀ h' tk m' n', J vs.length m' n' → Fr h₀ L h' m' → News h₀ L h' ((D, listOf vs.toArray nD) :: n') → Q .next { s with heap := h', toks := tk }) :
    wpAny (model prg w) A (pyIter (.ref D)) (fun it s₂ => codeAny (model prg w) A (.forLoop (.Name v px) it body [] env) (fun r s' => match r with | .ok f => Q f s' | .error e => cameBackBy (model prg w) A env E e s') s₂) E s := by
  subst hL
  have hD := (N _ (.head _)).1
  refine wpAny_pyIter_list ⟨_, hD, rfl, _, rfl⟩ ?_
  have hLs : env.locals < s.heap.objs.size := F.ns.lt
  have hIL : s.heap.objs.size ≠ env.locals := Nat.ne_of_gt hLs
  have hID : s.heap.objs.size ≠ D := Nat.ne_of_gt (Heap.lt_size hD)
  have hI0 : h₀.get? s.heap.objs.size = none := Heap.get?_none_of_le (Nat.le_trans F.above (Nat.le_of_lt hLs))
  refine codeAny_forLoop (fun n s' => ∃ h' tk m' n' i oI, s' = { s with heap := h', toks := tk } ∧ h'.IsListIter s.heap.objs.size D i ∧ Fr h₀ env.locals h' m' ∧ News h₀ env.locals h' ((s.heap.objs.size, oI) :: (D, listOf vs.toArray nD) :: n') ∧
      (∀ p ∈ n', p.1 ≠ s.heap.objs.size) ∧ J i m' n' ∧ i ≤ vs.length ∧ n = vs.length + 1 - i) ?_ (vs.length + 1) ?_
  · rintro n s' ⟨h', tk, m', n', i, oI, rfl, hit, F', N', hne, hJ, hi, rfl⟩
    have hne' : ∀ p ∈ (D, listOf vs.toArray nD) :: n', p.1 ≠ s.heap.objs.size := by
      intro p hp
      rcases List.mem_cons.mp hp with rfl | hp
      · exact Ne.symm hID
      · exact hne p hp
    have hD' : h'.IsList D vs.toArray := ⟨_, (N' _ (.tail _ (.head _))).1, rfl, _, rfl⟩
    cases hc : vs[i]? with
    | none =>
      have hsz : i = vs.length := Nat.le_antisymm hi (by simpa using hc)
      refine wpAny_pyNext_list_end hh hit hD' (by simpa using hc) fun h₁ he₁ => wpAny_execs_nil ?_
      exact hQ h₁ tk m' n' (hsz ▸ hJ) (fr_extBut F' he₁ hIL hI0) (news_extBut (news_tail N') he₁ hne')
    | some c =>
      have hlt : i < vs.length := (List.getElem?_eq_some_iff.mp hc).1
      refine wpAny_pyNext_list_item hit hD' (x := c) (by simpa using hc) fun h₁ hit₁ hs₁ => ?_
      obtain ⟨oI', hoI', _⟩ := id hit₁
      have F₁ := F'.change hs₁ hIL hI0
      have N₁ := news_sameBut N' hs₁ hne' hoI'
      refine wpAny_assign_Name (wpAny_storeName_local hv F₁.ns (fun h₂ hn₂ hs₂ => ?_) hp)
      refine wpAny_mono (step i c m' n' _ oI' h₂ _ hc hJ (F₁.set hn₂ hs₂) (N₁.set hs₂) hID hne) (fun f s₃ h₃ => ?_) fun _ _ e => e.elim
      obtain ⟨rfl, h₃', tk₃, m₂, n₂, rfl, hJ₂, F₂, N₂, hne₂⟩ := h₃
      refine ⟨vs.length + 1 - (i + 1), by omega, h₃', tk₃, m₂, n₂, i + 1, oI', rfl, ?_, F₂, N₂, hne₂, hJ₂, hlt, rfl⟩
      obtain ⟨o2, ho2, r2⟩ := hit₁
      rw [hoI'] at ho2; cases ho2
      exact ⟨oI', (N₂ _ (.head _)).1, r2⟩
  · refine ⟨_, s.toks, m, news, 0, _, rfl, ⟨_, Heap.get?_push_size _ rfl, rfl, rfl⟩, F.push _, N.push F _, fun p hp => ?_, h0, Nat.zero_le _, rfl⟩
    exact Nat.ne_of_lt (Heap.lt_size (N p (.tail _ hp)).1)
end
end Mine

namespace Mine
set_option maxRecDepth 100000
set_option maxHeartbeats 4000000

def lParams : Expr → Arguments
  | .Lambda p _ _ _ => p
  | _ => default
def lBody : Expr → Expr
  | .Lambda _ b _ _ => b
  | e => e
def lScope : Expr → Scope
  | .Lambda _ _ s _ => s
  | _ => default
def lPos : Expr → Pos
  | .Lambda _ _ _ p => p
  | _ => ⟨0, 0, 0, 0⟩
def firstVal : List Stmt → Expr
  | .Assign _ v _ :: _ => v
  | _ => .Constant .none 0 ⟨0, 0, 0, 0⟩
def ifBody : Stmt → List Stmt
  | .If _ b _ _ => b
  | _ => []
/-- indent's own predicate -/
def lam1 : Expr := firstVal (ifBody ((fBody (stmtAt 1)).getD 0 (.Pass ⟨0, 0, 0, 0⟩)))
def testLeft : Stmt → Expr
  | .If (.Compare l _ _ _) _ _ _ => l
  | _ => .Constant .none 0 ⟨0, 0, 0, 0⟩
def callArgs : Expr → List Expr
  | .Call _ as _ _ => as
  | _ => []
/-- the predicate that the law hands over -/
def lam2 : Expr := (callArgs (testLeft ((fBody (stmtAt 9)).getD 11 (.Pass ⟨0, 0, 0, 0⟩)))).getD 2 (.Constant .none 0 ⟨0, 0, 0, 0⟩)

section
variable {w : World} {A : Around} {E : Value → Shared → Prop} {s : Shared} {Q : Value → Shared → Prop}

theorem lam_call {f c' : Addr} {nm qual : Str} {params : Arguments} {body : Expr} {scope : Scope} {pm ctv : Value} {args : List Value} {binds : List (Str × Value)} (hroom : A.depth < recursionLimit)
    (ho : s.heap.get? f = some (kla_obj nm qual params body scope [] pm c' ctv)) (hcd : s.heap.CodeRec (.ref c') qual) (hlim : s.heap.NoLimit)
    (hbind : bindArgs (kla_fn nm qual params body scope [] pm (.ref c') ctv) ⟨args, []⟩ = pure binds) (hcell : ∀ x ∈ scope.names, x.2 ≠ .cell) (hloc : ∀ x ∈ binds, scope.names.lookup x.1 = some .local)
    (hco : scope.isCoroutine = false) (hgen : scope.isGenerator = false) (hk : scope.kind = .function)
    (h : ∀ h₁, Fr s.heap s.heap.objs.size h₁ (fun y => binds.reverse.lookup y) →
      wpAny (model prg w) (A.deeper (envOf qual scope s.heap.objs.size f (.ref c'))) (eval body (envOf qual scope s.heap.objs.size f (.ref c'))) Q (fun _ _ => False) { s with heap := h₁, toks := s.toks + binds.length }) :
    wpAny (model prg w) A (call (.ref f) args) Q E s := by
  refine wpAny_call (kla_callFunE hroom ho rfl hco hgen rfl hcd ?_)
  rw [hbind]
  refine wpAny_pure (wpAny_newFunctionEnv hcell hloc (fun h₁ hns hsb => ⟨hlim.fresh _ hsb, ?_⟩) hk)
  have hk₁ : Keeps s.heap h₁ := fun b o e => hsb.extBut b o (Nat.ne_of_lt (Heap.lt_size e)) (Heap.get?_push_of_some _ e)
  show codeAny _ _ (.expr body (envOf qual scope s.heap.objs.size f (.ref c'))) _ _
  exact kla_codeExpr (wpAny_mono (h h₁ ⟨hns, hk₁, Nat.le_refl _⟩) (fun _ _ x => x) fun _ _ x => x.elim)

/-- not s.isspace() -/
theorem pred1 {f c' : Addr} {nm qual : Str} {pm ctv : Value} {r : List Nat} {t : Tok} (hroom : A.depth < recursionLimit)
    (ho : s.heap.get? f = some (kla_obj nm qual (lParams lam1) (lBody lam1) (lScope lam1) [] pm c' ctv)) (hcd : s.heap.CodeRec (.ref c') qual) (hlim : s.heap.NoLimit)
    (h : ∀ h' tk, Keeps s.heap h' → Q (.bool (!(Txt.isspace (S r)))) { s with heap := h', toks := tk }) : wpAny (model prg w) A (call (.ref f) [.str (S r) t]) Q E s := by
  refine lam_call (binds := [(Str.ofString "s", .str (S r) t)]) hroom ho hcd hlim rfl (by decide) (locs rfl) rfl rfl rfl fun h₁ F => ?_
  conv in lBody _ => whnf
  refine UnaryOp_ (Call_method0 rfl rfl (ld (by exact F) rfl ⟨"str", "str.isspace", PySem.F.plainAttrs_str, PySem.F.slot_str_isspace, PySem.F.type_str_isspace, typeIs_str _ _ _, (fun _ e => nomatch e), Calls.callWith_builtin rfl (evalArgs_nil3 (SC.isspace (not_of (wpAny_truthy_bool ?_))))⟩))
  exact h h₁ _ F.keep

/-- capwords(row, '\n') != row -/
theorem pred2 {mg mb : Str → Option Value} {f c' : Addr} {nm qual : Str} {pm ctv : Value} {r : List Nat} {t : Tok} (hh : A.handled = none) (hroom : A.depth + 1 < recursionLimit)
    (ho : s.heap.get? f = some (kla_obj nm qual (lParams lam2) (lBody lam2) (lScope lam2) [] pm c' ctv)) (hcd : s.heap.CodeRec (.ref c') qual) (C : Ctx mg mb s.heap) (ha : ∀ c ∈ r, c < 128) (hl : r.length ≤ 2000)
    (h : ∀ h' tk, Keeps s.heap h' → Q (.bool (!decide (joinL [10] ((splitNL r).map great) = r))) { s with heap := h', toks := tk }) : wpAny (model prg w) A (call (.ref f) [.str (S r) t]) Q E s := by
  refine lam_call (binds := [(Str.ofString "row", .str (S r) t)]) (by omega) ho hcd C.lim rfl (by decide) (locs rfl) rfl rfl rfl fun h₁ F => ?_
  obtain ⟨ac, cdc, T, oT, n, hg, hfn, hT, hTd⟩ := C.cap
  obtain ⟨oc, _, _, _, _, _, hoc, hdc, _⟩ := id hfn
  conv in lBody _ => whnf
  refine wpAny_Compare1 (PyProof.Rows.Call_Name2 (ld_global_at (by exact F) C.g hg ?_))
  refine Calls.callWith_function (o := oc) (Calls.evalArgs_plain (Calls.spliced_cons (ld (by exact F) rfl (Calls.spliced_cons (wpAny_Constant_str (Calls.spliced_nil ⟨⟨F.keep _ _ hoc, hdc⟩, ?_⟩))))))
  rw [show Str.ofString "\n" = S [10] by decide +kernel]
  refine cap_nl (C.keeps F.keep) hg (by exact hh) (by exact hroom) ha hl fun t' h' tk hk => ?_
  refine ld (by exact F.after hk) rfl (neS rfl ?_)
  exact h h' tk (Keeps.trans F.keep hk)
end
end Mine

namespace Mine
set_option maxRecDepth 100000
set_option maxHeartbeats 4000000

section
variable {w : World} {A : Around} {E : Value → Shared → Prop} {s : Shared} {Q : Value → Shared → Prop} {l : List Nat} {t : Tok}
open Builtin Builtin.Str in
theorem splitlines_keep_tree (x : Str) (t : Tok) : «str.splitlines» ⟨[.str x t, .bool true], []⟩ = (do
    if (true && ((lineSpans x).map fun (i, j, k) => (i, if true = true then k else j)) == [(0, x.length)]) = true then (do rule "str.splitlines.same-object"; ret (← newList [.str x t]))
    else ret (← newList (← ((lineSpans x).map fun (i, j, k) => (i, if true = true then k else j)).mapM fun (i, j) => mkStr (strSub x i j)))) := rfl

theorem rowsOf_len (l : List Nat) : (rowsOf l).length ≤ l.length + 1 := by
  have := rstep_len l ([], [])
  simp only [List.length_nil, Nat.add_zero, Nat.zero_add] at this
  unfold rowsOf
  dsimp only
  split <;> simp <;> omega

open Builtin Builtin.Str in
theorem splitlines_keep (hl : l.length ≤ 10000) (ho : ∀ c ∈ l, ok c = true)
    (h : ∀ D vs n h' k, Keeps s.heap h' → s.heap.get? D = none → h'.get? D = some (listOf vs.toArray n) → Strs vs (rowsOf l) → Q (.ref D) { s with heap := h', toks := k }) :
    wpAny (model prg w) A (call (.builtin "str.splitlines") [.str (S l) t, .bool true]) Q E s := by
  have hfresh : s.heap.get? s.heap.objs.size = none := Heap.get?_none_of_le (Nat.le_refl _)
  have hcuts : ((lineSpans (S l)).map fun (i, j, k) => (i, if true = true then k else j)) = keepCuts (S l) := rfl
  have hlen : (keepCuts (S l)).length = (rowsOf l).length := by
    have := congrArg List.length (lines_eq ho); simpa using this
  have hrl := rowsOf_len l
  refine wpAny_call_entry F.slot_str_splitlines (typeIs_str _ _ _) F.entry_str_splitlines ?_ (F.args_str_splitlines_2 _ _)
  rw [splitlines_keep_tree, hcuts]
  have hle := lines_eq ho
  cases hc : keepCuts (S l) == [(0, (S l).length)]
  · show wpAny _ _ (do ret (← newList (← (keepCuts (S l)).mapM fun (i, j) => mkStr (strSub (S l) i j)))) _ _ s
    refine wpAny_bind (wpAny_mapM_mkStr_of (fun (p : Nat × Nat) => strSub (S l) p.1 p.2) (fun p => Nat.le_trans (strSub_length_le ..) (by rw [S_length, sizeLine_eq]; omega)) _ _ _ (wpAny_bind (wpAny_newList (wpAny_pure ⟨_, rfl, ?_⟩) (by rw [strsFrom_length, List.length_map, hlen, sizeLine_eq]; omega))))
    rw [strsFrom_eq]
    exact h _ _ _ _ _ (fun b o e => Heap.get?_push_of_some _ e) hfresh (Heap.get?_push_size _ rfl) (strs_of ((numbered_texts _ _).trans hle))
  · show wpAny _ _ (do rule "str.splitlines.same-object"; ret (← newList [.str (S l) t])) _ _ s
    refine wpAny_bind (wpAny_rule (wpAny_bind (wpAny_newList (wpAny_pure ⟨_, rfl, ?_⟩) (by show 1 ≤ sizeLine; decide))))
    refine h _ [.str (S l) t] _ _ s.toks (fun b o e => Heap.get?_push_of_some _ e) hfresh (Heap.get?_push_size _ rfl) (strs_of (ps := [(S l, t)]) ?_)
    rw [← hle, eq_of_beq hc]
    show [S l] = [strSub (S l) 0 (S l).length]
    rw [StrLaws.sub_whole]
end

section
variable {w : World} {A : Around} {s : Shared} {h₀ : Heap} {L a D : Addr} {cd : Value} {m : Str → Option Value} {nm x : Str} {sc : Scope} {vs : List Value} {n : Nat} {news news' : List (Addr × Obj)}
  {E : Value → Shared → Prop} {Q : Flow → Shared → Prop}
/-- x.append(V), anywhere in the ledger -/
theorem list_appendU {p1 p2 p3 p4 : Pos} {e : Expr} {v : Value} (hsc : sc.kind = .function) (hx : (envOf nm sc L a cd).kindOf x = some .local) (hd : (x == ("__debug__" : Str)) = false) (he : starEach [e] (envOf nm sc L a cd) = [(false, eval e (envOf nm sc L a cd))])
    (hb : attributeBase (.Name x p1) "append" (envOf nm sc L a cd) (eval (.Name x p1) (envOf nm sc L a cd)) = eval (.Name x p1) (envOf nm sc L a cd)) (hp : (p2.endLine == p3.line) = true)
    (hsw : swapsWith (.Call (.Attribute (.Name x p1) "append" p2) [e] [] p3) none p4.line (envOf nm sc L a cd) = pure false)
    (F : Fr h₀ L s.heap m) (N : News h₀ L s.heap news) (hmem : (D, listOf vs.toArray n) ∈ news) (U : Upd D (listOf vs.toArray n) (listOf (vs ++ [v]).toArray (n + 1)) news news') (hm : m x = some (.ref D)) (hr : vs.length ≤ 20000)
    (hv : ∀ Q' : Value → Shared → Prop, (∀ k, Q' v { s with toks := k }) → wpAny (model prg w) A (eval e (envOf nm sc L a cd)) Q' E s)
    (h : ∀ h' k', Fr h₀ L h' m → News h₀ L h' news' → Q .next { s with heap := h', toks := k' }) :
    wpAny (model prg w) A (exec (.Expr (.Call (.Attribute (.Name x p1) "append" p2) [e] [] p3) p4) (envOf nm sc L a cd)) Q E s := by
  have hD : s.heap.get? D = some (listOf vs.toArray n) := (N _ hmem).1
  refine wpAny_Expr (wpAny_Call_append hb (by rw [he]; rfl) hp (by rw [he]; rfl) (ld F hm ⟨D, vs.toArray, rfl, ⟨_, n, hD, rfl, rfl, rfl⟩, hv _ fun k => ?_⟩ hsc hx hd)) ?_ hsw
  · refine append_K (news' := news') (by exact F) (by exact N) (by rw [List.push_toArray]; exact U) (fun h' F' N' => ?_) (by rw [List.size_toArray, sizeLine_eq]; omega)
    exact h h' k F' N'
  · unfold interactive; rw [show (envOf nm sc L a cd).scope = sc from rfl, hsc]; rfl
end
end Mine

namespace Mine
set_option maxRecDepth 100000
set_option maxHeartbeats 4000000

theorem rstep_mem (P : Nat → Prop) (l : List Nat) (hl : ∀ c ∈ l, P c) : ∀ p : List (List Nat) × List Nat, (∀ r ∈ p.1 ++ [p.2], ∀ c ∈ r, P c) → ∀ r ∈ (l.foldl rstep p).1 ++ [(l.foldl rstep p).2], ∀ c ∈ r, P c := by
  induction l with
  | nil => intro p h; exact h
  | cons c l ih =>
    intro p h
    refine ih (fun c hc => hl c (.tail _ hc)) (rstep p c) ?_
    obtain ⟨d, cur⟩ := p
    have hc := hl c (.head _)
    have hcur : ∀ c' ∈ cur ++ [c], P c' := by
      intro c' hc'
      rcases List.mem_append.mp hc' with hc' | hc'
      · exact h cur (by simp) c' hc'
      · rw [List.mem_singleton.mp hc']; exact hc
    unfold rstep
    split
    · intro r hr
      simp only [List.mem_append, List.mem_singleton] at hr
      rcases hr with (hr | rfl) | rfl
      · exact h r (List.mem_append_left _ hr)
      · exact hcur
      · intro c hc; cases hc
    · intro r hr
      simp only [List.mem_append, List.mem_singleton] at hr
      rcases hr with hr | rfl
      · exact h r (List.mem_append_left _ hr)
      · exact hcur
theorem rowsOf_mem (P : Nat → Prop) {l : List Nat} (hl : ∀ c ∈ l, P c) : ∀ r ∈ rowsOf l, ∀ c ∈ r, P c := by
  have := rstep_mem P l hl ([], []) (by simp)
  intro r hr
  unfold rowsOf at hr
  dsimp only at hr
  split at hr
  · exact this r (List.mem_append_left _ hr)
  · exact this r hr
theorem rstep_bound (l : List Nat) : ∀ (n : Nat) (p : List (List Nat) × List Nat), (∀ r ∈ p.1 ++ [p.2], r.length ≤ n) → ∀ r ∈ (l.foldl rstep p).1 ++ [(l.foldl rstep p).2], r.length ≤ n + l.length := by
  induction l with
  | nil => intro n p h; exact h
  | cons c l ih =>
    intro n p h r hr
    obtain ⟨d, cur⟩ := p
    have := ih (n + 1) (rstep (d, cur) c) ?_ r hr
    · simp only [List.length_cons]; omega
    · have hcur := h cur (by simp)
      unfold rstep
      split
      · intro r hr
        simp only [List.mem_append, List.mem_singleton] at hr
        rcases hr with (hr | rfl) | rfl
        · exact Nat.le_succ_of_le (h r (List.mem_append_left _ hr))
        · simp; omega
        · simp
      · intro r hr
        simp only [List.mem_append, List.mem_singleton] at hr
        rcases hr with hr | rfl
        · exact Nat.le_succ_of_le (h r (List.mem_append_left _ hr))
        · simp; omega
theorem rowsOf_bound (l : List Nat) : ∀ r ∈ rowsOf l, r.length ≤ l.length := by
  have := rstep_bound l 0 ([], []) (by simp)
  intro r hr
  have h2 : r.length ≤ 0 + l.length := by
    unfold rowsOf at hr
    dsimp only at hr
    split at hr
    · exact this r (List.mem_append_left _ hr)
    · exact this r hr
  omega

/-- indent's list: the prefix ahead of the rows that p takes -/
def indOut (p : List Nat → Bool) (pre : List Nat) (rs : List (List Nat)) : List (List Nat) := rs.flatMap fun r => if p r = true then [pre, r] else [r]
theorem indOut_snoc (p : List Nat → Bool) (pre : List Nat) (rs : List (List Nat)) (r : List Nat) : indOut p pre (rs ++ [r]) = indOut p pre rs ++ (if p r = true then [pre, r] else [r]) := by
  simp [indOut]
theorem indOut_len (p : List Nat → Bool) (pre : List Nat) : ∀ rs : List (List Nat), (indOut p pre rs).length ≤ 2 * rs.length
  | [] => by simp [indOut]
  | r :: rs => by
    have ih := indOut_len p pre rs
    simp only [indOut, List.flatMap_cons, List.length_append, List.length_cons] at ih ⊢
    split <;> simp only [List.length_cons, List.length_nil] <;> omega
theorem indOut_bound {n : Nat} {p : List Nat → Bool} {pre : List Nat} {rs : List (List Nat)} (h1 : pre.length ≤ n) (h2 : ∀ r ∈ rs, r.length ≤ n) : ∀ x ∈ indOut p pre rs, x.length ≤ n := by
  intro x hx
  unfold indOut at hx
  obtain ⟨r, hr, hx⟩ := List.mem_flatMap.mp hx
  split at hx
  · simp only [List.mem_cons, List.not_mem_nil, or_false] at hx
    rcases hx with rfl | rfl
    · exact h1
    · exact h2 _ hr
  · simp only [List.mem_singleton] at hx
    rw [hx]; exact h2 _ hr
theorem joinL_nil : ∀ rs : List (List Nat), joinL [] rs = rs.flatten
  | [] => rfl
  | [x] => by simp [joinL]
  | x :: y :: r => by
    show x ++ [] ++ joinL [] (y :: r) = _
    rw [joinL_nil (y :: r)]; simp

section
variable {w : World} {A : Around} {E : Value → Shared → Prop} {s : Shared} {Q : Value → Shared → Prop}
/-- ''.join of a list of texts -/
theorem join_list {D : Addr} {vs : List Value} {rs : List (List Nat)} {sep : List Nat} {t : Tok} (hl : s.heap.IsList D vs.toArray) (hS : Strs vs rs) (hr : ∀ r ∈ rs, r.length ≤ 2000) (hn : rs.length ≤ 5000) (hsep : sep.length ≤ 10)
    (hQ : ∀ t' k, Q (.str (S (joinL sep rs)) t') { s with toks := k }) : wpAny (model prg w) A (call (.builtin "str.join") [.str (S sep) t, .ref D]) Q E s := by
  obtain ⟨ps, rfl, hps⟩ := hS.pairs
  refine SC.join hl hps ?_ fun t' k => ?_
  · unfold JoinOk
    rw [Bool.not_eq_true']
    refine StrLaws.joinFits (B := 2000) (fun y hy => ?_) ?_
    · obtain ⟨r, hr', rfl⟩ := List.mem_map.mp hy
      rw [S_length]; exact hr r hr'
    · rw [List.length_map, S_length]
      have : rs.length * sep.length ≤ rs.length * 10 := Nat.mul_le_mul_left _ hsep
      omega
  · have e : Txt.join (S sep) (rs.map S) = S (joinL sep rs) := by unfold Txt.join; rw [StrLaws.glued_eq_join, join_S]
    rw [e]; exact hQ t' k
end

section
variable {w : World} {A : Around} {s : Shared} {h₀ : Heap} {L a f : Addr} {cd : Value} {m : Str → Option Value} {rest : List (Addr × Obj)} {l pre : List Nat} {t tp : Tok} {p : List Nat → Bool} {Q : Flow → Shared → Prop}

theorem ind_rest (hh : A.handled = none) (F : Fr h₀ L s.heap m) (N : News h₀ L s.heap rest) (hmt : m (Str.ofString "text") = some (.str (S l) t)) (hmp : m (Str.ofString "prefix") = some (.str (S pre) tp)) (hmf : m (Str.ofString "predicate") = some (.ref f))
    (hfo : ∀ h, Keeps h₀ h → (∀ q ∈ rest, h.get? q.1 = some q.2) → ∃ fo fd, h.get? f = some fo ∧ fo.data = .func fd)
    (hpred : ∀ (s' : Shared) (r : List Nat) (t : Tok) (Q' E' : Value → Shared → Prop), Keeps h₀ s'.heap → (∀ q ∈ rest, s'.heap.get? q.1 = some q.2) → (∀ c ∈ r, ok c = true) → r.length ≤ 2000 →
      (∀ h' tk, Keeps s'.heap h' → Q' (.bool (p r)) { s' with heap := h', toks := tk }) → wpAny (model prg w) A (call (.ref f) [.str (S r) t]) Q' E' s')
    (ho : ∀ c ∈ l, ok c = true) (hl : l.length ≤ 2000) (hpre : pre.length ≤ 10)
    (h : ∀ t' h' tk m', Fr h₀ L h' m' → News h₀ L h' rest → Q (.ret (.str (S (indOut p pre (rowsOf l)).flatten) t')) { s with heap := h', toks := tk }) :
    wpAny (model prg w) A (execs (fBody (stmtAt 1)).tail (envOf (Str.ofString "indent") (fScope (stmtAt 1)) L a cd)) Q (fun _ _ => False) s := by
  have hrb := rowsOf_bound l
  have hrl := rowsOf_len l
  have e0 : Str.ofString "" = S [] := by decide +kernel
  conv in List.tail _ => whnf
  refine wpAny_execs_cons (wpAny_Assign_Name (List_ (args_nil (newList_K (by exact F) (by exact N) (fun P h' F₁ N₁ hPlt => stN (by exact F₁) (by exact N₁) fun h' F' N' => wpAny_execs_cons ?_) (by show 0 ≤ sizeLine; decide)))))
  have hPr : ∀ q ∈ rest, q.1 ≠ P := fun q hq => Nat.ne_of_lt (hPlt q hq)
  have hmt' : (fun y => if y = Str.ofString "prefixed_lines" then some (Value.ref P) else m y) (Str.ofString "text") = some (.str (S l) t) := (if_neg (by decide)).trans hmt
  have hmp' : (fun y => if y = Str.ofString "prefixed_lines" then some (Value.ref P) else m y) (Str.ofString "prefix") = some (.str (S pre) tp) := (if_neg (by decide)).trans hmp
  have hmf' : (fun y => if y = Str.ofString "prefixed_lines" then some (Value.ref P) else m y) (Str.ofString "predicate") = some (.ref f) := (if_neg (by decide)).trans hmf
  refine wpAny_For (str_meth1 rfl rfl rfl PySem.F.slot_str_splitlines PySem.F.type_str_splitlines (ld F' hmt' ⟨_, _, rfl, wpAny_Constant_bool (splitlines_keep (by omega) ho fun D vs n h₂ k₂ hk₂ hfr hD hS => ?_)⟩)) (fun _ => rfl)
  have hDP : D ≠ P := fun q => by
    have := (N' _ (.head _)).1
    rw [← q] at this; rw [this] at hfr; cases hfr
  refine loop_list (L := L) (m := fun y => if y = Str.ofString "prefixed_lines" then some (Value.ref P) else m y) hh rfl rfl rfl (by exact F'.after hk₂) (by exact news_fresh F' N' hfr hk₂ hD)
    (fun i m n => ∃ pl k, n = (P, listOf pl.toArray k) :: rest ∧ m (Str.ofString "prefixed_lines") = some (.ref P) ∧ m (Str.ofString "prefix") = some (.str (S pre) tp) ∧ m (Str.ofString "predicate") = some (.ref f) ∧
      Strs pl (indOut p pre ((rowsOf l).take i))) ⟨[], 0, rfl, if_pos rfl, hmp', hmf', .nil⟩ ?_ ?_
  · rintro i x m₁ n₁ I oI h₁ tk₁ hx ⟨pl, k, rfl, hm1, hm2, hm3, hpl⟩ F₁ N₁ hID hne
    obtain ⟨r, tr, rfl, hri⟩ := hS.get hx
    have hi : i < (rowsOf l).length := (List.getElem?_eq_some_iff.mp hri).1
    have htk : (rowsOf l).take (i + 1) = (rowsOf l).take i ++ [r] := by rw [List.take_add_one, hri]; rfl
    have hrm := List.mem_of_getElem? hri
    have hrow : ∀ c ∈ r, ok c = true := rowsOf_mem (fun c => ok c = true) ho r hrm
    have hIP : I ≠ P := Ne.symm (hne _ (.head _))
    have hplen : pl.length ≤ 2 * i := by
      have := hpl.length
      have h2 := indOut_len p pre ((rowsOf l).take i)
      rw [List.length_take] at h2; omega
    have hm1' : (fun y => if y = Str.ofString "line" then some (Value.str (S r) tr) else m₁ y) (Str.ofString "prefixed_lines") = some (.ref P) := (if_neg (by decide)).trans hm1
    have hm2' : (fun y => if y = Str.ofString "line" then some (Value.str (S r) tr) else m₁ y) (Str.ofString "prefix") = some (.str (S pre) tp) := (if_neg (by decide)).trans hm2
    have hm3' : (fun y => if y = Str.ofString "line" then some (Value.str (S r) tr) else m₁ y) (Str.ofString "predicate") = some (.ref f) := (if_neg (by decide)).trans hm3
    have hrest : ∀ q ∈ rest, h₁.get? q.1 = some q.2 := fun q hq => (N₁ q (.tail _ (.tail _ (.tail _ hq)))).1
    obtain ⟨fo, fd, hfo1, hfo2⟩ := hfo h₁ F₁.keep hrest
    have upd : ∀ {vs₁ vs₂ : List Value} {k₁ k₂ : Nat}, Upd P (listOf vs₁.toArray k₁) (listOf vs₂.toArray k₂) ((I, oI) :: (D, listOf vs.toArray n) :: (P, listOf vs₁.toArray k₁) :: rest) ((I, oI) :: (D, listOf vs.toArray n) :: (P, listOf vs₂.toArray k₂) :: rest) :=
      Upd.tail hIP (Upd.tail hDP (Upd.head hPr))
    have fin : ∀ {h₃ : Heap} {k₃ : Nat} {pl' : List Value} {k' : Nat}, Fr h₀ L h₃ (fun y => if y = Str.ofString "line" then some (Value.str (S r) tr) else m₁ y) → News h₀ L h₃ ((I, oI) :: (D, listOf vs.toArray n) :: (P, listOf pl'.toArray k') :: rest) → pl'.length ≤ 2 * i + 1 →
        Strs (pl' ++ [.str (S r) tr]) (indOut p pre ((rowsOf l).take (i + 1))) →
        wpAny (model prg w) A (execs ((fOr ((fBody (stmtAt 1)).getD 2 (.Pass ⟨0, 0, 0, 0⟩))).tail) (envOf (Str.ofString "indent") (fScope (stmtAt 1)) L a cd))
          (fun f_1 s₂ => f_1 = .next ∧ ∃ h₂' tk₂ m₂ n₂, s₂ = { s with heap := h₂', toks := tk₂ } ∧ (∃ pl k, n₂ = (P, listOf pl.toArray k) :: rest ∧ m₂ (Str.ofString "prefixed_lines") = some (.ref P) ∧ m₂ (Str.ofString "prefix") = some (.str (S pre) tp) ∧ m₂ (Str.ofString "predicate") = some (.ref f) ∧
            Strs pl (indOut p pre ((rowsOf l).take (i + 1)))) ∧ Fr h₀ L h₂' m₂ ∧ News h₀ L h₂' ((I, oI) :: (D, listOf vs.toArray n) :: n₂) ∧ ∀ q ∈ n₂, q.1 ≠ I) (fun _ _ => False) { s with heap := h₃, toks := k₃ } := by
      intro h₃ k₃ pl' k' F₃ N₃ hlen hst
      conv in List.tail _ => whnf
      refine wpAny_execs_cons (list_appendU (v := .str (S r) tr) rfl rfl rfl rfl rfl rfl rfl F₃ N₃ (.tail _ (.tail _ (.head _))) upd hm1' (by omega) (fun Q' hq => ld F₃ (if_pos rfl) (hq _)) fun h₄ k₄ F₄ N₄ => wpAny_execs_nil ?_)
      refine ⟨rfl, h₄, k₄, (fun y => if y = Str.ofString "line" then some (Value.str (S r) tr) else m₁ y), _, rfl, ⟨_, _, rfl, hm1', hm2', hm3', hst⟩, F₄, N₄, ?_⟩
      intro q hq
      rcases List.mem_cons.mp hq with rfl | hq
      · exact Ne.symm hIP
      · exact hne q (.tail _ hq)
    conv in execs _ _ => arg 1; whnf
    refine wpAny_execs_cons (wpAny_If (wpAny_isTrue_value (PyProof.Rows.Call_Name1 (ld F₁ hm3' ?_))))
    refine Calls.callWith_function (o := fo) (Calls.evalArgs_plain (Calls.spliced_cons (ld F₁ (if_pos rfl) (Calls.spliced_nil ⟨⟨hfo1, hfo2⟩, ?_⟩))))
    refine hpred _ r tr _ _ F₁.keep hrest hrow (Nat.le_trans (hrb r hrm) hl) fun h₃ k₃ hk₃ => wpAny_truthy_bool ?_
    have F₃ := F₁.after hk₃
    have N₃ := news_keeps N₁ hk₃
    by_cases hp : p r = true
    · rw [if_pos hp]
      refine wpAny_execs_cons (list_appendU (v := .str (S pre) tp) rfl rfl rfl rfl rfl rfl rfl F₃ N₃ (.tail _ (.tail _ (.head _))) upd hm1' (by omega) (fun Q' hq => ld F₃ hm2' (hq _)) fun h₄ k₄ F₄ N₄ => wpAny_execs_nil ?_)
      exact fin F₄ N₄ (by simp; omega) (by rw [htk, indOut_snoc, if_pos hp]; simpa using (hpl.snoc pre tp).snoc r tr)
    · rw [if_neg hp]
      exact wpAny_execs_nil (fin F₃ N₃ (by omega) (by rw [htk, indOut_snoc, if_neg hp]; exact hpl.snoc r tr))
  · rintro h₃ tk m' n' ⟨pl, k, rfl, hm1, -, -, hpl⟩ F₃ N₃
    rw [hS.length, List.take_length] at hpl
    have hP := (N₃ _ (.tail _ (.head _))).1
    refine wpAny_execs_cons (wpAny_Return_some (str_meth1 rfl rfl rfl PySem.F.slot_str_join PySem.F.type_str_join (wpAny_Constant_str ⟨_, _, rfl, ld (by exact F₃) hm1 ?_⟩)))
    rw [e0]
    refine join_list ⟨_, hP, rfl, _, rfl⟩ hpl (indOut_bound (by omega) fun r hr => Nat.le_trans (hrb r hr) hl) (by have := indOut_len p pre (rowsOf l); omega) (by decide) fun t' k' => ?_
    rw [joinL_nil]
    exact h t' h₃ _ m' F₃ fun q hq => N₃ q (.tail _ (.tail _ hq))
end
end Mine

namespace Mine
set_option maxRecDepth 100000
set_option maxHeartbeats 4000000

structure CtxI (mg mb : Str → Option Value) (P : Addr) (h : Heap) : Prop where
  c : Ctx mg mb h
  top : ∃ p loose mean, Top p loose mean mg mb h
  ind : ∃ a cd T o n, mg "indent" = some (.ref a) ∧ FnAt h a 1 "indent" (.ref T) (.ref cd) ∧ h.get? T = some o ∧ o.data = .seq #[.none] n ∧ CodeHd h cd P
theorem CtxI.keeps {mg mb : Str → Option Value} {P : Addr} {h h' : Heap} (C : CtxI mg mb P h) (k : Keeps h h') : CtxI mg mb P h' where
  c := C.c.keeps k
  top := let ⟨p, loose, mean, T⟩ := C.top; ⟨p, loose, mean, T.keeps k⟩
  ind := let ⟨a, cd, T, o, n, h1, h2, h3, h4, h5⟩ := C.ind; ⟨a, cd, T, o, n, h1, h2.keeps k, k _ _ h3, h4, h5.keeps k⟩

abbrev q1 : Str := Str.ofString "indent" ++ ".<locals>." ++ "<lambda>"
/-- the table of indent's own code: empty, or its one lambda's code noted -/
def TabI (h : Heap) (P : Addr) : Prop := ∃ ps, h.get? P = some (tabObj ps) ∧ (ps = #[] ∨ ∃ c', ps = #[rawInt (lPos lam1).line, rawInt (lPos lam1).col, .ref c'] ∧ h.CodeRec (.ref c') q1)

section
variable {w : World} {A : Around} {E : Value → Shared → Prop} {s : Shared} {mg mb : Str → Option Value} {Q : Value → Shared → Prop} {l pre : List Nat} {t tp : Tok} {P : Addr} {hb : Heap}

theorem is_none_if {L a : Addr} {cd : Value} {h₀ : Heap} {m : Str → Option Value} {p1 p2 p3 : Pos} {k : Nat} {wh : Sem Value} {v : Value} {Q' : Bool → Shared → Prop} {E' : Value → Shared → Prop} (F : Fr h₀ L s.heap m) (hm : m (Str.ofString "predicate") = some v) (h : Q' (v == .none) s) :
    wpAny (model prg w) A (isTrue (.Compare (.Name (Str.ofString "predicate") p1) [.Is] [.Constant .none k p2] p3) (envOf (Str.ofString "indent") (fScope (stmtAt 1)) L a cd) wh) Q' E' s :=
  wpAny_isTrue_Compare1 (ld F hm (wpAny_Constant_none (is_none (wpAny_truthy_bool h))))

/-- indent with a predicate handed over -/
theorem ind_call2 {a f : Addr} {p : List Nat → Bool} (C : CtxI mg mb P s.heap) (hg : mg "indent" = some (.ref a)) (hh : A.handled = none) (hr : A.depth < recursionLimit)
    (hfo : ∃ fo fd, s.heap.get? f = some fo ∧ fo.data = .func fd)
    (hpred : ∀ (env : Env) (s' : Shared) (r : List Nat) (t : Tok) (Q' E' : Value → Shared → Prop), Keeps s.heap s'.heap → (∀ c ∈ r, ok c = true) → r.length ≤ 2000 →
      (∀ h' tk, Keeps s'.heap h' → Q' (.bool (p r)) { s' with heap := h', toks := tk }) → wpAny (model prg w) (A.deeper env) (call (.ref f) [.str (S r) t]) Q' E' s')
    (ho : ∀ c ∈ l, ok c = true) (hl : l.length ≤ 2000) (hpre : pre.length ≤ 10)
    (h : ∀ t' h' tk, Keeps s.heap h' → Q (.str (S (indOut p pre (rowsOf l)).flatten) t') { s with heap := h', toks := tk }) : wpAny (model prg w) A (call (.ref a) [.str (S l) t, .str (S pre) tp, .ref f]) Q E s := by
  obtain ⟨a', cd, T, oT, n, h1, ⟨o, kV, doc, pm, an, ct, ho', hd, hcd⟩, hT, hTd, hC⟩ := C.ind
  rw [hg] at h1; cases h1
  refine wpAny_call (codeAny_call_def (binds := [(Str.ofString "text", .str (S l) t), (Str.ofString "prefix", .str (S pre) tp), (Str.ofString "predicate", .ref f)]) hr ho' hd C.c.lim hcd rfl ?_ (show ∀ x ∈ (fScope (stmtAt 1)).names, x.2 ≠ .cell by decide) (locs rfl) (fun h₁ hns hk₁ => ?_) rfl rfl rfl)
  · exact BindsTo.of_defaults rfl hT hTd rfl rfl
  · have F : Fr s.heap s.heap.objs.size h₁ (fun y => [(Str.ofString "text", Value.str (S l) t), (Str.ofString "prefix", Value.str (S pre) tp), (Str.ofString "predicate", Value.ref f)].reverse.lookup y) := ⟨hns, hk₁, Nat.le_refl _⟩
    refine wpAny_mono (E := fun _ _ => False) ?_ (fun _ _ x => x) fun _ _ x => x.elim
    show wpAny _ _ (execs (fBody (stmtAt 1)) (envOf (Str.ofString "indent") (fScope (stmtAt 1)) s.heap.objs.size a (.ref cd))) _ _ _
    conv in fBody _ => whnf
    refine wpAny_execs_cons (wpAny_If (is_none_if F rfl ?_))
    rw [if_neg (show ¬ (Value.ref f == Value.none) = true from Bool.false_ne_true)]
    refine wpAny_execs_nil ?_
    refine ind_rest (p := p) (rest := []) (by exact hh) (by exact F) News.nil rfl rfl rfl (fun h k _ => let ⟨fo, fd, e1, e2⟩ := hfo; ⟨fo, fd, k _ _ e1, e2⟩) (fun s' r t Q' E' k _ hr hl hq => hpred _ s' r t Q' E' k hr hl hq) ho hl hpre fun t' h' tk m' F' _ => ?_
    exact h t' h' tk F'.keep

/-- indent by its own predicate -/
theorem ind_call1 {a : Addr} (C : CtxI mg mb P hb) (kb : Keeps hb s.heap) (hP : hb.get? P = none) (hT : TabI s.heap P) (hg : mg "indent" = some (.ref a)) (hh : A.handled = none) (hr : A.depth + 1 < recursionLimit)
    (ho : ∀ c ∈ l, ok c = true) (hl : l.length ≤ 2000) (hpre : pre.length ≤ 10)
    (h : ∀ t' h' tk, (∀ b o, b ≠ P → s.heap.get? b = some o → h'.get? b = some o) → TabI h' P → Q (.str (S (indOut (fun r => !(Txt.isspace (S r))) pre (rowsOf l)).flatten) t') { s with heap := h', toks := tk }) :
    wpAny (model prg w) A (call (.ref a) [.str (S l) t, .str (S pre) tp]) Q E s := by
  obtain ⟨ps, hps, htab⟩ := hT
  have kh : Keeps hb (hideAll s.heap [P]) := fun b o e => hideAll_get _ (kb b o e) fun q => by
    rw [List.mem_singleton.mp q, hP] at e; cases e
  have C₀ := C.keeps kh
  obtain ⟨p, loose, mean, T⟩ := C₀.top
  obtain ⟨a', cd, Td, oT, n, h1, ⟨o, kV, doc, pm, an, ct, ho', hd, hcd⟩, hTt, hTd, hC⟩ := C₀.ind
  rw [hg] at h1; cases h1
  have up : Keeps (hideAll s.heap [P]) s.heap := fun b o e => of_hideAll _ e
  refine wpAny_call (codeAny_call_def (binds := [(Str.ofString "text", .str (S l) t), (Str.ofString "prefix", .str (S pre) tp), (Str.ofString "predicate", .none)]) (by omega) (up _ _ ho') hd (C₀.c.lim.keeps up) (hcd.keeps up) rfl ?_ (show ∀ x ∈ (fScope (stmtAt 1)).names, x.2 ≠ .cell by decide) (locs rfl) (fun h₁ hns hk₁ => ?_) rfl rfl rfl)
  · exact BindsTo.of_defaults rfl (up _ _ hTt) hTd rfl rfl
  · have F : Fr (hideAll s.heap [P]) s.heap.objs.size h₁ (fun y => [(Str.ofString "text", Value.str (S l) t), (Str.ofString "prefix", Value.str (S pre) tp), (Str.ofString "predicate", Value.none)].reverse.lookup y) :=
      ⟨hns, fun b o e => hk₁ b o (up b o e), Nat.le_of_eq (hideAll_size _ _)⟩
    have N : News (hideAll s.heap [P]) s.heap.objs.size h₁ [(P, tabObj ps)] := by
      intro q hq
      rcases List.mem_cons.mp hq with rfl | hq
      · exact ⟨hk₁ _ _ hps, Nat.ne_of_lt (Heap.lt_size hps), hideAll_none _ (.head _)⟩
      · cases hq
    refine wpAny_mono (E := fun _ _ => False) ?_ (fun _ _ x => x) fun _ _ x => x.elim
    show wpAny _ _ (execs (fBody (stmtAt 1)) (envOf (Str.ofString "indent") (fScope (stmtAt 1)) s.heap.objs.size a (.ref cd))) _ _ _
    -- the rest, once the lambda is made
    have fin : ∀ {f c' : Addr} {ctv : Value} {rest : List (Addr × Obj)} {h₂ : Heap} {k₂ : Nat} {ps' : Array Value} {env : Env},
        Fr (hideAll s.heap [P]) s.heap.objs.size h₂ (fun y => if y = Str.ofString "predicate" then some (.ref f) else [(Str.ofString "text", Value.str (S l) t), (Str.ofString "prefix", Value.str (S pre) tp), (Str.ofString "predicate", Value.none)].reverse.lookup y) →
        News (hideAll s.heap [P]) s.heap.objs.size h₂ rest → (f, kla_obj "<lambda>" q1 (lParams lam1) (lBody lam1) (lScope lam1) [] ((mg "__name__").getD .none) c' ctv) ∈ rest → (P, tabObj ps') ∈ rest →
        (∀ h, Keeps (hideAll s.heap [P]) h → (∀ q ∈ rest, h.get? q.1 = some q.2) → h.CodeRec (.ref c') q1) → ps' = #[rawInt (lPos lam1).line, rawInt (lPos lam1).col, .ref c'] →
        wpAny (model prg w) (A.deeper env) (execs (fBody (stmtAt 1)).tail (envOf (Str.ofString "indent") (fScope (stmtAt 1)) s.heap.objs.size a (.ref cd)))
          (fun f s' => Q (match f with | .ret v => v | _ => .none) s') (fun _ _ => False) { s with heap := h₂, toks := k₂ } := by
      intro f c' ctv rest h₂ k₂ ps' env F₂ N₂ hf hPm hcr hps'
      refine ind_rest (p := fun r => !(Txt.isspace (S r))) (rest := rest) (by exact hh) (by exact F₂) (by exact N₂) rfl rfl rfl (fun h k hq => ⟨_, _, hq _ hf, rfl⟩)
        (fun s' r t Q' E' k hq hr' hl' hQ => pred1 (by exact hr) (hq _ hf) (hcr _ k hq) (C₀.c.lim.keeps k) hQ) ho hl hpre fun t' h' tk m' F' N' => ?_
      refine h t' h' tk (fun b o hb e => F'.keep b o (hideAll_get _ e fun q => hb (List.mem_singleton.mp q))) ⟨ps', (N' _ hPm).1, .inr ⟨c', hps', hcr _ F'.keep fun q hq => (N' q hq).1⟩⟩
    conv in fBody _ => whnf
    refine wpAny_execs_cons (wpAny_If (is_none_if F rfl ?_))
    rw [if_pos (show (Value.none == Value.none) = true from rfl)]
    refine wpAny_execs_cons (wpAny_Assign_Name (kla_eval rfl ?_))
    rcases htab with rfl | ⟨c', rfl, hc'⟩
    · refine kla_nest (cl := []) (clos := []) (ps := #[]) (by exact F) (by exact N) T hC rfl (UpdF.head (by intro _ hq; cases hq)) (by trivial) rfl rfl fun f c' oc vs tq ctv h₂ k₂ F₂ N₂ hoc hvs hlt hlt2 => ?_
      refine stN (by exact F₂) (by exact N₂) fun h₃ F₃ N₃ => wpAny_execs_nil ?_
      exact fin F₃ N₃ (.head _) (.tail _ (.tail _ (.head _))) (fun h _ hq => ⟨c', oc, vs, tq, rfl, hq _ (.tail _ (.head _)), hoc, hvs⟩) rfl
    · refine kla_hit (cl := []) (clos := []) (ps := #[rawInt (lPos lam1).line, rawInt (lPos lam1).col, .ref c']) (c' := c') (by exact F) (by exact N) T hC rfl (.head _) (by trivial) rfl rfl fun f ctv h₂ k₂ F₂ N₂ hlt => ?_
      refine stN (by exact F₂) (by exact N₂) fun h₃ F₃ N₃ => wpAny_execs_nil ?_
      refine fin F₃ N₃ (.head _) (.tail _ (.head _)) (fun h k hq => ?_) rfl
      obtain ⟨c, oc, vs, tq, e1, e2, e3, e4⟩ := hc'
      cases e1
      refine ⟨c', oc, vs, tq, rfl, k _ _ (hideAll_get _ e2 fun q => ?_), e3, e4⟩
      rw [List.mem_singleton.mp q, hps] at e2
      cases e2
      cases e3
      simp [rawInt] at e4
end
end Mine

namespace Mine
set_option maxRecDepth 100000
set_option maxHeartbeats 4000000

section
variable {w : World} {A : Around} {E : Value → Shared → Prop} {s : Shared} {D : Addr} {env : Env} {vs : List Value} {gs : List (List Nat)}
  {elt iter : Expr} {x : Str} {px pos : Pos} {scope : Scope} {cl : List (Str × Addr)}

/-- what an element of a comprehension yields -/
def EltOk (w : World) (A : Around) (s : Shared) (env : Env) (scope : Scope) (cl : List (Str × Addr)) (x : Str) (elt : Expr) (vs : List Value) (gs : List (List Nat)) : Prop :=
  ∀ (i : Nat) (v : Value) (gi : List Nat) (C : Addr) (mC : Str → Option Value) (s' : Shared), vs[i]? = some v → gs[i]? = some gi → mC x = some v → s'.heap.Ns C mC → Keeps s.heap s'.heap →
    ∀ Q' : Value → Shared → Prop, (∀ h' t' tk, Keeps s'.heap h' → Q' (.str (S gi) t') { s' with heap := h', toks := tk }) → wpAny (model prg w) A (eval elt (compEnvC scope cl C env)) Q' (fun _ _ => False) s'

/-- the turns of a comprehension whose elements are texts -/
theorem comp_turns {RR : Value → Addr → Result → Shared → Prop}
    (hh : A.handled = none) (hcell : ∀ y ∈ scope.names, y.2 ≠ .cell) (hkind : scope.kind = .function) (hx : scope.names.lookup x = some .local)
    (hD : s.heap.IsList D vs.toArray) (hlen : gs.length = vs.length) (hn : vs.length ≤ 5000) (helt : EltOk w A s env scope cl x elt vs gs)
    (hRR : ∀ Acc C mC acc h' tk, Keeps s.heap h' → h'.IsList Acc acc.toArray → Strs acc gs → h'.Ns C mC → s.heap.get? C = none → s.heap.get? Acc = none → Acc ≠ C → RR (.ref Acc) C (.ok .next) { s with heap := h', toks := tk }) :
    wpAny (model prg w) A (pyIter (.ref D)) (fun it s₂ => wpAny (model prg w) A (newList []) (fun acc s₃ => wpAny (model prg w) A (newFunctionEnv scope env.globals cl [] env.qual none .none (some env)) (fun cenv s₄ =>
      codeAny (model prg w) A (.compStart (.ListComp elt [⟨.Name x px, iter, [], 0⟩] scope pos) 0 it acc { cenv with scope := relabel scope env }) (RR acc cenv.locals) s₄) E s₃) E s₂) E s := by
  refine wpAny_pyIter_list hD (wpAny_newObj_type (wpAny_newFunctionEnv hcell (by intro y hy; simp at hy) (fun h₃ hns₃ hsb₃ => ?_) hkind))
  generalize hh1 : s.heap.push { cls := .type "list_iterator", data := .fields #[.ref D, .int 0 0] } = h1 at *
  generalize hh2 : h1.push { cls := .type "list", data := .seq ([] : List Value).toArray } = h2 at *
  have z1 : h1.objs.size = s.heap.objs.size + 1 := by rw [← hh1]; exact Heap.size_push ..
  have z2 : h2.objs.size = s.heap.objs.size + 2 := by rw [← hh2, Heap.size_push, z1]
  have g1 : h1.get? s.heap.objs.size = some { cls := .type "list_iterator", data := .fields #[.ref D, .int 0 0] } := by rw [← hh1]; exact Heap.get?_push_size _ rfl
  have g2 : h2.get? h1.objs.size = some (listOf #[] 0) := by rw [← hh2]; exact Heap.get?_push_size _ rfl
  have k1 : Keeps s.heap h1 := fun b o e => by rw [← hh1]; exact Heap.get?_push_of_some _ e
  have k2 : Keeps h1 h2 := fun b o e => by rw [← hh2]; exact Heap.get?_push_of_some _ e
  have k3 : Keeps h2 h₃ := fun b o e => hsb₃.extBut b o (Nat.ne_of_lt (Heap.lt_size e)) (Heap.get?_push_of_some _ e)
  have kk : Keeps s.heap h₃ := Keeps.trans k1 (Keeps.trans k2 k3)
  have lt : ∀ {b : Addr} {o : Obj}, s.heap.get? b = some o → b < s.heap.objs.size := fun e => Heap.lt_size e
  have neI : ∀ {b : Addr} {o : Obj}, s.heap.get? b = some o → b ≠ s.heap.objs.size := fun e => Nat.ne_of_lt (lt e)
  have neA : ∀ {b : Addr} {o : Obj}, s.heap.get? b = some o → b ≠ h1.objs.size := fun e => Nat.ne_of_lt (Nat.lt_of_lt_of_le (lt e) (by omega))
  have neC : ∀ {b : Addr} {o : Obj}, s.heap.get? b = some o → b ≠ h2.objs.size := fun e => Nat.ne_of_lt (Nat.lt_of_lt_of_le (lt e) (by omega))
  have iA : s.heap.objs.size ≠ h1.objs.size := Nat.ne_of_lt (by omega)
  have iC : s.heap.objs.size ≠ h2.objs.size := Nat.ne_of_lt (by omega)
  have aC : h1.objs.size ≠ h2.objs.size := Nat.ne_of_lt (by omega)
  have fA : s.heap.get? h1.objs.size = none := Heap.get?_none_of_le (by omega)
  have fC : s.heap.get? h2.objs.size = none := Heap.get?_none_of_le (by omega)
  have hDk : ∀ {h : Heap}, Keeps s.heap h → h.IsList D vs.toArray := fun k => let ⟨o, e, r⟩ := hD; ⟨o, k _ _ e, r⟩
  have loop : ∀ s₃ : Shared, s₃ = { s with heap := h₃, toks := s.toks + ([] : List (Str × Value)).length } →
      codeAny (model prg w) A (.compLoop (.ListComp elt [⟨.Name x px, iter, [], 0⟩] scope pos) 0 (.ref s.heap.objs.size) (.ref h1.objs.size) (compEnvC scope cl h2.objs.size env)) (RR (.ref h1.objs.size) h2.objs.size) s₃ := by
    rintro s₃ rfl
    refine codeAny_compLoop_list (fun n s' => ∃ h' tk mC acc i, s' = { s with heap := h', toks := tk } ∧ h'.IsListIter s.heap.objs.size D i ∧ Keeps s.heap h' ∧ h'.Ns h2.objs.size mC ∧
        h'.IsList h1.objs.size acc.toArray ∧ Strs acc (gs.take i) ∧ i ≤ vs.length ∧ n = vs.length + 1 - i) ?_ (vs.length + 1) ?_
    · rintro n s' ⟨h', tk, mC, acc, i, rfl, hit, hk', hC', hA', hacc, hi, rfl⟩
      cases hc : vs[i]? with
      | none =>
        have hsz : i = vs.length := Nat.le_antisymm hi (by simpa using hc)
        refine wpAny_pyNext_list_end hh hit (hDk hk') (by simpa using hc) fun h₁ he₁ => ?_
        refine hRR _ _ mC acc h₁ tk (fun b o e => he₁ b o (neI e) (hk' b o e)) (hA'.extBut he₁ (Ne.symm iA)) ?_ (hC'.extBut he₁ (Ne.symm iC)) fC fA aC
        rw [hsz, ← hlen, List.take_length] at hacc
        exact hacc
      | some v =>
        have hlt : i < vs.length := (List.getElem?_eq_some_iff.mp hc).1
        obtain ⟨gi, hgi⟩ : ∃ gi, gs[i]? = some gi := ⟨gs[i]'(by omega), List.getElem?_eq_getElem (by omega)⟩
        refine wpAny_pyNext_list_item hit (hDk hk') (x := v) (by simpa using hc) fun h₁ hit₁ hs₁ => ?_
        have hC₁ := hC'.sameBut hs₁ (Ne.symm iC)
        have hA₁ := hA'.extBut hs₁.extBut (Ne.symm iA)
        refine wpAny_assign_Name (wpAny_storeName_local (lookup_relabel_local hx) hC₁ (fun h₂ hn₂ hs₂ => ?_) (by simp [compEnvC, relabel, hkind]))
        have hA₂ := hA₁.extBut hs₂.extBut aC
        have hit₂ := hit₁.extBut hs₂.extBut iC
        have hk₂ : Keeps s.heap h₂ := fun b o e => hs₂.extBut b o (neC e) (hs₁.extBut b o (neI e) (hk' b o e))
        refine wpAny_mono (helt i v gi _ _ _ hc hgi (if_pos rfl) hn₂ hk₂ _ fun h₃ t₃ k₃ hk₃ => ?_) (fun _ _ x => x) fun _ _ x => x.elim
        have hA₃ : h₃.IsList h1.objs.size acc.toArray := let ⟨o, e, r⟩ := hA₂; ⟨o, hk₃ _ _ e, r⟩
        refine wpAny_list_append hA₃ (fun h₄ hA₄ hs₄ => ?_) (by have := hacc.length; rw [List.size_toArray, sizeLine_eq]; simp at this; omega)
        rw [List.push_toArray] at hA₄
        have cl4 : ∀ {b : Addr} {o : Obj}, b ≠ h1.objs.size → h₂.get? b = some o → h₄.get? b = some o := fun hb e => hs₄.extBut _ _ hb (hk₃ _ _ e)
        refine ⟨vs.length + 1 - (i + 1), by omega, h₄, k₃, (fun y => if y = x then some v else mC y), acc ++ [.str (S gi) t₃], i + 1, rfl, ?_, fun b o e => cl4 (neA e) (hk₂ b o e), ?_, hA₄, ?_, hlt, rfl⟩
        · exact let ⟨o, e, r⟩ := hit₂; ⟨o, cl4 iA e, r⟩
        · exact (hn₂.keeps hk₃).sameBut hs₄ (Ne.symm aC)
        · rw [List.take_add_one, hgi]; exact hacc.snoc gi t₃
    · exact ⟨h₃, _, _, [], 0, rfl, ⟨_, k3 _ _ (k2 _ _ g1), rfl, rfl⟩, kk, hns₃, ⟨_, k3 _ _ g2, rfl, _, rfl⟩, .nil, Nat.zero_le _, rfl⟩
  refine codeAny_compStart_list (loop _ rfl) (wpAny_pyIter_listiter (i := 0) ⟨_, k3 _ _ (k2 _ _ g1), rfl, rfl⟩ (loop _ rfl))

/-- a comprehension in an expression -/
theorem comp_expr {Q : Value → Shared → Prop} (hh : A.handled = none) (hclos : closureFor scope env = pure cl) (hcell : ∀ y ∈ scope.names, y.2 ≠ .cell) (hkind : scope.kind = .function)
    (hnames : ∀ y ∈ scope.names, y.2 = .local → scope.names.lookup y.1 = some .local) (hx : scope.names.lookup x = some .local)
    (h : wpAny (model prg w) A (eval iter env) (fun xv s₁ => ∃ D vs gs, xv = .ref D ∧ s₁.heap.IsList D vs.toArray ∧ gs.length = vs.length ∧ vs.length ≤ 5000 ∧ EltOk w A s₁ env scope cl x elt vs gs ∧
      ∀ Acc acc h' tk, Keeps s₁.heap h' → h'.IsList Acc acc.toArray → Strs acc gs → s₁.heap.get? Acc = none → Q (.ref Acc) { s₁ with heap := h', toks := tk }) E s)
    (hs : ∀ x, foldedSetIterable iter env x = pure x) : wpAny (model prg w) A (eval (.ListComp elt [⟨.Name x px, iter, [], 0⟩] scope pos) env) Q E s := by
  rw [eval_ListComp]
  refine wpAny_comprehension_free (use := none) rfl hs hclos hkind hnames (wpAny_mono h (fun xv s₁ h₁ => ?_) fun _ _ e => e)
  obtain ⟨D, vs, gs, rfl, hD, hlen, hn, helt, hQ⟩ := h₁
  refine comp_turns (RR := fun acc C => compPost (model prg w) A E none Q acc C) hh hcell hkind hx hD hlen hn helt fun Acc C mC acc h' tk hk hA hS hC fC fA aC => ?_
  exact ⟨mC, hC, fun h'' hs'' => hQ Acc acc h'' tk (fun b o e => hs''.extBut b o (by rintro rfl; rw [fC] at e; cases e) (hk b o e)) (hA.extBut hs''.extBut aC) hS fA⟩

/-- a comprehension that is bound to a name of the frame at once -/
theorem comp_assign {Q : Flow → Shared → Prop} {y : Str} {py spos : Pos} (hh : A.handled = none) (hsw : swapsWith (.ListComp elt [⟨.Name x px, iter, [], 0⟩] scope pos) (some (.Name y py)) spos.line env = pure true)
    (hclos : closureFor scope env = pure cl) (hcell : ∀ y ∈ scope.names, y.2 ≠ .cell) (hkind : scope.kind = .function)
    (hnames : ∀ y ∈ scope.names, y.2 = .local → scope.names.lookup y.1 = some .local) (hx : scope.names.lookup x = some .local)
    (hy : env.kindOf y = some .local) (hp : (env.scope.kind == .class || (env.scope.kind == .module && env.locals != env.globals)) = false)
    (h : wpAny (model prg w) A (eval iter env) (fun xv s₁ => ∃ D vs gs m, xv = .ref D ∧ s₁.heap.IsList D vs.toArray ∧ gs.length = vs.length ∧ vs.length ≤ 5000 ∧ EltOk w A s₁ env scope cl x elt vs gs ∧ s₁.heap.Ns env.locals m ∧
      ∀ Acc acc h' tk, (∀ b o, b ≠ env.locals → s₁.heap.get? b = some o → h'.get? b = some o) → h'.Ns env.locals (fun z => if z = y then some (.ref Acc) else m z) → h'.IsList Acc acc.toArray → Strs acc gs → s₁.heap.get? Acc = none → Q .next { s₁ with heap := h', toks := tk }) E s)
    (hs : ∀ x, foldedSetIterable iter env x = pure x) : wpAny (model prg w) A (exec (.Assign [.Name y py] (.ListComp elt [⟨.Name x px, iter, [], 0⟩] scope pos) spos) env) Q E s := by
  rw [exec_Assign_Name_used _ _ _ _ hsw]
  refine wpAny_bind (wpAny_standAt (wpAny_bind ?_))
  show wpAny _ A (do let _ ← comprehension (.ListComp elt [⟨.Name x px, iter, [], 0⟩] scope pos) scope env _ (newList []) false (eval iter env) (some (assign (.Name y py) env))) _ _ s
  refine wpAny_bind (wpAny_mono (wpAny_comprehension_free (use := some (assign (.Name y py) env)) (Q := fun _ s' => Q .next s') rfl hs hclos hkind hnames (wpAny_mono h (fun xv s₁ h₁ => ?_) fun _ _ e => e)) (fun _ s' hq => wpAny_pure (wpAny_pure hq)) fun _ _ e => e)
  obtain ⟨D, vs, gs, m, rfl, hD, hlen, hn, helt, hm, hQ⟩ := h₁
  refine comp_turns (RR := fun acc C => compPost (model prg w) A E (some (assign (.Name y py) env)) (fun _ s' => Q .next s') acc C) hh hcell hkind hx hD hlen hn helt fun Acc C mC acc h' tk hk hA hS hC fC fA aC => ?_
  have hLC : env.locals ≠ C := by rintro rfl; obtain ⟨o, _, _, ho, _⟩ := hm; rw [fC] at ho; cases ho
  have hLA : env.locals ≠ Acc := by rintro rfl; obtain ⟨o, _, _, ho, _⟩ := hm; rw [fA] at ho; cases ho
  show wpAny _ A (assign (.Name y py) env (.ref Acc)) _ _ _
  refine wpAny_assign_Name (wpAny_storeName_local hy (hm.keeps hk) (fun h₂ hn₂ hs₂ => ?_) hp)
  refine ⟨mC, hC.sameBut hs₂ (Ne.symm hLC), fun h₃ hs₃ => ?_⟩
  exact hQ Acc acc h₃ _ (fun b o hbL e => hs₃.extBut b o (by rintro rfl; rw [fC] at e; cases e) (hs₂.extBut b o hbL (hk b o e))) (hn₂.sameBut hs₃ hLC) ((hA.extBut hs₂.extBut (Ne.symm hLA)).extBut hs₃.extBut aC) hS fA
end
end Mine

namespace Mine
set_option maxRecDepth 100000
set_option maxHeartbeats 4000000

section
variable {w : World} {A : Around} {E : Value → Shared → Prop} {s : Shared} {mg mb : Str → Option Value} {Q : Value → Shared → Prop} {env : Env} {e : Expr} {p1 p2 p3 : Pos}

theorem ldG {x : Str} {v : Value} (hg : s.heap.Ns mainGlobals mg) (hv : mg x = some v) (hgl : env.globals = mainGlobals) (hk : env.scope.kind = .function) (hx : env.kindOf x = some .globalImplicit) (hd : (x == ("__debug__" : Str)) = false) (h : Q v s) :
    wpAny (model prg w) A (eval (.Name x p1) env) Q E s :=
  Calls.Name_function_global hk hx (Calls.loadGlobal_global (by rw [hgl]; exact hg) hv h) hd
theorem ldN {x : Str} {v : Value} {m : Str → Option Value} (hn : s.heap.Ns env.locals m) (hv : m x = some v) (hk : env.scope.kind = .function) (hx : env.kindOf x = some .local) (hd : (x == ("__debug__" : Str)) = false) (h : Q v s) :
    wpAny (model prg w) A (eval (.Name x p1) env) Q E s := wpAny_Name (wpAny_loadName_local hk hx hn hv h) hd
theorem ldC {x : Str} {v : Value} {c : Addr} (hc : env.cells.lookup x = some c) (hv : s.heap.IsCell c (some v)) (hk : env.scope.kind = .function) (hx : env.kindOf x = some .cell) (hd : (x == ("__debug__" : Str)) = false) (h : Q v s) :
    wpAny (model prg w) A (eval (.Name x p1) env) Q E s := wpAny_Name (wpAny_loadName_cell hk hx hc hv h) hd

/-- a call of a def by its name, one argument -/
theorem call1 {x : Str} {f : Addr} {fo : Obj} {fd : FuncData} (hg : s.heap.Ns mainGlobals mg) (hv : mg x = some (.ref f)) (hgl : env.globals = mainGlobals) (hk : env.scope.kind = .function) (hx : env.kindOf x = some .globalImplicit) (hd : (x == ("__debug__" : Str)) = false)
    (hs : starEach [e] env = [(false, eval e env)]) (hfd : fo.data = .func fd)
    (h : wpAny (model prg w) A (eval e env) (fun v s₁ => s₁.heap.get? f = some fo ∧ wpAny (model prg w) A (call (.ref f) [v]) Q E s₁) E s) :
    wpAny (model prg w) A (eval (.Call (.Name x p1) [e] [] p2) env) Q E s :=
  PyProof.Rows.Call_Name1 (ldG hg hv hgl hk hx hd (Calls.callWith_function (o := fo) (Calls.evalArgs_plain (Calls.spliced_cons (wpAny_mono h (fun v s₁ h₁ => Calls.spliced_nil ⟨⟨h₁.1, hfd⟩, h₁.2⟩) fun _ _ x => x))))) hs
theorem call2 {x : Str} {e₂ : Expr} {f : Addr} {fo : Obj} {fd : FuncData} (hg : s.heap.Ns mainGlobals mg) (hv : mg x = some (.ref f)) (hgl : env.globals = mainGlobals) (hk : env.scope.kind = .function) (hx : env.kindOf x = some .globalImplicit) (hd : (x == ("__debug__" : Str)) = false)
    (hs : starEach [e, e₂] env = [(false, eval e env), (false, eval e₂ env)]) (hfd : fo.data = .func fd)
    (h : wpAny (model prg w) A (eval e env) (fun v s₁ => wpAny (model prg w) A (eval e₂ env) (fun v₂ s₂ => s₂.heap.get? f = some fo ∧ wpAny (model prg w) A (call (.ref f) [v, v₂]) Q E s₂) E s₁) E s) :
    wpAny (model prg w) A (eval (.Call (.Name x p1) [e, e₂] [] p2) env) Q E s :=
  PyProof.Rows.Call_Name2 (ldG hg hv hgl hk hx hd (Calls.callWith_function (o := fo) (Calls.evalArgs_plain (Calls.spliced_cons (wpAny_mono h (fun v s₁ h₁ => Calls.spliced_cons (wpAny_mono h₁ (fun v₂ s₂ h₂ => Calls.spliced_nil ⟨⟨h₂.1, hfd⟩, h₂.2⟩) fun _ _ x => x)) fun _ _ x => x))))) hs

/-- _law_great(e) -/
theorem great_in (C : Ctx mg mb s.heap) (hh : A.handled = none) (hr : A.depth < recursionLimit) (hgl : env.globals = mainGlobals) (hk : env.scope.kind = .function) (hx : env.kindOf (Str.ofString "_law_great") = some .globalImplicit)
    (hs : starEach [e] env = [(false, eval e env)])
    (h : wpAny (model prg w) A (eval e env) (fun v s₁ => ∃ r t, v = .str (S r) t ∧ Keeps s.heap s₁.heap ∧ (∀ c ∈ r, c < 128) ∧ r.length ≤ 10000 ∧ ∀ h' t' tk, Keeps s₁.heap h' → Q (.str (S (great r)) t') { s₁ with heap := h', toks := tk }) E s) :
    wpAny (model prg w) A (eval (.Call (.Name (Str.ofString "_law_great") p1) [e] [] p2) env) Q E s := by
  obtain ⟨f, cd, hg, fo, _, _, _, _, _, hfo, hfd, _⟩ := C.great
  refine call1 C.g hg hgl hk hx rfl hs hfd (wpAny_mono h (fun v s₁ h₁ => ?_) fun _ _ x => x)
  obtain ⟨r, t, rfl, hk₁, ha, hl, hq⟩ := h₁
  exact ⟨hk₁ _ _ hfo, great_call (C.keeps hk₁) hg hh hr ha hl fun t' h' tk hk₂ => hq h' t' tk hk₂⟩
/-- _law_white(e) -/
theorem white_in (C : Ctx mg mb s.heap) (hh : A.handled = none) (hr : A.depth + 1 < recursionLimit) (hu : A.units + 80 < cLine) (hgl : env.globals = mainGlobals) (hk : env.scope.kind = .function) (hx : env.kindOf (Str.ofString "_law_white") = some .globalImplicit)
    (hs : starEach [e] env = [(false, eval e env)])
    (h : wpAny (model prg w) A (eval e env) (fun v s₁ => ∃ r t, v = .str (S r) t ∧ Keeps s.heap s₁.heap ∧ (∀ c ∈ r, c < 128) ∧ r.length ≤ 4000 ∧ ∀ h' tk, Keeps s₁.heap h' → Q (.bool (decide (wordsOf r = []))) { s₁ with heap := h', toks := tk }) E s) :
    wpAny (model prg w) A (eval (.Call (.Name (Str.ofString "_law_white") p1) [e] [] p2) env) Q E s := by
  obtain ⟨f, cd, hg, fo, _, _, _, _, _, hfo, hfd, _⟩ := C.white
  refine call1 C.g hg hgl hk hx rfl hs hfd (wpAny_mono h (fun v s₁ h₁ => ?_) fun _ _ x => x)
  obtain ⟨r, t, rfl, hk₁, ha, hl, hq⟩ := h₁
  exact ⟨hk₁ _ _ hfo, white_call (C.keeps hk₁) hg hh hr hu ha hl fun h' tk hk₂ => hq h' tk hk₂⟩
end

/-- the law's own frame -/
abbrev lenv (L a : Addr) (cd : Value) : Env := envX (Str.ofString "law") (fScope (stmtAt 9)) L a cd [(Str.ofString "prefix", L + 1)]
def compOf : Stmt → Expr
  | .Assign _ v _ => v
  | _ => .Constant .none 0 ⟨0, 0, 0, 0⟩
def cElt : Expr → Expr
  | .ListComp e _ _ _ => e
  | e => e
def cScope : Expr → Scope
  | .ListComp _ _ s _ => s
  | _ => default

section
variable {w : World} {A : Around} {s : Shared} {mg mb : Str → Option Value} {L a : Addr} {cd : Value} {vs : List Value} {rs : List (List Nat)} {pre : List Nat} {tp : Tok}

abbrev compAt (n : Nat) : Expr := compOf ((fBody (stmtAt 9)).getD n (.Pass ⟨0, 0, 0, 0⟩))
theorem cell_keeps {h h' : Heap} {c : Addr} {v : Option Value} (x : h.IsCell c v) (k : Keeps h h') : h'.IsCell c v := let ⟨o, e, r⟩ := x; ⟨o, k _ _ e, r⟩

/-- [_law_great(row) for row in rows] -/
theorem elt4 (X : Ctx mg mb s.heap) (hh : A.handled = none) (hr : A.depth + 1 < recursionLimit) (hS : Strs vs rs) (hrs : ∀ r ∈ rs, (∀ c ∈ r, c < 128) ∧ r.length ≤ 2000) :
    EltOk w A s (lenv L a cd) (cScope (compAt 4)) [] (Str.ofString "row") (cElt (compAt 4)) vs (rs.map great) := by
  intro i v gi C mC s' hv hg hm hn hk Q' hq
  obtain ⟨r, t, rfl, hri⟩ := hS.get hv
  rw [List.getElem?_map, hri] at hg
  cases hg
  have hrr := hrs r (List.mem_of_getElem? hri)
  conv in cElt _ => whnf
  exact great_in (X.keeps hk) hh (by omega) rfl rfl rfl rfl (ldN hn hm rfl rfl rfl ⟨r, t, rfl, fun _ _ e => e, hrr.1, by omega, fun h' t' tk hk' => hq h' t' tk hk'⟩)

/-- [_law_great(row) if _law_white(row) else prefix + _law_great(row) for row in rows] -/
theorem elt6 (X : Ctx mg mb s.heap) (hcell : s.heap.IsCell (L + 1) (some (.str (S pre) tp))) (hpre : pre.length ≤ 10) (hh : A.handled = none) (hr : A.depth + 1 < recursionLimit) (hu : A.units + 80 < cLine) (hS : Strs vs rs) (hrs : ∀ r ∈ rs, (∀ c ∈ r, c < 128) ∧ r.length ≤ 2000) :
    EltOk w A s (lenv L a cd) (cScope (compAt 6)) [(Str.ofString "prefix", L + 1)] (Str.ofString "row") (cElt (compAt 6)) vs (rs.map fun r => if wordsOf r = [] then great r else pre ++ great r) := by
  intro i v gi C mC s' hv hg hm hn hk Q' hq
  obtain ⟨r, t, rfl, hri⟩ := hS.get hv
  rw [List.getElem?_map, hri] at hg
  cases hg
  dsimp only at hq
  have hrr := hrs r (List.mem_of_getElem? hri)
  conv in cElt _ => whnf
  refine IfExp_ (wpAny_isTrue_value (white_in (X.keeps hk) hh hr hu rfl rfl rfl rfl (ldN hn hm rfl rfl rfl ⟨r, t, rfl, fun _ _ e => e, hrr.1, by omega, fun h₁ k₁ hk₁ => wpAny_truthy_bool ?_⟩)))
  have X₁ := (X.keeps hk).keeps hk₁
  by_cases hw : wordsOf r = []
  · rw [decide_eq_true hw, if_pos rfl]
    refine great_in X₁ hh (by omega) rfl rfl rfl rfl (ldN (hn.keeps hk₁) hm rfl rfl rfl ⟨r, t, rfl, fun _ _ e => e, hrr.1, by omega, fun h' t' tk hk' => ?_⟩)
    have := hq h' t' tk (Keeps.trans hk₁ hk')
    rw [if_pos hw] at this
    exact this
  · rw [decide_eq_false hw, if_neg Bool.false_ne_true]
    refine wpAny_BinOp (ldC rfl (cell_keeps (cell_keeps hcell hk) hk₁) rfl rfl rfl ?_)
    refine great_in X₁ hh (by omega) rfl rfl rfl rfl (ldN (hn.keeps hk₁) hm rfl rfl rfl ⟨r, t, rfl, fun _ _ e => e, hrr.1, by omega, fun h' t' tk hk' => add_str (fun t₂ k₂ => ?_) ?_⟩)
    · rw [S_append]
      have := hq h' t₂ k₂ (Keeps.trans hk₁ hk')
      rw [if_neg hw] at this
      exact this
    · rw [S_length, S_length, great_length, sizeLine_eq]; omega

/-- [_law_great(row if _law_white(row) else prefix + row) for row in rows] -/
theorem elt8 (X : Ctx mg mb s.heap) (hcell : s.heap.IsCell (L + 1) (some (.str (S pre) tp))) (hpre : pre.length ≤ 10) (hprec : ∀ c ∈ pre, c < 128) (hh : A.handled = none) (hr : A.depth + 1 < recursionLimit) (hu : A.units + 80 < cLine) (hS : Strs vs rs) (hrs : ∀ r ∈ rs, (∀ c ∈ r, c < 128) ∧ r.length ≤ 2000) :
    EltOk w A s (lenv L a cd) (cScope (compAt 8)) [(Str.ofString "prefix", L + 1)] (Str.ofString "row") (cElt (compAt 8)) vs (rs.map fun r => great (if wordsOf r = [] then r else pre ++ r)) := by
  intro i v gi C mC s' hv hg hm hn hk Q' hq
  obtain ⟨r, t, rfl, hri⟩ := hS.get hv
  rw [List.getElem?_map, hri] at hg
  cases hg
  dsimp only at hq
  have hrr := hrs r (List.mem_of_getElem? hri)
  conv in cElt _ => whnf
  refine great_in (X.keeps hk) hh (by omega) rfl rfl rfl rfl ?_
  refine IfExp_ (wpAny_isTrue_value (white_in (X.keeps hk) hh hr hu rfl rfl rfl rfl (ldN hn hm rfl rfl rfl ⟨r, t, rfl, fun _ _ e => e, hrr.1, by omega, fun h₁ k₁ hk₁ => wpAny_truthy_bool ?_⟩)))
  by_cases hw : wordsOf r = []
  · rw [decide_eq_true hw, if_pos rfl]
    refine ldN (hn.keeps hk₁) hm rfl rfl rfl ⟨r, t, rfl, hk₁, hrr.1, by omega, fun h' t' tk hk' => ?_⟩
    have := hq h' t' tk (Keeps.trans hk₁ hk')
    rw [if_pos hw] at this
    exact this
  · rw [decide_eq_false hw, if_neg Bool.false_ne_true]
    refine wpAny_BinOp (ldC rfl (cell_keeps (cell_keeps hcell hk) hk₁) rfl rfl rfl (ldN (hn.keeps hk₁) hm rfl rfl rfl (add_str (fun t₂ k₂ => ?_) ?_)))
    · rw [S_append]
      refine ⟨pre ++ r, t₂, rfl, hk₁, ?_, by rw [List.length_append]; omega, fun h' t' tk hk' => ?_⟩
      · intro c hc
        rcases List.mem_append.mp hc with hc | hc
        · exact hprec c hc
        · exact hrr.1 c hc
      · have := hq h' t' tk (Keeps.trans hk₁ hk')
        rw [if_neg hw] at this
        exact this
    · rw [S_length, S_length, sizeLine_eq]; omega

/-- [row if _law_great(row) == row else prefix + row for row in rows] -/
theorem elt10 (X : Ctx mg mb s.heap) (hcell : s.heap.IsCell (L + 1) (some (.str (S pre) tp))) (hpre : pre.length ≤ 10) (hh : A.handled = none) (hr : A.depth + 1 < recursionLimit) (hS : Strs vs rs) (hrs : ∀ r ∈ rs, (∀ c ∈ r, c < 128) ∧ r.length ≤ 2000) :
    EltOk w A s (lenv L a cd) (cScope (compAt 10)) [(Str.ofString "prefix", L + 1)] (Str.ofString "row") (cElt (compAt 10)) vs (rs.map fun r => if great r = r then r else pre ++ r) := by
  intro i v gi C mC s' hv hg hm hn hk Q' hq
  obtain ⟨r, t, rfl, hri⟩ := hS.get hv
  rw [List.getElem?_map, hri] at hg
  cases hg
  dsimp only at hq
  have hrr := hrs r (List.mem_of_getElem? hri)
  conv in cElt _ => whnf
  refine IfExp_ (wpAny_isTrue_Compare1 (great_in (X.keeps hk) hh (by omega) rfl rfl rfl rfl (ldN hn hm rfl rfl rfl ⟨r, t, rfl, fun _ _ e => e, hrr.1, by omega, fun h₁ t₁ k₁ hk₁ => ldN (hn.keeps hk₁) hm rfl rfl rfl (eqS rfl (wpAny_truthy_bool ?_))⟩)))
  by_cases hw : great r = r
  · rw [decide_eq_true hw, if_pos rfl]
    refine ldN (hn.keeps hk₁) hm rfl rfl rfl ?_
    have := hq h₁ t k₁ hk₁
    rw [if_pos hw] at this
    exact this
  · rw [decide_eq_false hw, if_neg Bool.false_ne_true]
    refine wpAny_BinOp (ldC rfl (cell_keeps (cell_keeps hcell hk) hk₁) rfl rfl rfl (ldN (hn.keeps hk₁) hm rfl rfl rfl (add_str (fun t₂ k₂ => ?_) ?_)))
    · rw [S_append]
      have := hq h₁ t₂ k₂ hk₁
      rw [if_neg hw] at this
      exact this
    · rw [S_length, S_length, sizeLine_eq]; omega
end
end Mine

namespace Mine
set_option maxRecDepth 100000
set_option maxHeartbeats 4000000

/-- capwords by line feeds, by blanks; the two predicates; indent -/
abbrev capNL (l : List Nat) : List Nat := joinL [10] ((splitNL l).map great)
abbrev capSp (l : List Nat) : List Nat := joinL [32] ((wordsOf l).map great)
abbrev pr1 (r : List Nat) : Bool := !(Txt.isspace (S r))
abbrev pr2 (r : List Nat) : Bool := !decide (capNL r = r)
abbrev ind (p : List Nat → Bool) (pre l : List Nat) : List Nat := (indOut p pre (rowsOf l)).flatten

/-- the law's own arithmetic: what the walk asks of the texts -/
structure Facts (T pre : List Nat) : Prop where
  okT : ∀ c ∈ T, ok c = true
  lenT : T.length ≤ 100
  okP : ∀ c ∈ pre, ok c = true
  lenP : pre.length ≤ 10
  okC : ∀ c ∈ capNL T, ok c = true
  lenC : (capNL T).length ≤ 2000
  okI : ∀ c ∈ ind pr1 pre T, ok c = true
  lenI : (ind pr1 pre T).length ≤ 2000
  okJ : ∀ c ∈ ind pr1 [32, 9, 32] T, ok c = true
  lenJ : (ind pr1 [32, 9, 32] T).length ≤ 2000
  okW : ∀ c ∈ capSp T, ok c = true
  lenW : (capSp T).length ≤ 2000
  c1 : capNL T = ((rowsOf T).map great).flatten
  c2 : ind pr1 pre (capNL T) = ((rowsOf T).map fun r => if wordsOf r = [] then great r else pre ++ great r).flatten
  c3 : capNL (ind pr1 pre T) = ((rowsOf T).map fun r => great (if wordsOf r = [] then r else pre ++ r)).flatten
  c4 : ind pr2 pre T = ((rowsOf T).map fun r => if great r = r then r else pre ++ r).flatten
  c5 : capSp (ind pr1 [32, 9, 32] T) = capSp T
  c6 : ind pr1 pre (capSp T) = pre ++ capSp T

/-- the law's frame between two statements -/
structure LS (hb : Heap) (L P P' : Addr) (h : Heap) (m : Str → Option Value) (cv : Option Value) (ps : Array Value) (led : List (Addr × Obj)) : Prop where
  F : Fr hb L h m
  t17 : TabI h P
  t60 : h.get? P' = some (tabObj ps)
  cell : h.IsCell (L + 1) cv
  N : News hb L h led
/-- what stands fast -/
structure LF (mg mb : Str → Option Value) (hb : Heap) (L P P' c : Addr) : Prop where
  C : CtxI mg mb P hb
  H : CodeHd hb c P'
  fP : hb.get? P = none
  fP' : hb.get? P' = none
  fc : hb.get? (L + 1) = none
  PL : P ≠ L
  P'L : P' ≠ L
  PP' : P ≠ P'
  cP : L + 1 ≠ P
  cP' : L + 1 ≠ P'

section
variable {mg mb : Str → Option Value} {hb h h' : Heap} {L P P' c : Addr} {m m' : Str → Option Value} {cv : Option Value} {ps : Array Value} {led : List (Addr × Obj)}
theorem TabI.but {X : Addr} (T : TabI h P) (k : ∀ b o, b ≠ X → h.get? b = some o → h'.get? b = some o) (hP : P ≠ X) (hX : ∀ o vs, h.get? X = some o → o.data = .fields vs → ∀ (q : Str) t, vs[1]? ≠ some (.str q t)) : TabI h' P := by
  obtain ⟨ps, h1, h2⟩ := T
  refine ⟨ps, k _ _ hP h1, h2.imp id fun ⟨c', e, c2, o, vs, t, e1, e2, e3, e4⟩ => ⟨c', e, c2, o, vs, t, e1, k _ _ ?_ e2, e3, e4⟩⟩
  rintro rfl
  exact hX o vs e2 e3 _ _ e4
theorem LS.keeps (x : LS hb L P P' h m cv ps led) (k : Keeps h h') : LS hb L P P' h' m cv ps led :=
  ⟨x.F.after k, x.t17.but (X := h.objs.size) (fun b o _ e => k b o e) (let ⟨_, e, _⟩ := x.t17; Nat.ne_of_lt (Heap.lt_size e)) (fun o vs e => by rw [Heap.get?_none_of_le (Nat.le_refl _)] at e; cases e), k _ _ x.t60, x.cell.keeps k, news_keeps x.N k⟩
theorem LS.store (f : LF mg mb hb L P P' c) (x : LS hb L P P' h m cv ps led) (k : ∀ b o, b ≠ L → h.get? b = some o → h'.get? b = some o) (hn : h'.Ns L m') : LS hb L P P' h' m' cv ps led := by
  refine ⟨⟨hn, fun b o e => k b o (Nat.ne_of_lt (Nat.lt_of_lt_of_le (Heap.lt_size e) x.F.above)) (x.F.keep b o e), x.F.above⟩, x.t17.but k f.PL ?_, k _ _ f.P'L x.t60, ?_, fun q hq => ⟨k _ _ (x.N q hq).2.1 (x.N q hq).1, (x.N q hq).2⟩⟩
  · intro o vs e hd
    obtain ⟨oL, es, ep, hL, hd', _⟩ := x.F.ns
    rw [hL] at e; cases e
    rw [hd'] at hd; cases hd
  · obtain ⟨o, e, r⟩ := x.cell
    exact ⟨o, k _ _ (Nat.succ_ne_self L) e, r⟩
theorem LS.ind (f : LF mg mb hb L P P' c) (x : LS hb L P P' h m cv ps led) (k : ∀ b o, b ≠ P → h.get? b = some o → h'.get? b = some o) (T : TabI h' P) (hl : ∀ q ∈ led, q.1 ≠ P) : LS hb L P P' h' m cv ps led := by
  refine ⟨⟨?_, fun b o e => k b o (by rintro rfl; rw [f.fP] at e; cases e) (x.F.keep b o e), x.F.above⟩, T, k _ _ (Ne.symm f.PP') x.t60, let ⟨o, e, r⟩ := x.cell; ⟨o, k _ _ f.cP e, r⟩, fun q hq => ⟨k _ _ (hl q hq) (x.N q hq).1, (x.N q hq).2⟩⟩
  obtain ⟨oL, es, ep, hL, r⟩ := x.F.ns
  exact ⟨oL, es, ep, k _ _ (Ne.symm f.PL) hL, r⟩
end
end Mine

namespace Mine
set_option maxRecDepth 100000
set_option maxHeartbeats 4000000

section
variable {w : World} {A : Around} {E : Value → Shared → Prop} {s : Shared} {mg mb : Str → Option Value} {Q : Value → Shared → Prop} {env : Env} {e e₂ e₃ : Expr} {p1 p2 p3 : Pos} {hb : Heap} {P : Addr}

/-- capwords(e) -/
theorem capsp_in (C : Ctx mg mb hb) (k0 : Keeps hb s.heap) (hh : A.handled = none) (hr : A.depth < recursionLimit) (hgl : env.globals = mainGlobals) (hk : env.scope.kind = .function) (hx : env.kindOf (Str.ofString "capwords") = some .globalImplicit)
    (hs : starEach [e] env = [(false, eval e env)])
    (h : wpAny (model prg w) A (eval e env) (fun v s₁ => ∃ r t, v = .str (S r) t ∧ Keeps hb s₁.heap ∧ (∀ c ∈ r, ok c = true) ∧ r.length ≤ 2000 ∧ ∀ h' t' tk, Keeps s₁.heap h' → Q (.str (S (capSp r)) t') { s₁ with heap := h', toks := tk }) E s) :
    wpAny (model prg w) A (eval (.Call (.Name (Str.ofString "capwords") p1) [e] [] p2) env) Q E s := by
  obtain ⟨f, cd, T, o, n, hg, ⟨fo, _, _, _, _, _, hfo, hfd, _⟩, _, _⟩ := id C.cap
  refine call1 (C.g.keeps k0) hg hgl hk hx rfl hs hfd (wpAny_mono h (fun v s₁ h₁ => ?_) fun _ _ x => x)
  obtain ⟨r, t, rfl, hk₁, ha, hl, hq⟩ := h₁
  exact ⟨hk₁ _ _ hfo, cap_none (C.keeps hk₁) hg hh hr ha hl fun t' h' tk hk₂ => hq h' t' tk hk₂⟩
/-- capwords(e, '\n') -/
theorem capnl_in {k : Nat} {p4 : Pos} (C : Ctx mg mb hb) (k0 : Keeps hb s.heap) (hh : A.handled = none) (hr : A.depth < recursionLimit) (hgl : env.globals = mainGlobals) (hk : env.scope.kind = .function) (hx : env.kindOf (Str.ofString "capwords") = some .globalImplicit)
    (hs : starEach [e, .Constant (.str (Str.ofString "\n")) k p4] env = [(false, eval e env), (false, eval (.Constant (.str (Str.ofString "\n")) k p4) env)])
    (h : wpAny (model prg w) A (eval e env) (fun v s₁ => ∃ r t, v = .str (S r) t ∧ Keeps hb s₁.heap ∧ (∀ c ∈ r, c < 128) ∧ r.length ≤ 2000 ∧ ∀ h' t' tk, Keeps s₁.heap h' → Q (.str (S (capNL r)) t') { s₁ with heap := h', toks := tk }) E s) :
    wpAny (model prg w) A (eval (.Call (.Name (Str.ofString "capwords") p1) [e, .Constant (.str (Str.ofString "\n")) k p4] [] p2) env) Q E s := by
  obtain ⟨f, cd, T, o, n, hg, ⟨fo, _, _, _, _, _, hfo, hfd, _⟩, _, _⟩ := id C.cap
  refine call2 (C.g.keeps k0) hg hgl hk hx rfl hs hfd (wpAny_mono h (fun v s₁ h₁ => ?_) fun _ _ x => x)
  obtain ⟨r, t, rfl, hk₁, ha, hl, hq⟩ := h₁
  refine wpAny_Constant_str ⟨hk₁ _ _ hfo, ?_⟩
  rw [show Str.ofString "\n" = S [10] by decide +kernel]
  exact cap_nl (C.keeps hk₁) hg hh hr ha hl fun t' h' tk hk₂ => hq h' t' tk hk₂
/-- indent(e, e₂) -/
theorem ind_in (C : CtxI mg mb P hb) (hP : hb.get? P = none) (k0 : Keeps hb s.heap) (hh : A.handled = none) (hr : A.depth + 1 < recursionLimit) (hgl : env.globals = mainGlobals) (hk : env.scope.kind = .function) (hx : env.kindOf (Str.ofString "indent") = some .globalImplicit)
    (hs : starEach [e, e₂] env = [(false, eval e env), (false, eval e₂ env)])
    (h : wpAny (model prg w) A (eval e env) (fun v s₁ => wpAny (model prg w) A (eval e₂ env) (fun v₂ s₂ => ∃ l t pre tp, v = .str (S l) t ∧ v₂ = .str (S pre) tp ∧ Keeps hb s₂.heap ∧ TabI s₂.heap P ∧ (∀ c ∈ l, ok c = true) ∧ l.length ≤ 2000 ∧ pre.length ≤ 10 ∧
      ∀ h' t' tk, (∀ b o, b ≠ P → s₂.heap.get? b = some o → h'.get? b = some o) → TabI h' P → Q (.str (S (ind pr1 pre l)) t') { s₂ with heap := h', toks := tk }) E s₁) E s) :
    wpAny (model prg w) A (eval (.Call (.Name (Str.ofString "indent") p1) [e, e₂] [] p2) env) Q E s := by
  obtain ⟨f, cd, T, o, n, hg, ⟨fo, _, _, _, _, _, hfo, hfd, _⟩, _⟩ := id C.ind
  refine call2 (C.c.g.keeps k0) hg hgl hk hx rfl hs hfd (wpAny_mono h (fun v s₁ h₁ => wpAny_mono h₁ (fun v₂ s₂ h₂ => ?_) fun _ _ x => x) fun _ _ x => x)
  obtain ⟨l, t, pre, tp, rfl, rfl, hk₁, hT, ho, hl, hp, hq⟩ := h₂
  exact ⟨hk₁ _ _ hfo, ind_call1 C hk₁ hP hT hg hh hr ho hl hp fun t' h' tk h1 h2 => hq h' t' tk h1 h2⟩
end

section
variable {w : World} {A : Around} {s : Shared} {mg mb : Str → Option Value} {hb : Heap} {L P P' c a : Addr} {m : Str → Option Value} {ps : Array Value} {led : List (Addr × Obj)} {T pre : List Nat} {tp tt : Tok} {Q : Flow → Shared → Prop}

/-- the name of the frame's that holds the prefix -/
theorem ldP {p1 : Pos} {Q' E : Value → Shared → Prop} (x : LS hb L P P' s.heap m (some (.str (S pre) tp)) ps led) (h : Q' (.str (S pre) tp) s) :
    wpAny (model prg w) A (eval (.Name (Str.ofString "prefix") p1) (lenv L a (.ref c))) Q' E s := ldC rfl x.cell rfl rfl rfl h

/-- return indent(capwords(text), prefix) == prefix + words -/
theorem law14 {tw : Tok} (f : LF mg mb hb L P P' c) (fa : Facts T pre) (hh : A.handled = none) (hr : A.depth + 5 < recursionLimit) (x : LS hb L P P' s.heap m (some (.str (S pre) tp)) ps led) (hl : ∀ q ∈ led, q.1 ≠ P)
    (hmt : m (Str.ofString "text") = some (.str (S T) tt)) (hmw : m (Str.ofString "words") = some (.str (S (capSp T)) tw))
    (hQ : ∀ h' tk m' ps' led', LS hb L P P' h' m' (some (.str (S pre) tp)) ps' led' → Q (.ret (.bool true)) { s with heap := h', toks := tk }) :
    wpAny (model prg w) A (execs ((fBody (stmtAt 9)).drop 14) (lenv L a (.ref c))) Q (fun _ _ => False) s := by
  have lT := fa.lenT
  conv in List.drop _ _ => whnf
  refine wpAny_execs_cons (wpAny_Return_some (wpAny_Compare1 ?_))
  refine ind_in f.C f.fP x.F.keep hh (by omega) rfl rfl rfl rfl (capsp_in f.C.c x.F.keep hh (by omega) rfl rfl rfl rfl (ldN x.F.ns hmt rfl rfl rfl ⟨T, tt, rfl, x.F.keep, fa.okT, by omega, fun h₁ t₁ k₁ hk₁ => ?_⟩))
  have x₁ := x.keeps hk₁
  refine ldP x₁ ⟨capSp T, t₁, pre, tp, rfl, rfl, x₁.F.keep, x₁.t17, fa.okW, fa.lenW, fa.lenP, fun h₂ t₂ k₂ hk₂ hT₂ => ?_⟩
  have x₂ := x₁.ind f hk₂ hT₂ hl
  refine wpAny_BinOp (ldP x₂ (ldN x₂.F.ns hmw rfl rfl rfl (add_str (fun t₃ k₃ => ?_) ?_)))
  · rw [S_append]
    refine eqS rfl ?_
    rw [decide_eq_true fa.c6]
    exact hQ h₂ k₃ m ps led x₂
  · have := fa.lenW; have := fa.lenP
    rw [S_length, S_length, sizeLine_eq]; omega
end
end Mine

namespace Mine
set_option maxRecDepth 100000
set_option maxHeartbeats 4000000

section
variable {w : World} {A : Around} {s : Shared} {mg mb : Str → Option Value} {hb : Heap} {L P P' c a : Addr} {m : Str → Option Value} {ps : Array Value} {led : List (Addr × Obj)} {T pre : List Nat} {tp tt : Tok} {Q : Flow → Shared → Prop}

/-- a row stored under a name -/
theorem stL {y : Str} {v : Value} {cv : Option Value} {Q' : Unit → Shared → Prop} {E : Value → Shared → Prop} (f : LF mg mb hb L P P' c) (x : LS hb L P P' s.heap m cv ps led) (hy : (lenv L a (.ref c)).kindOf y = some .local)
    (h : ∀ h' tk, LS hb L P P' h' (fun z => if z = y then some v else m z) cv ps led → Q' () { s with heap := h', toks := tk }) : wpAny (model prg w) A (storeName (lenv L a (.ref c)) y v) Q' E s :=
  wpAny_storeName_local hy x.F.ns (fun h' hn hs => h h' _ (x.store f (fun b o hb e => hs.extBut b o hb e) hn)) rfl

/-- if capwords(text) != words or capwords(indent(text, ' \t ')) != words: return False -/
theorem law13 {tw : Tok} (f : LF mg mb hb L P P' c) (fa : Facts T pre) (hh : A.handled = none) (hr : A.depth + 5 < recursionLimit) (x : LS hb L P P' s.heap m (some (.str (S pre) tp)) ps led) (hl : ∀ q ∈ led, q.1 ≠ P)
    (hmt : m (Str.ofString "text") = some (.str (S T) tt)) (hmw : m (Str.ofString "words") = some (.str (S (capSp T)) tw))
    (hQ : ∀ h' tk m' ps' led', LS hb L P P' h' m' (some (.str (S pre) tp)) ps' led' → Q (.ret (.bool true)) { s with heap := h', toks := tk }) :
    wpAny (model prg w) A (execs ((fBody (stmtAt 9)).drop 13) (lenv L a (.ref c))) Q (fun _ _ => False) s := by
  have lT := fa.lenT
  conv in List.drop _ _ => whnf
  refine wpAny_execs_cons (wpAny_If (isTrue_or (wpAny_isTrue_Compare1 ?_)))
  refine capsp_in f.C.c x.F.keep hh (by omega) rfl rfl rfl rfl (ldN x.F.ns hmt rfl rfl rfl ⟨T, tt, rfl, x.F.keep, fa.okT, by omega, fun h₁ t₁ k₁ hk₁ => ?_⟩)
  have x₁ := x.keeps hk₁
  refine ldN x₁.F.ns hmw rfl rfl rfl (neS rfl (wpAny_truthy_bool ?_))
  rw [decide_eq_true rfl, Bool.not_true, if_neg Bool.false_ne_true]
  refine isTrue_or (wpAny_isTrue_Compare1 ?_)
  refine capsp_in f.C.c x₁.F.keep hh (by omega) rfl rfl rfl rfl (ind_in f.C f.fP x₁.F.keep hh (by omega) rfl rfl rfl rfl (ldN x₁.F.ns hmt rfl rfl rfl (wpAny_Constant_str ⟨T, tt, [32, 9, 32], k₁, rfl, congrArg (fun y => Value.str y k₁) (show Str.ofString " \t " = S [32, 9, 32] by decide +kernel), x₁.F.keep, x₁.t17, fa.okT, by omega, by decide, fun h₂ t₂ k₂ hk₂ hT₂ => ?_⟩)))
  have x₂ := x₁.ind f hk₂ hT₂ hl
  refine ⟨_, t₂, rfl, x₂.F.keep, fa.okJ, fa.lenJ, fun h₃ t₃ k₃ hk₃ => ?_⟩
  have x₃ := x₂.keeps hk₃
  refine ldN x₃.F.ns hmw rfl rfl rfl (neS rfl (wpAny_truthy_bool ?_))
  rw [decide_eq_true fa.c5, Bool.not_true, if_neg Bool.false_ne_true]
  refine isTrue_or_nil ?_
  rw [if_neg Bool.false_ne_true]
  refine wpAny_execs_nil ?_
  exact law14 f fa hh hr x₃ hl hmt hmw hQ

def argAt (n : Nat) (e : Expr) : Expr := (callArgs e).getD n (.Constant .none 0 ⟨0, 0, 0, 0⟩)
theorem elt12 {vs : List Value} {rs : List (List Nat)} (X : Ctx mg mb s.heap) (hh : A.handled = none) (hr : A.depth + 1 < recursionLimit) (hS : Strs vs rs) (hrs : ∀ r ∈ rs, (∀ c ∈ r, c < 128) ∧ r.length ≤ 2000) :
    EltOk w A s (lenv L a (.ref c)) (cScope (argAt 0 (compAt 12))) [] (Str.ofString "word") (cElt (argAt 0 (compAt 12))) vs (rs.map great) := by
  intro i v gi C mC s' hv hg hm hn hk Q' hq
  obtain ⟨r, t, rfl, hri⟩ := hS.get hv
  rw [List.getElem?_map, hri] at hg
  cases hg
  have hrr := hrs r (List.mem_of_getElem? hri)
  conv in cElt _ => whnf
  exact great_in (X.keeps hk) hh (by omega) rfl rfl rfl rfl (ldN hn hm rfl rfl rfl ⟨r, t, rfl, fun _ _ e => e, hrr.1, by omega, fun h' t' tk hk' => hq h' t' tk hk'⟩)

/-- words = ' '.join([_law_great(word) for word in _law_words(text)]) -/
theorem law12 (f : LF mg mb hb L P P' c) (fa : Facts T pre) (hh : A.handled = none) (hr : A.depth + 5 < recursionLimit) (x : LS hb L P P' s.heap m (some (.str (S pre) tp)) ps led) (hl : ∀ q ∈ led, q.1 ≠ P)
    (hmt : m (Str.ofString "text") = some (.str (S T) tt))
    (hQ : ∀ h' tk m' ps' led', LS hb L P P' h' m' (some (.str (S pre) tp)) ps' led' → Q (.ret (.bool true)) { s with heap := h', toks := tk }) :
    wpAny (model prg w) A (execs ((fBody (stmtAt 9)).drop 12) (lenv L a (.ref c))) Q (fun _ _ => False) s := by
  have lT := fa.lenT
  have hwb := wordsOf_bound T
  have hT128 : ∀ c ∈ T, c < 128 := fun c hc => ok_lt (fa.okT c hc)
  obtain ⟨fw, cdw, hgw, fo, _, _, _, _, _, hfo, hfd, _⟩ := f.C.c.words
  conv in List.drop _ _ => whnf
  refine wpAny_execs_cons (wpAny_Assign_Name (str_meth1 rfl rfl rfl PySem.F.slot_str_join PySem.F.type_str_join (wpAny_Constant_str ⟨_, _, rfl, ?_⟩)))
  refine comp_expr (cl := []) hh rfl (by decide) rfl (by decide) rfl ?_ (fun _ => rfl)
  refine call1 (f.C.c.g.keeps x.F.keep) hgw rfl rfl rfl rfl rfl hfd (ldN x.F.ns hmt rfl rfl rfl ⟨x.F.keep _ _ hfo, words_call (f.C.c.keeps x.F.keep) hgw hh (by omega) hT128 (by omega) fun D vs n h₁ k₁ hk₁ hfr hD hS => ?_⟩)
  have x₁ := x.keeps hk₁
  refine ⟨D, vs, (wordsOf T).map great, rfl, ⟨_, hD, rfl, _, rfl⟩, by rw [List.length_map, hS.length], by have := hS.length; omega, elt12 (f.C.c.keeps x₁.F.keep) hh (by omega) hS fun r hr => ⟨wordsOf_mem _ hT128 r hr, by have := hwb.2 r hr; omega⟩, fun Acc acc h₂ k₂ hk₂ hA hSa hfa => ?_⟩
  have x₂ := x₁.keeps hk₂
  rw [show Str.ofString " " = S [32] by decide +kernel]
  refine join_list hA hSa (fun r hr => ?_) (by rw [List.length_map]; omega) (by decide) fun t₃ k₃ => ?_
  · obtain ⟨r', hr', rfl⟩ := List.mem_map.mp hr
    rw [great_length]; have := hwb.2 r' hr'; omega
  refine stL f x₂ rfl fun h₄ k₄ x₄ => ?_
  exact law13 f fa hh hr x₄ hl ((if_neg (by decide)).trans hmt) (if_pos rfl) hQ
end
end Mine

namespace Mine
set_option maxRecDepth 100000
set_option maxHeartbeats 4000000

abbrev q2 : Str := Str.ofString "law" ++ ".<locals>." ++ "<lambda>"
section
variable {w : World} {A : Around} {s : Shared} {mg mb : Str → Option Value} {hb h h' : Heap} {L P P' c a : Addr} {m : Str → Option Value} {ps ps' : Array Value} {led : List (Addr × Obj)} {T pre : List Nat} {tp tt : Tok} {Q : Flow → Shared → Prop} {cv : Option Value}

theorem LS.lam (f : LF mg mb hb L P P' c) (x : LS hb L P P' h m cv #[] led) (k : ∀ b o, b ≠ P' → h.get? b = some o → h'.get? b = some o) (eT : h'.get? P' = some (tabObj ps')) (hl : ∀ q ∈ led, q.1 ≠ P') : LS hb L P P' h' m cv ps' led := by
  refine ⟨⟨?_, fun b o e => k b o (by rintro rfl; rw [f.fP'] at e; cases e) (x.F.keep b o e), x.F.above⟩, x.t17.but k f.PP' ?_, eT, let ⟨o, e, r⟩ := x.cell; ⟨o, k _ _ f.cP' e, r⟩, fun q hq => ⟨k _ _ (hl q hq) (x.N q hq).1, (x.N q hq).2⟩⟩
  · obtain ⟨oL, es, ep, hL, r⟩ := x.F.ns
    exact ⟨oL, es, ep, k _ _ (Ne.symm f.P'L) hL, r⟩
  · intro o vs e hd q t hv
    rw [x.t60] at e; cases e
    cases hd
    simp at hv

/-- the lambda of the law is made -/
theorem lam2_eval {Q' E : Value → Shared → Prop} (f : LF mg mb hb L P P' c) (x : LS hb L P P' s.heap m cv #[] led) (hl : ∀ q ∈ led, q.1 ≠ P')
    (h : ∀ fl c' ctv h' tk, LS hb L P P' h' m cv #[rawInt (lPos lam2).line, rawInt (lPos lam2).col, .ref c'] led → h'.get? fl = some (kla_obj "<lambda>" q2 (lParams lam2) (lBody lam2) (lScope lam2) [] ((mg "__name__").getD .none) c' ctv) → h'.CodeRec (.ref c') q2 → Q' (.ref fl) { s with heap := h', toks := tk }) :
    wpAny (model prg w) A (eval lam2 (lenv L a (.ref c))) Q' E s := by
  obtain ⟨p, loose, mean, T⟩ := f.C.top
  have hgs := T.g.keeps x.F.keep
  obtain ⟨bm, ob, b1, b2, b3, b4, b5, b6⟩ := T.bmain
  have hgP : mainGlobals ≠ P' := fun q => by
    obtain ⟨o, es, ep, e, hd, _⟩ := hgs
    rw [q, x.t60] at e; cases e; cases hd
  have hbP : bm ≠ P' := fun q => by
    have e := x.F.keep _ _ b3
    rw [q, x.t60] at e; cases e; cases b4
  have hbG : bm ≠ mainGlobals := fun q => by
    obtain ⟨o, es, ep, e, hd, _⟩ := T.g
    rw [q, e] at b3; cases b3; rw [hd] at b6; cases b6
  conv in eval lam2 _ => arg 1; whnf
  refine kla_eval rfl (kla_makeFunction (mg := mg) (ps := #[]) (clos := []) rfl rfl hgs rfl (f.H.keeps x.F.keep) x.t60 (by trivial) rfl hgP ⟨bm, ob, b1, b2, hbG, hbP, x.F.keep _ _ b3, b4, b5, b6⟩ fun c' ctv h' tk hx hge hlt hrec htb => ?_)
  have up : Keeps h' (h'.push (kla_obj "<lambda>" q2 (lParams lam2) (lBody lam2) (lScope lam2) [] ((mg "__name__").getD .none) c' ctv)) := fun b o e => Heap.get?_push_of_some _ e
  exact h h'.objs.size c' ctv _ tk ((x.lam f (fun b o hb e => hx b o hb e) htb hl).keeps up) (Heap.get?_push_size _ rfl) (hrec.keeps up)
end

section
variable {w : World} {A : Around} {s : Shared} {mg mb : Str → Option Value} {hb : Heap} {L P P' c a : Addr} {m : Str → Option Value} {ps : Array Value} {led : List (Addr × Obj)} {T pre : List Nat} {tp tt : Tok} {Q : Flow → Shared → Prop}

/-- ''.join of a list that a name of the frame's holds -/
theorem joinN {y : Str} {Acc : Addr} {o : Obj} {n : Nat} {acc : List Value} {gs : List (List Nat)} {k : Nat} {p1 p2 p3 p4 : Pos} {cv : Option Value} {Q' E : Value → Shared → Prop} (x : LS hb L P P' s.heap m cv ps led) (hmem : (Acc, o) ∈ led) (hc : o.cls = .type "list") (hd : o.data = .seq acc.toArray n) (hS : Strs acc gs)
    (hb1 : ∀ r ∈ gs, r.length ≤ 2000) (hb2 : gs.length ≤ 5000) (hm : m y = some (.ref Acc)) (hy : (lenv L a (.ref c)).kindOf y = some .local) (hyd : (y == ("__debug__" : Str)) = false)
    (hbase : attributeBase (.Constant (.str (Str.ofString "")) k p1) (Str.ofString "join") (lenv L a (.ref c)) (eval (.Constant (.str (Str.ofString "")) k p1) (lenv L a (.ref c))) = eval (.Constant (.str (Str.ofString "")) k p1) (lenv L a (.ref c))) (hp : (p2.endLine == p3.line) = true)
    (h : ∀ t' k, Q' (.str (S gs.flatten) t') { s with toks := k }) :
    wpAny (model prg w) A (eval (.Call (.Attribute (.Constant (.str (Str.ofString "")) k p1) (Str.ofString "join") p2) [.Name y p4] [] p3) (lenv L a (.ref c))) Q' E s := by
  refine str_meth1 hbase rfl hp PySem.F.slot_str_join PySem.F.type_str_join (wpAny_Constant_str ⟨_, _, rfl, ldN (by exact x.F.ns) hm rfl hy hyd ?_⟩)
  rw [show Str.ofString "" = S [] by decide +kernel]
  refine join_list ⟨o, (x.N _ hmem).1, hc, n, hd⟩ hS hb1 hb2 (by decide) fun t' k' => ?_
  rw [joinL_nil]
  exact h t' k'

/-- if indent(text, prefix, lambda row: capwords(row, '\n') != row) != ''.join(due): return False -/
theorem law11 {Acc : Addr} {o : Obj} {n : Nat} {acc : List Value} (f : LF mg mb hb L P P' c) (fa : Facts T pre) (hh : A.handled = none) (hr : A.depth + 5 < recursionLimit) (x : LS hb L P P' s.heap m (some (.str (S pre) tp)) #[] led) (hl : ∀ q ∈ led, q.1 ≠ P ∧ q.1 ≠ P')
    (hmt : m (Str.ofString "text") = some (.str (S T) tt)) (hmd : m (Str.ofString "due") = some (.ref Acc)) (hmem : (Acc, o) ∈ led) (hc : o.cls = .type "list") (hd : o.data = .seq acc.toArray n)
    (hS : Strs acc ((rowsOf T).map fun r => if great r = r then r else pre ++ r))
    (hQ : ∀ h' tk m' ps' led', LS hb L P P' h' m' (some (.str (S pre) tp)) ps' led' → Q (.ret (.bool true)) { s with heap := h', toks := tk }) :
    wpAny (model prg w) A (execs ((fBody (stmtAt 9)).drop 11) (lenv L a (.ref c))) Q (fun _ _ => False) s := by
  have lT := fa.lenT
  have lP := fa.lenP
  have hrb := rowsOf_bound T
  have hrl := rowsOf_len T
  obtain ⟨fi, cdi, Ti, oi, ni, hgi, ⟨fo, _, _, _, _, _, hfo, hfd, _⟩, _⟩ := id f.C.ind
  conv in List.drop _ _ => whnf
  refine wpAny_execs_cons (wpAny_If (wpAny_isTrue_Compare1 ?_))
  refine PyProof.Rows.Call_Name (trees := [(false, eval (.Name (Str.ofString "text") _) (lenv L a (.ref c))), (false, eval (.Name (Str.ofString "prefix") _) (lenv L a (.ref c))), (false, eval lam2 (lenv L a (.ref c)))]) rfl (ldG (f.C.c.g.keeps x.F.keep) hgi rfl rfl rfl rfl ?_)
  refine Calls.callWith_function (o := fo) (Calls.evalArgs_plain (Calls.spliced_cons (ldN x.F.ns hmt rfl rfl rfl (Calls.spliced_cons (ldP x (Calls.spliced_cons (lam2_eval f x (fun q hq => (hl q hq).2) fun fl c' ctv h₁ k₁ x₁ hfl hrec => Calls.spliced_nil ⟨⟨x₁.F.keep _ _ hfo, hfd⟩, ?_⟩)))))))
  refine ind_call2 (p := pr2) (f.C.keeps x₁.F.keep) hgi hh (by omega) ⟨_, _, hfl, rfl⟩ (fun env s' r t Q' E' hk hro hrl' hq => pred2 (by exact hh) (by show A.depth + 1 + 1 < _; omega) (hk _ _ hfl) (hrec.keeps hk) ((f.C.c.keeps x₁.F.keep).keeps hk) (fun c hc => ok_lt (hro c hc)) hrl' hq) fa.okT (by omega) fa.lenP fun t₂ h₂ k₂ hk₂ => ?_
  have x₂ := x₁.keeps hk₂
  refine joinN x₂ hmem hc hd hS (fun r hr' => ?_) (by rw [List.length_map]; omega) hmd rfl rfl rfl rfl fun t₃ k₃ => neS rfl (wpAny_truthy_bool ?_)
  · obtain ⟨r', hr'', rfl⟩ := List.mem_map.mp hr'
    have := hrb r' hr''
    split
    · omega
    · rw [List.length_append]; omega
  · rw [decide_eq_true fa.c4, Bool.not_true, if_neg Bool.false_ne_true]
    refine wpAny_execs_nil ?_
    exact law12 f fa hh hr x₂ (fun q hq => (hl q hq).1) hmt hQ
end
end Mine

namespace Mine
set_option maxRecDepth 100000
set_option maxHeartbeats 4000000

section
variable {w : World} {A : Around} {s : Shared} {mg mb : Str → Option Value} {hb h : Heap} {L P P' c a Rw : Addr} {m : Str → Option Value} {ps : Array Value} {led : List (Addr × Obj)} {T pre : List Nat} {tp tt : Tok} {Q : Flow → Shared → Prop} {cv : Option Value} {rvs : List Value} {rn : Nat}

theorem LS.add {Acc : Addr} {o : Obj} (x : LS hb L P P' h m cv ps led) (e : h.get? Acc = some o) (hL : Acc ≠ L) (hf : hb.get? Acc = none) : LS hb L P P' h m cv ps ((Acc, o) :: led) :=
  ⟨x.F, x.t17, x.t60, x.cell, fun q hq => by
    rcases List.mem_cons.mp hq with rfl | hq
    · exact ⟨e, hL, hf⟩
    · exact x.N q hq⟩
/-- a list that a comprehension has made goes onto the ledger -/
theorem LS.made {h' : Heap} {m' : Str → Option Value} {Acc : Addr} {acc : List Value} (f : LF mg mb hb L P P' c) (x : LS hb L P P' h m cv ps led) (hl : ∀ q ∈ led, q.1 ≠ P ∧ q.1 ≠ P') (k : ∀ b o, b ≠ L → h.get? b = some o → h'.get? b = some o) (hn : h'.Ns L m')
    (hA : h'.IsList Acc acc.toArray) (hfr : h.get? Acc = none) :
    ∃ o n, LS hb L P P' h' m' cv ps ((Acc, o) :: led) ∧ o.cls = .type "list" ∧ o.data = .seq acc.toArray n ∧ ∀ q ∈ (Acc, o) :: led, q.1 ≠ P ∧ q.1 ≠ P' := by
  obtain ⟨o, e, hc, n, hd⟩ := hA
  have ne : ∀ {b : Addr} {ob : Obj}, h.get? b = some ob → Acc ≠ b := fun e q => by rw [q, e] at hfr; cases hfr
  obtain ⟨oL, es, ep, hL, _⟩ := x.F.ns
  obtain ⟨psP, hP, _⟩ := x.t17
  refine ⟨o, n, (x.store f k hn).add e (ne hL) ?_, hc, hd, fun q hq => ?_⟩
  · cases q : hb.get? Acc with
    | none => rfl
    | some ob => exact absurd rfl (ne (x.F.keep _ _ q))
  · rcases List.mem_cons.mp hq with rfl | hq
    · exact ⟨ne hP, ne x.t60⟩
    · exact hl q hq

/-- due = [row if _law_great(row) == row else prefix + row for row in rows] -/
theorem law10 (f : LF mg mb hb L P P' c) (fa : Facts T pre) (hh : A.handled = none) (hr : A.depth + 5 < recursionLimit) (x : LS hb L P P' s.heap m (some (.str (S pre) tp)) #[] led) (hl : ∀ q ∈ led, q.1 ≠ P ∧ q.1 ≠ P')
    (hmt : m (Str.ofString "text") = some (.str (S T) tt)) (hmr : m (Str.ofString "rows") = some (.ref Rw)) (hRm : (Rw, listOf rvs.toArray rn) ∈ led) (hRS : Strs rvs (rowsOf T))
    (hQ : ∀ h' tk m' ps' led', LS hb L P P' h' m' (some (.str (S pre) tp)) ps' led' → Q (.ret (.bool true)) { s with heap := h', toks := tk }) :
    wpAny (model prg w) A (execs ((fBody (stmtAt 9)).drop 10) (lenv L a (.ref c))) Q (fun _ _ => False) s := by
  have lT := fa.lenT
  have hrb := rowsOf_bound T
  have hrl := rowsOf_len T
  have hrs : ∀ r ∈ rowsOf T, (∀ c ∈ r, c < 128) ∧ r.length ≤ 2000 := fun r hr => ⟨rowsOf_mem _ (fun c hc => ok_lt (fa.okT c hc)) r hr, by have := hrb r hr; omega⟩
  conv in List.drop _ _ => whnf
  refine wpAny_execs_cons (comp_assign (cl := [(Str.ofString "prefix", L + 1)]) hh rfl rfl (by decide) rfl (by decide) rfl rfl rfl (ldN x.F.ns hmr rfl rfl rfl ⟨Rw, rvs, _, m, rfl, ⟨_, (x.N _ hRm).1, rfl, _, rfl⟩, by rw [List.length_map, hRS.length], by have := hRS.length; omega,
    elt10 (f.C.c.keeps x.F.keep) x.cell fa.lenP hh (by omega) hRS hrs, x.F.ns, fun Acc acc h₁ k₁ hk₁ hn₁ hA hSa hfr => ?_⟩) (fun _ => rfl))
  obtain ⟨o, n, x₁, hc, hd, hl₁⟩ := x.made f hl hk₁ hn₁ hA hfr
  exact law11 f fa hh hr x₁ hl₁ ((if_neg (by decide)).trans hmt) (if_pos rfl) (.head _) hc hd hSa hQ
end
end Mine

namespace Mine
set_option maxRecDepth 100000
set_option maxHeartbeats 4000000

section
variable {w : World} {A : Around} {s : Shared} {mg mb : Str → Option Value} {hb h : Heap} {L P P' c a Rw : Addr} {m : Str → Option Value} {ps : Array Value} {led : List (Addr × Obj)} {T pre : List Nat} {tp tt : Tok} {Q : Flow → Shared → Prop} {cv : Option Value} {rvs : List Value} {rn : Nat}

/-- if capwords(indent(text, prefix), '\n') != ''.join(due): return False -/
theorem law9 {Acc : Addr} {o : Obj} {n : Nat} {acc : List Value} (f : LF mg mb hb L P P' c) (fa : Facts T pre) (hh : A.handled = none) (hr : A.depth + 5 < recursionLimit) (x : LS hb L P P' s.heap m (some (.str (S pre) tp)) #[] led) (hl : ∀ q ∈ led, q.1 ≠ P ∧ q.1 ≠ P')
    (hmt : m (Str.ofString "text") = some (.str (S T) tt)) (hmr : m (Str.ofString "rows") = some (.ref Rw)) (hRm : (Rw, listOf rvs.toArray rn) ∈ led) (hRS : Strs rvs (rowsOf T))
    (hmd : m (Str.ofString "due") = some (.ref Acc)) (hmem : (Acc, o) ∈ led) (hc : o.cls = .type "list") (hd : o.data = .seq acc.toArray n)
    (hS : Strs acc ((rowsOf T).map fun r => great (if wordsOf r = [] then r else pre ++ r)))
    (hQ : ∀ h' tk m' ps' led', LS hb L P P' h' m' (some (.str (S pre) tp)) ps' led' → Q (.ret (.bool true)) { s with heap := h', toks := tk }) :
    wpAny (model prg w) A (execs ((fBody (stmtAt 9)).drop 9) (lenv L a (.ref c))) Q (fun _ _ => False) s := by
  have lT := fa.lenT
  have lP := fa.lenP
  have hrb := rowsOf_bound T
  have hrl := rowsOf_len T
  conv in List.drop _ _ => whnf
  refine wpAny_execs_cons (wpAny_If (wpAny_isTrue_Compare1 ?_))
  refine capnl_in f.C.c x.F.keep hh (by omega) rfl rfl rfl rfl (ind_in f.C f.fP x.F.keep hh (by omega) rfl rfl rfl rfl (ldN x.F.ns hmt rfl rfl rfl (ldP x ⟨T, tt, pre, tp, rfl, rfl, x.F.keep, x.t17, fa.okT, by omega, fa.lenP, fun h₁ t₁ k₁ hk₁ hT₁ => ?_⟩)))
  have x₁ := x.ind f hk₁ hT₁ (fun q hq => (hl q hq).1)
  refine ⟨_, t₁, rfl, x₁.F.keep, fun c hc => ok_lt (fa.okI c hc), fa.lenI, fun h₂ t₂ k₂ hk₂ => ?_⟩
  have x₂ := x₁.keeps hk₂
  refine joinN x₂ hmem hc hd hS (fun r hr' => ?_) (by rw [List.length_map]; omega) hmd rfl rfl rfl rfl fun t₃ k₃ => neS rfl (wpAny_truthy_bool ?_)
  · obtain ⟨r', hr'', rfl⟩ := List.mem_map.mp hr'
    have := hrb r' hr''
    rw [great_length]
    split
    · omega
    · rw [List.length_append]; omega
  · rw [decide_eq_true fa.c3, Bool.not_true, if_neg Bool.false_ne_true]
    refine wpAny_execs_nil ?_
    exact law10 f fa hh hr x₂ hl hmt hmr hRm hRS hQ

/-- due = [_law_great(row if _law_white(row) else prefix + row) for row in rows] -/
theorem law8 (f : LF mg mb hb L P P' c) (fa : Facts T pre) (hh : A.handled = none) (hr : A.depth + 5 < recursionLimit) (hu : A.units + 80 < cLine) (x : LS hb L P P' s.heap m (some (.str (S pre) tp)) #[] led) (hl : ∀ q ∈ led, q.1 ≠ P ∧ q.1 ≠ P')
    (hmt : m (Str.ofString "text") = some (.str (S T) tt)) (hmr : m (Str.ofString "rows") = some (.ref Rw)) (hRm : (Rw, listOf rvs.toArray rn) ∈ led) (hRS : Strs rvs (rowsOf T))
    (hQ : ∀ h' tk m' ps' led', LS hb L P P' h' m' (some (.str (S pre) tp)) ps' led' → Q (.ret (.bool true)) { s with heap := h', toks := tk }) :
    wpAny (model prg w) A (execs ((fBody (stmtAt 9)).drop 8) (lenv L a (.ref c))) Q (fun _ _ => False) s := by
  have lT := fa.lenT
  have hrb := rowsOf_bound T
  have hrl := rowsOf_len T
  have hrs : ∀ r ∈ rowsOf T, (∀ c ∈ r, c < 128) ∧ r.length ≤ 2000 := fun r hr => ⟨rowsOf_mem _ (fun c hc => ok_lt (fa.okT c hc)) r hr, by have := hrb r hr; omega⟩
  conv in List.drop _ _ => whnf
  refine wpAny_execs_cons (comp_assign (cl := [(Str.ofString "prefix", L + 1)]) hh rfl rfl (by decide) rfl (by decide) rfl rfl rfl (ldN x.F.ns hmr rfl rfl rfl ⟨Rw, rvs, _, m, rfl, ⟨_, (x.N _ hRm).1, rfl, _, rfl⟩, by rw [List.length_map, hRS.length], by have := hRS.length; omega,
    elt8 (f.C.c.keeps x.F.keep) x.cell fa.lenP (fun c hc => ok_lt (fa.okP c hc)) hh (by omega) hu hRS hrs, x.F.ns, fun Acc acc h₁ k₁ hk₁ hn₁ hA hSa hfr => ?_⟩) (fun _ => rfl))
  obtain ⟨o, n, x₁, hc, hd, hl₁⟩ := x.made f hl hk₁ hn₁ hA hfr
  exact law9 f fa hh hr x₁ hl₁ ((if_neg (by decide)).trans hmt) ((if_neg (by decide)).trans hmr) (.tail _ hRm) hRS (if_pos rfl) (.head _) hc hd hSa hQ

/-- if indent(capwords(text, '\n'), prefix) != ''.join(due): return False -/
theorem law7 {Acc : Addr} {o : Obj} {n : Nat} {acc : List Value} (f : LF mg mb hb L P P' c) (fa : Facts T pre) (hh : A.handled = none) (hr : A.depth + 5 < recursionLimit) (hu : A.units + 80 < cLine) (x : LS hb L P P' s.heap m (some (.str (S pre) tp)) #[] led) (hl : ∀ q ∈ led, q.1 ≠ P ∧ q.1 ≠ P')
    (hmt : m (Str.ofString "text") = some (.str (S T) tt)) (hmr : m (Str.ofString "rows") = some (.ref Rw)) (hRm : (Rw, listOf rvs.toArray rn) ∈ led) (hRS : Strs rvs (rowsOf T))
    (hmd : m (Str.ofString "due") = some (.ref Acc)) (hmem : (Acc, o) ∈ led) (hc : o.cls = .type "list") (hd : o.data = .seq acc.toArray n)
    (hS : Strs acc ((rowsOf T).map fun r => if wordsOf r = [] then great r else pre ++ great r))
    (hQ : ∀ h' tk m' ps' led', LS hb L P P' h' m' (some (.str (S pre) tp)) ps' led' → Q (.ret (.bool true)) { s with heap := h', toks := tk }) :
    wpAny (model prg w) A (execs ((fBody (stmtAt 9)).drop 7) (lenv L a (.ref c))) Q (fun _ _ => False) s := by
  have lT := fa.lenT
  have lP := fa.lenP
  have hrb := rowsOf_bound T
  have hrl := rowsOf_len T
  conv in List.drop _ _ => whnf
  refine wpAny_execs_cons (wpAny_If (wpAny_isTrue_Compare1 ?_))
  refine ind_in f.C f.fP x.F.keep hh (by omega) rfl rfl rfl rfl (capnl_in f.C.c x.F.keep hh (by omega) rfl rfl rfl rfl (ldN x.F.ns hmt rfl rfl rfl ⟨T, tt, rfl, x.F.keep, fun c hc => ok_lt (fa.okT c hc), by omega, fun h₁ t₁ k₁ hk₁ => ?_⟩))
  have x₁ := x.keeps hk₁
  refine ldP x₁ ⟨capNL T, t₁, pre, tp, rfl, rfl, x₁.F.keep, x₁.t17, fa.okC, fa.lenC, fa.lenP, fun h₂ t₂ k₂ hk₂ hT₂ => ?_⟩
  have x₂ := x₁.ind f hk₂ hT₂ (fun q hq => (hl q hq).1)
  refine joinN x₂ hmem hc hd hS (fun r hr' => ?_) (by rw [List.length_map]; omega) hmd rfl rfl rfl rfl fun t₃ k₃ => neS rfl (wpAny_truthy_bool ?_)
  · obtain ⟨r', hr'', rfl⟩ := List.mem_map.mp hr'
    have := hrb r' hr''
    split
    · rw [great_length]; omega
    · rw [List.length_append, great_length]; omega
  · rw [decide_eq_true fa.c2, Bool.not_true, if_neg Bool.false_ne_true]
    refine wpAny_execs_nil ?_
    exact law8 f fa hh hr hu x₂ hl hmt hmr hRm hRS hQ

/-- due = [_law_great(row) if _law_white(row) else prefix + _law_great(row) for row in rows] -/
theorem law6 (f : LF mg mb hb L P P' c) (fa : Facts T pre) (hh : A.handled = none) (hr : A.depth + 5 < recursionLimit) (hu : A.units + 80 < cLine) (x : LS hb L P P' s.heap m (some (.str (S pre) tp)) #[] led) (hl : ∀ q ∈ led, q.1 ≠ P ∧ q.1 ≠ P')
    (hmt : m (Str.ofString "text") = some (.str (S T) tt)) (hmr : m (Str.ofString "rows") = some (.ref Rw)) (hRm : (Rw, listOf rvs.toArray rn) ∈ led) (hRS : Strs rvs (rowsOf T))
    (hQ : ∀ h' tk m' ps' led', LS hb L P P' h' m' (some (.str (S pre) tp)) ps' led' → Q (.ret (.bool true)) { s with heap := h', toks := tk }) :
    wpAny (model prg w) A (execs ((fBody (stmtAt 9)).drop 6) (lenv L a (.ref c))) Q (fun _ _ => False) s := by
  have lT := fa.lenT
  have hrb := rowsOf_bound T
  have hrl := rowsOf_len T
  have hrs : ∀ r ∈ rowsOf T, (∀ c ∈ r, c < 128) ∧ r.length ≤ 2000 := fun r hr => ⟨rowsOf_mem _ (fun c hc => ok_lt (fa.okT c hc)) r hr, by have := hrb r hr; omega⟩
  conv in List.drop _ _ => whnf
  refine wpAny_execs_cons (comp_assign (cl := [(Str.ofString "prefix", L + 1)]) hh rfl rfl (by decide) rfl (by decide) rfl rfl rfl (ldN x.F.ns hmr rfl rfl rfl ⟨Rw, rvs, _, m, rfl, ⟨_, (x.N _ hRm).1, rfl, _, rfl⟩, by rw [List.length_map, hRS.length], by have := hRS.length; omega,
    elt6 (f.C.c.keeps x.F.keep) x.cell fa.lenP hh (by omega) hu hRS hrs, x.F.ns, fun Acc acc h₁ k₁ hk₁ hn₁ hA hSa hfr => ?_⟩) (fun _ => rfl))
  obtain ⟨o, n, x₁, hc, hd, hl₁⟩ := x.made f hl hk₁ hn₁ hA hfr
  exact law7 f fa hh hr hu x₁ hl₁ ((if_neg (by decide)).trans hmt) ((if_neg (by decide)).trans hmr) (.tail _ hRm) hRS (if_pos rfl) (.head _) hc hd hSa hQ

/-- if capwords(text, '\n') != ''.join(great): return False -/
theorem law5 {Acc : Addr} {o : Obj} {n : Nat} {acc : List Value} (f : LF mg mb hb L P P' c) (fa : Facts T pre) (hh : A.handled = none) (hr : A.depth + 5 < recursionLimit) (hu : A.units + 80 < cLine) (x : LS hb L P P' s.heap m (some (.str (S pre) tp)) #[] led) (hl : ∀ q ∈ led, q.1 ≠ P ∧ q.1 ≠ P')
    (hmt : m (Str.ofString "text") = some (.str (S T) tt)) (hmr : m (Str.ofString "rows") = some (.ref Rw)) (hRm : (Rw, listOf rvs.toArray rn) ∈ led) (hRS : Strs rvs (rowsOf T))
    (hmd : m (Str.ofString "great") = some (.ref Acc)) (hmem : (Acc, o) ∈ led) (hc : o.cls = .type "list") (hd : o.data = .seq acc.toArray n)
    (hS : Strs acc ((rowsOf T).map great))
    (hQ : ∀ h' tk m' ps' led', LS hb L P P' h' m' (some (.str (S pre) tp)) ps' led' → Q (.ret (.bool true)) { s with heap := h', toks := tk }) :
    wpAny (model prg w) A (execs ((fBody (stmtAt 9)).drop 5) (lenv L a (.ref c))) Q (fun _ _ => False) s := by
  have lT := fa.lenT
  have hrb := rowsOf_bound T
  have hrl := rowsOf_len T
  conv in List.drop _ _ => whnf
  refine wpAny_execs_cons (wpAny_If (wpAny_isTrue_Compare1 ?_))
  refine capnl_in f.C.c x.F.keep hh (by omega) rfl rfl rfl rfl (ldN x.F.ns hmt rfl rfl rfl ⟨T, tt, rfl, x.F.keep, fun c hc => ok_lt (fa.okT c hc), by omega, fun h₁ t₁ k₁ hk₁ => ?_⟩)
  have x₁ := x.keeps hk₁
  refine joinN x₁ hmem hc hd hS (fun r hr' => ?_) (by rw [List.length_map]; omega) hmd rfl rfl rfl rfl fun t₃ k₃ => neS rfl (wpAny_truthy_bool ?_)
  · obtain ⟨r', hr'', rfl⟩ := List.mem_map.mp hr'
    have := hrb r' hr''
    rw [great_length]; omega
  · rw [decide_eq_true fa.c1, Bool.not_true, if_neg Bool.false_ne_true]
    refine wpAny_execs_nil ?_
    exact law6 f fa hh hr hu x₁ hl hmt hmr hRm hRS hQ

/-- great = [_law_great(row) for row in rows] -/
theorem law4 (f : LF mg mb hb L P P' c) (fa : Facts T pre) (hh : A.handled = none) (hr : A.depth + 5 < recursionLimit) (hu : A.units + 80 < cLine) (x : LS hb L P P' s.heap m (some (.str (S pre) tp)) #[] led) (hl : ∀ q ∈ led, q.1 ≠ P ∧ q.1 ≠ P')
    (hmt : m (Str.ofString "text") = some (.str (S T) tt)) (hmr : m (Str.ofString "rows") = some (.ref Rw)) (hRm : (Rw, listOf rvs.toArray rn) ∈ led) (hRS : Strs rvs (rowsOf T))
    (hQ : ∀ h' tk m' ps' led', LS hb L P P' h' m' (some (.str (S pre) tp)) ps' led' → Q (.ret (.bool true)) { s with heap := h', toks := tk }) :
    wpAny (model prg w) A (execs ((fBody (stmtAt 9)).drop 4) (lenv L a (.ref c))) Q (fun _ _ => False) s := by
  have lT := fa.lenT
  have hrb := rowsOf_bound T
  have hrl := rowsOf_len T
  have hrs : ∀ r ∈ rowsOf T, (∀ c ∈ r, c < 128) ∧ r.length ≤ 2000 := fun r hr => ⟨rowsOf_mem _ (fun c hc => ok_lt (fa.okT c hc)) r hr, by have := hrb r hr; omega⟩
  conv in List.drop _ _ => whnf
  refine wpAny_execs_cons (comp_assign (cl := []) hh rfl rfl (by decide) rfl (by decide) rfl rfl rfl (ldN x.F.ns hmr rfl rfl rfl ⟨Rw, rvs, _, m, rfl, ⟨_, (x.N _ hRm).1, rfl, _, rfl⟩, by rw [List.length_map, hRS.length], by have := hRS.length; omega,
    elt4 (f.C.c.keeps x.F.keep) hh (by omega) hRS hrs, x.F.ns, fun Acc acc h₁ k₁ hk₁ hn₁ hA hSa hfr => ?_⟩) (fun _ => rfl))
  obtain ⟨o, n, x₁, hc, hd, hl₁⟩ := x.made f hl hk₁ hn₁ hA hfr
  exact law5 f fa hh hr hu x₁ hl₁ ((if_neg (by decide)).trans hmt) ((if_neg (by decide)).trans hmr) (.tail _ hRm) hRS (if_pos rfl) (.head _) hc hd hSa hQ

/-- rows = _law_rows(text) -/
theorem law3 (f : LF mg mb hb L P P' c) (fa : Facts T pre) (hh : A.handled = none) (hr : A.depth + 5 < recursionLimit) (hu : A.units + 80 < cLine) (x : LS hb L P P' s.heap m (some (.str (S pre) tp)) #[] led) (hl : ∀ q ∈ led, q.1 ≠ P ∧ q.1 ≠ P')
    (hmt : m (Str.ofString "text") = some (.str (S T) tt))
    (hQ : ∀ h' tk m' ps' led', LS hb L P P' h' m' (some (.str (S pre) tp)) ps' led' → Q (.ret (.bool true)) { s with heap := h', toks := tk }) :
    wpAny (model prg w) A (execs ((fBody (stmtAt 9)).drop 3) (lenv L a (.ref c))) Q (fun _ _ => False) s := by
  have lT := fa.lenT
  have hT128 : ∀ c ∈ T, c < 128 := fun c hc => ok_lt (fa.okT c hc)
  obtain ⟨fw, cdw, hgw, fo, _, _, _, _, _, hfo, hfd, _⟩ := f.C.c.rows
  conv in List.drop _ _ => whnf
  refine wpAny_execs_cons (wpAny_Assign_Name (call1 (f.C.c.g.keeps x.F.keep) hgw rfl rfl rfl rfl rfl hfd (ldN x.F.ns hmt rfl rfl rfl ⟨x.F.keep _ _ hfo, rows_call (f.C.c.keeps x.F.keep) hgw hh (by omega) hT128 (by omega) fun D vs n h₁ k₁ hk₁ hfr hD hS => ?_⟩)))
  have x₁ := x.keeps hk₁
  have ne : ∀ {b : Addr} {ob : Obj}, s.heap.get? b = some ob → D ≠ b := fun e q => by rw [q, e] at hfr; cases hfr
  obtain ⟨oL, es, ep, hL, _⟩ := x.F.ns
  obtain ⟨psP, hP, _⟩ := x.t17
  have hfb : hb.get? D = none := by
    cases q : hb.get? D with
    | none => rfl
    | some ob => exact absurd rfl (ne (x.F.keep _ _ q))
  refine stL f (x₁.add hD (ne hL) hfb) rfl fun h₄ k₄ x₄ => ?_
  refine law4 f fa hh hr hu x₄ (fun q hq => ?_) ((if_neg (by decide)).trans hmt) (if_pos rfl) (.head _) hS hQ
  rcases List.mem_cons.mp hq with rfl | hq
  · exact ⟨ne hP, ne x.t60⟩
  · exact hl q hq
end
end Mine

namespace Mine
set_option maxRecDepth 100000
set_option maxHeartbeats 4000000

/-- the signs of the menu, the rows behind, the six texts to lay ahead -/
def menu : List Nat := [97, 66, 122, 81, 51, 45, 32, 9, 10]
def sg (n : Int) : Nat := menu.getD (n.fmod 9).toNat 0
def tl : List Nat := [97, 32, 98, 10, 66, 10, 32, 10, 51, 67, 32, 100]
def pres : List (List Nat) := [[62, 32], [81, 114], [], [32, 9], [120, 89], [45, 66, 32]]
def pf (n : Int) : List Nat := pres.getD (n.fmod 6).toNat []
def txt (ns : List Int) : List Nat := ((ns.drop 1).take (min 41 ns.length - 1)).map sg ++ tl

theorem ints_get {vs : List Value} {ns : List Int} (h : IntsAre vs ns) {i : Nat} {v : Value} (e : vs[i]? = some v) : ∃ n t, v = .int n t ∧ ns[i]? = some n := by
  induction h generalizing i with
  | nil => simp at e
  | cons n t _ ih =>
    cases i with
    | zero => simp at e; exact ⟨n, t, e.symm, by simp⟩
    | succ i => simp at e; simpa using ih e

theorem sg_get (n : Int) : (seqIndex? (n.fmod 9) (Str.ofString "aBzQ3- \t\n").length).bind ((Str.ofString "aBzQ3- \t\n").cps[·]?) = some (sg n) := by
  unfold sg
  have h1 : 0 ≤ n.fmod 9 := Int.fmod_nonneg_of_pos _ (by decide)
  have h2 : n.fmod 9 < 9 := Int.fmod_lt_of_pos _ (by decide)
  generalize n.fmod 9 = k at *
  have : k = 0 ∨ k = 1 ∨ k = 2 ∨ k = 3 ∨ k = 4 ∨ k = 5 ∨ k = 6 ∨ k = 7 ∨ k = 8 := by omega
  rcases this with rfl | rfl | rfl | rfl | rfl | rfl | rfl | rfl | rfl <;> decide +kernel

def lArg : Expr → Expr
  | .BinOp e _ _ _ => e
  | e => e
section
variable {w : World} {A : Around} {s : Shared} {mg mb : Str → Option Value} {hb h : Heap} {L P P' c a sc : Addr} {m : Str → Option Value} {led : List (Addr × Obj)} {pre : List Nat} {tp : Tok} {Q : Flow → Shared → Prop} {vs : List Value} {ns : List Int}

theorem elt2 (hI : IntsAre vs ns) :
    EltOk w A s (lenv L a (.ref c)) (cScope (argAt 0 (lArg (compAt 2)))) [] (Str.ofString "number") (cElt (argAt 0 (lArg (compAt 2)))) vs (ns.map fun n => [sg n]) := by
  intro i v gi C mC s' hv hg hm hn hk Q' hq
  obtain ⟨n, t, rfl, hri⟩ := ints_get hI hv
  rw [List.getElem?_map, hri] at hg
  cases hg
  conv in cElt _ => whnf
  refine Subscript_ (wpAny_Constant_str (wpAny_BinOp (ldN hn hm rfl rfl rfl (wpAny_Constant_int (mod_int (by decide) ?_)))))
  have h1 : 0 ≤ n.fmod 9 := Int.fmod_nonneg_of_pos _ (by decide)
  have h2 : n.fmod 9 < 9 := Int.fmod_lt_of_pos _ (by decide)
  refine tail_any (typeIs_str _ _ _) slot_str_getitem.lookup (getItem_str ?_ (sg_get n) ?_) (by with_unfolding_all rfl)
  · rw [decide_eq_false (by omega), decide_eq_false (by omega)]; rfl
  · exact hq s'.heap _ _ (fun _ _ e => e)

theorem slice_in {env : Env} {x : Str} {p1 p2 p3 p4 p5 : Pos} {k1 k2 : Nat} {Q' E : Value → Shared → Prop} (hk : env.scope.kind = .function) (hn : s.heap.Ns env.locals m) (hv : m x = some (.ref sc)) (hk' : env.scope.kind = .function) (hx : env.kindOf x = some .local) (hd : (x == ("__debug__" : Str)) = false)
    (hsc : s.heap.IsList sc vs.toArray) (hI : IntsAre vs ns) (hns : ns.length ≤ 63)
    (h : ∀ D ws h' tk, Keeps s.heap h' → h'.IsList D (List.toArray ws) → IntsAre ws ((ns.drop 1).take (min 41 ns.length - 1)) → Q' (.ref D) { s with heap := h', toks := tk }) :
    wpAny (model prg w) A (eval (.Subscript (.Name x p1) (.Slice (some (.Constant (.int 1) k1 p2)) (some (.Constant (.int 41) k2 p3)) none p4) p5) env) Q' E s := by
  have lI := hI.length
  refine wpAny_Subscript_list_slice (ldN hn hv hk hx hd ?_)
  rw [evalPart_some, evalPart_some]
  refine wpAny_Constant_int (wpAny_Constant_int ⟨sc, vs.toArray, some 1, some 41, rfl, hsc, by rw [List.size_toArray, sizeLine_eq]; omega, .int _ _, .int _ _, ?_⟩)
  refine h _ (slicePick vs.toArray (some 1) (some 41) none).toList _ _ (fun b o e => Heap.get?_push_of_some _ (Heap.get?_push_of_some _ e)) ⟨{ cls := .type "list", data := .seq (slicePick vs.toArray (some 1) (some 41) none) }, ?_, rfl, _, by rw [Array.toArray_toList]⟩ (kmk_run hI (x := 1) (y := 41) (by decide) (by decide))
  have e := Heap.get?_push_size (s.heap.push { cls := .type "slice", data := .fields #[.int 1 s.toks, .int 41 (s.toks + 1), .none] }) (o := { cls := .type "list", data := .seq (slicePick vs.toArray (some 1) (some 41) none) }) rfl
  rw [Heap.size_push] at e
  exact e

/-- text = ''.join([menu[number % 9] for number in script[1:41]]) + the rows behind -/
theorem law2 (f : LF mg mb hb L P P' c) (fa : Facts (txt ns) pre) (hh : A.handled = none) (hr : A.depth + 5 < recursionLimit) (hu : A.units + 80 < cLine) (x : LS hb L P P' s.heap m (some (.str (S pre) tp)) #[] led) (hl : ∀ q ∈ led, q.1 ≠ P ∧ q.1 ≠ P')
    (hms : m (Str.ofString "script") = some (.ref sc)) (hsc : hb.IsList sc vs.toArray) (hI : IntsAre vs ns) (hns : ns.length ≤ 63)
    (hQ : ∀ h' tk m' ps' led', LS hb L P P' h' m' (some (.str (S pre) tp)) ps' led' → Q (.ret (.bool true)) { s with heap := h', toks := tk }) :
    wpAny (model prg w) A (execs ((fBody (stmtAt 9)).drop 2) (lenv L a (.ref c))) Q (fun _ _ => False) s := by
  have lI := hI.length
  have hsc₁ : s.heap.IsList sc vs.toArray := let ⟨o, e, r⟩ := hsc; ⟨o, x.F.keep _ _ e, r⟩
  conv in List.drop _ _ => whnf
  refine wpAny_execs_cons (wpAny_Assign_Name (wpAny_BinOp (str_meth1 rfl rfl rfl PySem.F.slot_str_join PySem.F.type_str_join (wpAny_Constant_str ⟨_, _, rfl, ?_⟩))))
  refine comp_expr (cl := []) hh rfl (by decide) rfl (by decide) rfl ?_ (fun _ => rfl)
  refine slice_in rfl x.F.ns hms rfl rfl rfl hsc₁ hI hns fun D ws h₁ k₁ hk₁ hD hT => ?_
  have lT := hT.length
  have x₁ := x.keeps hk₁
  refine ⟨D, ws, _, rfl, hD, by rw [List.length_map, lT], ?_, elt2 hT, fun Acc acc h₂ k₂ hk₂ hA hSa hfa => ?_⟩
  · rw [lT, List.length_take]; omega
  have x₂ := x₁.keeps hk₂
  rw [show Str.ofString "" = S [] by decide +kernel]
  refine join_list hA hSa (fun r hr => ?_) (by rw [List.length_map, List.length_take]; omega) (by decide) fun t₃ k₃ => wpAny_Constant_str (add_str (fun t₄ k₄ => ?_) ?_)
  · obtain ⟨r', hr', rfl⟩ := List.mem_map.mp hr
    exact Nat.le_of_ble_eq_true rfl
  · rw [show Str.ofString "a b\nB\n \n3C d" = S tl by decide +kernel, S_append, joinL_nil]
    have e : (List.map (fun n => [sg n]) (List.take (min 41 ns.length - 1) (List.drop 1 ns))).flatten ++ tl = txt ns := by
      unfold txt
      congr 1
      generalize List.take _ _ = l
      induction l with
      | nil => rfl
      | cons a l ih => simp [ih]
    rw [e]
    refine stL f x₂ rfl fun h₄ k₄ x₄ => ?_
    exact law3 f fa hh hr hu x₄ hl (if_pos rfl) hQ
  · rw [S_length, joinL_nil, show Str.ofString "a b\nB\n \n3C d" = S tl by decide +kernel, S_length, sizeLine_eq]
    have : ∀ l : List Int, (List.map (fun n => [sg n]) l).flatten.length = l.length := by
      intro l
      induction l with
      | nil => rfl
      | cons a l ih => simp [ih]
    rw [this, List.length_take]
    show _ + 12 ≤ _
    omega
end
end Mine

namespace Mine
set_option maxRecDepth 100000
set_option maxHeartbeats 4000000

section
variable {w : World} {A : Around} {s : Shared} {mg mb : Str → Option Value} {hb h h' : Heap} {L P P' c a sc : Addr} {m : Str → Option Value} {led : List (Addr × Obj)} {pre : List Nat} {tp : Tok} {Q : Flow → Shared → Prop} {vs : List Value} {ns : List Int} {ps : Array Value} {cv : Option Value}

theorem LS.setCell {v : Value} (f : LF mg mb hb L P P' c) (x : LS hb L P P' h m cv ps []) (hc : h'.IsCell (L + 1) (some v)) (k : ∀ b o, b ≠ L + 1 → h.get? b = some o → h'.get? b = some o) : LS hb L P P' h' m (some v) ps [] := by
  refine ⟨⟨?_, fun b o e => k b o (by rintro rfl; rw [f.fc] at e; cases e) (x.F.keep b o e), x.F.above⟩, x.t17.but k (Ne.symm f.cP) ?_, k _ _ (Ne.symm f.cP') x.t60, hc, fun q hq => nomatch hq⟩
  · obtain ⟨oL, es, ep, hL, r⟩ := x.F.ns
    exact ⟨oL, es, ep, k _ _ (Nat.ne_of_lt (Nat.lt_succ_self L)) hL, r⟩
  · intro o vs e hd
    obtain ⟨o', e', r⟩ := x.cell
    rw [e'] at e; cases e
    rw [hd] at r
    first | cases r | cases r.2 | exact absurd r (by simp)

theorem pf_get (n : Int) {t1 t2 t3 t4 t5 t6 : Tok} : ∃ j t, seqIndex? (n.fmod 6) 6 = some j ∧ [Value.str (Str.ofString "> ") t1, .str (Str.ofString "Qr") t2, .str (Str.ofString "") t3, .str (Str.ofString " \t") t4, .str (Str.ofString "xY") t5, .str (Str.ofString "-B ") t6][j]? = some (.str (S (pf n)) t) := by
  unfold pf
  have h1 : 0 ≤ n.fmod 6 := Int.fmod_nonneg_of_pos _ (by decide)
  have h2 : n.fmod 6 < 6 := Int.fmod_lt_of_pos _ (by decide)
  generalize n.fmod 6 = k at *
  have : k = 0 ∨ k = 1 ∨ k = 2 ∨ k = 3 ∨ k = 4 ∨ k = 5 := by omega
  rw [show Str.ofString "> " = S [62, 32] by decide +kernel, show Str.ofString "Qr" = S [81, 114] by decide +kernel, show Str.ofString "" = S [] by decide +kernel, show Str.ofString " \t" = S [32, 9] by decide +kernel, show Str.ofString "xY" = S [120, 89] by decide +kernel, show Str.ofString "-B " = S [45, 66, 32] by decide +kernel]
  rcases this with rfl | rfl | rfl | rfl | rfl | rfl <;> exact ⟨_, _, rfl, rfl⟩

/-- prefix = (six texts)[first % 6] -/
theorem law1 {n : Int} {tn : Tok} (f : LF mg mb hb L P P' c) (fa : Facts (txt ns) (pf n)) (hh : A.handled = none) (hr : A.depth + 5 < recursionLimit) (hu : A.units + 80 < cLine) (x : LS hb L P P' s.heap m cv #[] [])
    (hmf : m (Str.ofString "first") = some (.int n tn))
    (hms : m (Str.ofString "script") = some (.ref sc)) (hsc : hb.IsList sc vs.toArray) (hI : IntsAre vs ns) (hns : ns.length ≤ 63)
    (hQ : ∀ h' tk m' cv' ps' led', LS hb L P P' h' m' cv' ps' led' → Q (.ret (.bool true)) { s with heap := h', toks := tk }) :
    wpAny (model prg w) A (execs ((fBody (stmtAt 9)).drop 1) (lenv L a (.ref c))) Q (fun _ _ => False) s := by
  have h1 : 0 ≤ n.fmod 6 := Int.fmod_nonneg_of_pos _ (by decide)
  have h2 : n.fmod 6 < 6 := Int.fmod_lt_of_pos _ (by decide)
  conv in List.drop _ _ => whnf
  refine wpAny_execs_cons (wpAny_Assign_Name (Subscript_ (Tuple_ (args_cons (wpAny_Constant_str (args_cons (wpAny_Constant_str (args_cons (wpAny_Constant_str (args_cons (wpAny_Constant_str (args_cons (wpAny_Constant_str (args_cons (wpAny_Constant_str (args_nil (wpAny_newObj_type ?_ (by exact Nat.le_of_ble_eq_true rfl))))))))))))))))))
  have x₁ := x.keeps (h' := s.heap.push { cls := .type "tuple", data := .seq [Value.str (Str.ofString "> ") s.toks, .str (Str.ofString "Qr") (s.toks + 1), .str (Str.ofString "") (s.toks + 1 + 1), .str (Str.ofString " \t") (s.toks + 1 + 1 + 1), .str (Str.ofString "xY") (s.toks + 1 + 1 + 1 + 1), .str (Str.ofString "-B ") (s.toks + 1 + 1 + 1 + 1 + 1)].toArray }) (fun b o e => Heap.get?_push_of_some _ e)
  refine wpAny_BinOp (ldN x₁.F.ns hmf rfl rfl rfl (wpAny_Constant_int (mod_int (by decide) ?_)))
  obtain ⟨j, t, hj, hx⟩ := pf_get n (t1 := s.toks) (t2 := s.toks + 1) (t3 := s.toks + 1 + 1) (t4 := s.toks + 1 + 1 + 1) (t5 := s.toks + 1 + 1 + 1 + 1) (t6 := s.toks + 1 + 1 + 1 + 1 + 1)
  refine item_tupleT ⟨_, Heap.get?_push_size _ rfl, rfl, _, rfl⟩ (by omega) (by omega) hj hx ?_
  refine wpAny_storeName_cell rfl rfl rfl x₁.cell fun h₂ hc₂ hs₂ => ?_
  have x₂ := x₁.setCell f hc₂ (fun b o hb e => hs₂.extBut b o hb e)
  exact law2 f fa hh hr hu x₂ (fun q hq => nomatch hq) hms hsc hI hns fun h' tk m' ps' led' => hQ h' tk m' _ ps' led'

/-- first = script[0] if script else 0 -/
theorem law0 (f : LF mg mb hb L P P' c) (fa : ∀ n, Facts (txt ns) (pf n)) (hh : A.handled = none) (hr : A.depth + 5 < recursionLimit) (hu : A.units + 80 < cLine) (x : LS hb L P P' s.heap m cv #[] [])
    (hms : m (Str.ofString "script") = some (.ref sc)) (hsc : hb.IsList sc vs.toArray) (hI : IntsAre vs ns) (hns : ns.length ≤ 63)
    (hQ : ∀ h' tk m' cv' ps' led', LS hb L P P' h' m' cv' ps' led' → Q (.ret (.bool true)) { s with heap := h', toks := tk }) :
    wpAny (model prg w) A (execs (fBody (stmtAt 9)) (lenv L a (.ref c))) Q (fun _ _ => False) s := by
  have lI := hI.length
  have hsc₁ : s.heap.IsList sc vs.toArray := let ⟨o, e, r⟩ := hsc; ⟨o, x.F.keep _ _ e, r⟩
  conv in fBody _ => whnf
  refine wpAny_execs_cons (wpAny_Assign_Name (IfExp_ (wpAny_isTrue_value (ldN x.F.ns hms rfl rfl rfl (wpAny_truthy_list hsc₁ (by rw [List.size_toArray]; omega) ?_)))))
  cases hI with
  | nil =>
    rw [if_neg (by decide)]
    refine wpAny_Constant_int (stL f x rfl fun h₁ k₁ x₁ => ?_)
    exact law1 f (fa 0) hh hr hu x₁ (if_pos rfl) ((if_neg (by decide)).trans hms) hsc .nil hns hQ
  | cons n t hI =>
    rw [if_pos (by rfl)]
    refine Subscript_ (ldN x.F.ns hms rfl rfl rfl (wpAny_Constant_int (tail_any (ops := [.ref sc, .int 0 _]) hsc₁.typeIs slot_list_getitem.lookup (wpAny_getItem_list (x := .int n t) hsc₁ (by decide) (by decide) rfl (stL f x rfl fun h₁ k₁ x₁ => ?_)) (by with_unfolding_all rfl))))
    exact law1 f (fa n) hh hr hu x₁ (if_pos rfl) ((if_neg (by decide)).trans hms) hsc (.cons n t hI) hns hQ
end
end Mine

namespace Mine
set_option maxRecDepth 100000
set_option maxHeartbeats 4000000

/-- a text ends before its first line feed, or goes on behind it -/
theorem nl_ind {motive : List Nat → Prop} (free : ∀ p, 10 ∉ p → motive p) (cons : ∀ p q, 10 ∉ p → motive q → motive (p ++ 10 :: q)) : ∀ l, motive l := by
  have key : ∀ (l p : List Nat), 10 ∉ p → (∀ p' q, 10 ∉ p' → motive q → motive (p' ++ 10 :: q)) → motive (p ++ l) := by
    intro l
    induction l with
    | nil => intro p hp _; rw [List.append_nil]; exact free p hp
    | cons c l ih =>
      intro p hp hc
      by_cases h : c = 10
      · subst h; exact hc p l hp (ih [] (by simp) hc)
      · have := ih (p ++ [c]) (by simp [hp, Ne.symm h]) hc
        rwa [List.append_assoc] at this
  intro l
  exact key l [] (by simp) cons

theorem rstep_free : ∀ (p : List Nat) (d : List (List Nat)) (cu : List Nat), 10 ∉ p → p.foldl rstep (d, cu) = (d, cu ++ p)
  | [], d, cu, _ => by simp
  | c :: p, d, cu, h => by
    have h1 : c ≠ 10 := fun q => h (by rw [q]; exact .head _)
    rw [List.foldl_cons, rstep, if_neg h1, rstep_free p _ _ fun q => h (.tail _ q), List.append_assoc]; rfl
theorem rstep_ahead : ∀ (l : List Nat) (d : List (List Nat)) (cu : List Nat), l.foldl rstep (d, cu) = (d ++ (l.foldl rstep ([], cu)).1, (l.foldl rstep ([], cu)).2)
  | [], d, cu => by simp
  | c :: l, d, cu => by
    simp only [List.foldl_cons]
    by_cases h : c = 10
    · rw [rstep, if_pos h, rstep, if_pos h, rstep_ahead l (d ++ _), rstep_ahead l ([] ++ _)]; simp
    · rw [rstep, if_neg h, rstep, if_neg h, rstep_ahead l d]
theorem rows_free {p : List Nat} (h : 10 ∉ p) : rowsOf p = if p = [] then [] else [p] := by
  unfold rowsOf
  rw [rstep_free p _ _ h]
  simp
theorem rows_cons {p : List Nat} (q : List Nat) (h : 10 ∉ p) : rowsOf (p ++ 10 :: q) = (p ++ [10]) :: rowsOf q := by
  unfold rowsOf
  rw [List.foldl_append, rstep_free p _ _ h, List.foldl_cons, rstep, if_pos rfl, rstep_ahead]
  dsimp only
  split <;> simp

theorem splitNL_ne (l : List Nat) : ∃ x r, splitNL l = x :: r := by
  cases l with
  | nil => exact ⟨_, _, rfl⟩
  | cons c l =>
    rw [splitNL]
    split
    · exact ⟨_, _, rfl⟩
    · split <;> exact ⟨_, _, rfl⟩
theorem capNL_free {p : List Nat} (h : 10 ∉ p) : capNL p = great p := by
  rw [capNL, splitNL_free p h]; rfl
theorem capNL_cons {p : List Nat} (q : List Nat) (h : 10 ∉ p) : capNL (p ++ 10 :: q) = great p ++ 10 :: capNL q := by
  rw [capNL, capNL, splitNL_cons p q h]
  obtain ⟨x, r, e⟩ := splitNL_ne q
  rw [e]
  show great p ++ [10] ++ joinL [10] (great x :: r.map great) = _
  rw [List.append_assoc]; rfl
theorem great_nl (p : List Nat) : great (p ++ [10]) = great p ++ [10] := by
  rw [great_snoc]; split <;> rfl

/-- the sign's class stays -/
theorem up_c (c : Nat) : wht (up c) = wht c ∧ (up c = 10 ↔ c = 10) ∧ (ok c = true → ok (up c) = true) := by
  unfold up
  split
  · refine ⟨?_, by omega, fun h => ?_⟩
    · rw [Bool.eq_iff_iff]; simp [wht]; omega
    · simp [ok] at h ⊢; omega
  · exact ⟨rfl, Iff.rfl, id⟩
theorem low_c (c : Nat) : wht (low c) = wht c ∧ (low c = 10 ↔ c = 10) ∧ (ok c = true → ok (low c) = true) := by
  unfold low
  split
  · refine ⟨?_, by omega, fun h => ?_⟩
    · rw [Bool.eq_iff_iff]; simp [wht]; omega
    · simp [ok] at h ⊢; omega
  · exact ⟨rfl, Iff.rfl, id⟩
theorem great_all (r : List Nat) : (great r).all wht = r.all wht := by
  cases r with
  | nil => rfl
  | cons c r =>
    simp only [great, List.all_cons, List.all_map, (up_c c).1]
    congr 1
    induction r with
    | nil => rfl
    | cons d r ih => simp only [List.all_cons, Function.comp, (low_c d).1] at ih ⊢; rw [ih]
theorem great_10 (r : List Nat) : 10 ∈ great r ↔ 10 ∈ r := by
  cases r with
  | nil => exact Iff.rfl
  | cons c r =>
    have h1 : (10 = up c) ↔ 10 = c := by have := (up_c c).2.1; omega
    have h2 : ∀ r : List Nat, 10 ∈ r.map low ↔ 10 ∈ r := fun r => by
      rw [List.mem_map]
      constructor
      · rintro ⟨a, ha, e⟩; rw [(low_c a).2.1] at e; rw [← e]; exact ha
      · intro h; exact ⟨10, h, rfl⟩
    rw [great, List.mem_cons, List.mem_cons, h1, h2]
theorem great_ok {r : List Nat} (h : ∀ c ∈ r, ok c = true) : ∀ c ∈ great r, ok c = true := by
  cases r with
  | nil => exact h
  | cons c r =>
    intro d hd
    rcases List.mem_cons.mp hd with rfl | hd
    · exact (up_c c).2.2 (h c (.head _))
    · obtain ⟨e, he, rfl⟩ := List.mem_map.mp hd
      exact (low_c e).2.2 (h e (.tail _ he))

theorem wstep_ahead : ∀ (l : List Nat) (d : List (List Nat)) (cu : Option (List Nat)), l.foldl wstep (d, cu) = (d ++ (l.foldl wstep ([], cu)).1, (l.foldl wstep ([], cu)).2)
  | [], d, cu => by simp
  | c :: l, d, cu => by
    simp only [List.foldl_cons]
    by_cases h : wht c = true
    · rw [wstep, if_pos h, wstep, if_pos h, wstep_ahead l (d ++ _), wstep_ahead l ([] ++ _)]; simp
    · rw [wstep, if_neg h, wstep, if_neg h, wstep_ahead l d]
theorem words_cut (p q : List Nat) {c : Nat} (hc : wht c = true) : wordsOf (p ++ c :: q) = wordsOf p ++ wordsOf q := by
  unfold wordsOf
  rw [List.foldl_append, List.foldl_cons, wstep, if_pos hc, wstep_ahead]
  simp
theorem words_white : ∀ (w q : List Nat), (∀ c ∈ w, wht c = true) → wordsOf (w ++ q) = wordsOf q
  | [], _, _ => rfl
  | c :: w, q, h => by
    have := words_cut [] (w ++ q) (h c (.head _))
    rw [List.nil_append] at this
    rw [List.cons_append, this, words_white w q fun c hc => h c (.tail _ hc)]
    rfl
theorem wstep_some : ∀ (l : List Nat) (d : List (List Nat)) (cu : List Nat), (l.foldl wstep (d, some cu)).1 ++ (l.foldl wstep (d, some cu)).2.toList ≠ []
  | [], d, cu => by simp
  | c :: l, d, cu => by
    rw [List.foldl_cons, wstep]
    split
    · rw [wstep_ahead]; simp
    · exact wstep_some l _ _
theorem words_nil (l : List Nat) : wordsOf l = [] ↔ l.all wht = true := by
  induction l with
  | nil => simp [wordsOf]
  | cons c l ih =>
    by_cases h : wht c = true
    · have := words_cut [] l h
      rw [List.nil_append] at this
      rw [this, List.all_cons, h, Bool.true_and, ← ih]
      simp [wordsOf]
    · rw [List.all_cons, Bool.eq_false_iff.mpr h, Bool.false_and]
      constructor
      · intro q
        unfold wordsOf at q
        rw [List.foldl_cons, wstep, if_neg h] at q
        exact absurd q (wstep_some l _ _)
      · intro q; cases q
theorem pr1_eq {r : List Nat} (hr : r ≠ []) (ho : ∀ c ∈ r, ok c = true) : pr1 r = !(r.all wht) := by
  unfold pr1 Txt.isspace
  congr 1
  have h1 : decide ((S r).length > 0) = true := by rw [decide_eq_true_eq, S_length]; exact List.length_pos_iff.mpr hr
  rw [h1, Bool.true_and]
  show r.toArray.all Unicode.isSpace = _
  rw [List.all_toArray]
  clear h1 hr
  induction r with
  | nil => rfl
  | cons c r ih => rw [List.all_cons, List.all_cons, ih fun c hc => ho c (.tail _ hc), ok_space c (ok_lt (ho c (.head _))) (ho c (.head _))]

/-- indent, row by row -/
def lay (p : List Nat → Bool) (pre r : List Nat) : List Nat := if p r = true then pre ++ r else r
theorem ind_flat (p : List Nat → Bool) (pre : List Nat) (rs : List (List Nat)) : (indOut p pre rs).flatten = (rs.map (lay p pre)).flatten := by
  induction rs with
  | nil => rfl
  | cons r rs ih =>
    rw [indOut, List.flatMap_cons, List.flatten_append, List.map_cons, List.flatten_cons, ← ih, lay]
    congr 1
    split <;> simp
theorem ind_eq (p : List Nat → Bool) (pre l : List Nat) : ind p pre l = ((rowsOf l).map (lay p pre)).flatten := ind_flat p pre (rowsOf l)
def each (f : List Nat → List Nat) (l : List Nat) : List Nat := ((rowsOf l).map f).flatten
theorem each_free {f : List Nat → List Nat} {p : List Nat} (h : 10 ∉ p) : each f p = if p = [] then [] else f p := by
  rw [each, rows_free h]; split <;> simp
theorem each_cons {f : List Nat → List Nat} {p : List Nat} (q : List Nat) (h : 10 ∉ p) : each f (p ++ 10 :: q) = f (p ++ [10]) ++ each f q := by
  rw [each, rows_cons q h]; rfl
theorem each_mem {f : List Nat → List Nat} {P : Nat → Prop} {l : List Nat} (hl : ∀ c ∈ l, P c) (hf : ∀ r, (∀ c ∈ r, P c) → ∀ c ∈ f r, P c) : ∀ c ∈ each f l, P c := by
  intro c hc
  obtain ⟨r, hr, hc⟩ := List.mem_flatten.mp hc
  obtain ⟨r', hr', rfl⟩ := List.mem_map.mp hr
  exact hf r' (rowsOf_mem P hl r' hr') c hc
theorem each_len {f : List Nat → List Nat} (n : Nat) (hf : ∀ r, (f r).length ≤ n + r.length) : ∀ l, (each f l).length ≤ (n + 1) * l.length := by
  refine nl_ind (fun p h => ?_) fun p q h ih => ?_
  · rw [each_free h]
    split
    · simp
    · rename_i hp
      have h1 := hf p
      have h2 := List.length_pos_iff.mpr hp
      have h3 : n * 1 ≤ n * p.length := Nat.mul_le_mul_left n h2
      rw [Nat.add_mul]; omega
  · rw [each_cons q h, List.length_append, List.length_append, List.length_cons]
    have h1 := hf (p ++ [10])
    rw [List.length_append, List.length_singleton] at h1
    have h3 : n * 1 ≤ n * (p.length + 1) := Nat.mul_le_mul_left n (by omega)
    have h4 : (n + 1) * (p.length + (q.length + 1)) = n * (p.length + 1) + n * q.length + (p.length + (q.length + 1)) := by
      rw [Nat.add_mul, Nat.one_mul, show p.length + (q.length + 1) = (p.length + 1) + q.length by omega, Nat.mul_add]
    have h5 : (n + 1) * q.length = n * q.length + q.length := by rw [Nat.add_mul, Nat.one_mul]
    omega

/-- capwords by line feeds is the great of each row -/
theorem cap_each : ∀ l, capNL l = each great l := by
  refine nl_ind (fun p h => ?_) fun p q h ih => ?_
  · rw [capNL_free h, each_free h]; split
    · rename_i e; rw [e]; rfl
    · rfl
  · rw [capNL_cons q h, each_cons q h, ih, great_nl, List.append_assoc]; rfl
theorem lay_white {pre r : List Nat} (hr : r ≠ []) (ho : ∀ c ∈ r, ok c = true) : lay pr1 pre r = if wordsOf r = [] then r else pre ++ r := by
  rw [lay, pr1_eq hr ho]
  by_cases h : wordsOf r = []
  · rw [if_pos h, (words_nil r).mp h]; rfl
  · have : r.all wht = false := Bool.eq_false_iff.mpr fun q => h ((words_nil r).mpr q)
    rw [if_neg h, this]; rfl
theorem snoc_ne (p : List Nat) (c : Nat) : p ++ [c] ≠ [] := by simp

theorem law_c2 (pre : List Nat) : ∀ l, (∀ c ∈ l, ok c = true) → each (lay pr1 pre) (capNL l) = each (fun r => if wordsOf r = [] then great r else pre ++ great r) l := by
  have one : ∀ r : List Nat, r ≠ [] → (∀ c ∈ r, ok c = true) → lay pr1 pre (great r) = if wordsOf r = [] then great r else pre ++ great r := fun r hr ho => by
    have hw : wordsOf (great r) = [] ↔ wordsOf r = [] := by rw [words_nil, words_nil, great_all]
    rw [lay_white (fun q => hr (great_nil.mp q)) (great_ok ho)]
    by_cases h : wordsOf r = []
    · rw [if_pos h, if_pos (hw.mpr h)]
    · rw [if_neg h, if_neg fun q => h (hw.mp q)]
  refine nl_ind (fun p h ho => ?_) fun p q h ih ho => ?_
  · have hg : 10 ∉ great p := fun q => h ((great_10 p).mp q)
    rw [capNL_free h, each_free h, each_free hg]
    by_cases e : p = []
    · rw [if_pos e, if_pos (great_nil.mpr e)]
    · rw [if_neg e, if_neg fun q => e (great_nil.mp q), one p e ho]
  · have hg : 10 ∉ great p := fun q => h ((great_10 p).mp q)
    rw [capNL_cons q h, each_cons _ hg, each_cons _ h, ih fun c hc => ho c (by simp [hc]), ← great_nl, one _ (snoc_ne p 10) fun c hc => ho c (by
      rcases List.mem_append.mp hc with hc | hc
      · exact List.mem_append_left _ hc
      · rw [List.mem_singleton.mp hc]; simp)]
theorem lay_snoc (p : List Nat → Bool) (pre r : List Nat) (h : 10 ∉ pre) (hr : 10 ∉ r) : ∃ r', lay p pre (r ++ [10]) = r' ++ [10] ∧ 10 ∉ r' ∧ (r' = r ∨ r' = pre ++ r) := by
  unfold lay
  split
  · exact ⟨pre ++ r, by rw [List.append_assoc], by simp [h, hr], .inr rfl⟩
  · exact ⟨r, rfl, hr, .inl rfl⟩
theorem ok_front {p q : List Nat} (ho : ∀ c ∈ p ++ 10 :: q, ok c = true) : ∀ c ∈ p ++ [10], ok c = true := fun c hc => ho c (by
  rcases List.mem_append.mp hc with hc | hc
  · exact List.mem_append_left _ hc
  · rw [List.mem_singleton.mp hc]; simp)
theorem law_c3 {pre : List Nat} (hp : 10 ∉ pre) : ∀ l, (∀ c ∈ l, ok c = true) → capNL (each (lay pr1 pre) l) = each (fun r => great (if wordsOf r = [] then r else pre ++ r)) l := by
  refine nl_ind (fun p h ho => ?_) fun p q h ih ho => ?_
  · rw [each_free h, each_free h]
    by_cases e : p = []
    · rw [if_pos e, if_pos e]; rfl
    · rw [if_neg e, if_neg e, ← lay_white e ho]
      refine capNL_free ?_
      unfold lay
      split
      · simp [hp, h]
      · exact h
  · obtain ⟨r', e1, e2, _⟩ := lay_snoc pr1 pre p hp h
    rw [each_cons _ h, each_cons _ h, ← lay_white (snoc_ne p 10) (ok_front ho), e1, List.append_assoc]
    show capNL (r' ++ 10 :: each (lay pr1 pre) q) = _
    rw [capNL_cons _ e2, ih fun c hc => ho c (by simp [hc]), great_nl, List.append_assoc]; rfl
theorem law_c4 (pre : List Nat) : ∀ l, each (lay pr2 pre) l = each (fun r => if great r = r then r else pre ++ r) l := by
  have one : ∀ r : List Nat, capNL r = great r → lay pr2 pre r = if great r = r then r else pre ++ r := fun r hr => by
    unfold lay pr2
    rw [hr]
    by_cases h : great r = r
    · rw [if_pos h, decide_eq_true h]; rfl
    · rw [if_neg h, decide_eq_false h]; rfl
  refine nl_ind (fun p h => ?_) fun p q h ih => ?_
  · rw [each_free h, each_free h, one p (capNL_free h)]
  · rw [each_cons _ h, each_cons _ h, ih, one]
    rw [capNL_cons [] h, great_nl]; rfl
theorem law_c5 {pre : List Nat} (hw : ∀ c ∈ pre, wht c = true) (hp : 10 ∉ pre) : ∀ l, wordsOf (each (lay pr1 pre) l) = wordsOf l := by
  refine nl_ind (fun p h => ?_) fun p q h ih => ?_
  · rw [each_free h]
    split
    · rename_i e; rw [e]
    · unfold lay
      split
      · exact words_white pre p hw
      · rfl
  · obtain ⟨r', e1, e2, e3⟩ := lay_snoc pr1 pre p hp h
    have h3 : wordsOf r' = wordsOf p := by
      rcases e3 with rfl | rfl
      · rfl
      · exact words_white pre p hw
    rw [each_cons _ h, e1, List.append_assoc]
    show wordsOf (r' ++ 10 :: each (lay pr1 pre) q) = _
    rw [words_cut _ _ rfl, words_cut _ _ rfl, ih, h3]
end Mine

namespace Mine
set_option maxRecDepth 100000
set_option maxHeartbeats 4000000

/-- a word has a sign, and no white one -/
theorem wstep_word : ∀ (l : List Nat) (d : List (List Nat)) (cu : Option (List Nat)), (∀ r ∈ d ++ cu.toList, r ≠ [] ∧ ∀ c ∈ r, wht c = false) → ∀ r ∈ (l.foldl wstep (d, cu)).1 ++ (l.foldl wstep (d, cu)).2.toList, r ≠ [] ∧ ∀ c ∈ r, wht c = false
  | [], _, _, h => h
  | c :: l, d, cu, h => by
    rw [List.foldl_cons, wstep]
    split
    · exact wstep_word l _ _ (by simpa using h)
    · rename_i hc
      refine wstep_word l _ _ fun r hr => ?_
      rcases List.mem_append.mp hr with hr | hr
      · exact h r (List.mem_append_left _ hr)
      · simp only [Option.toList_some, List.mem_singleton] at hr
        subst hr
        refine ⟨by simp, fun c' hc' => ?_⟩
        rcases List.mem_append.mp hc' with hc' | hc'
        · cases cu with
          | none => cases hc'
          | some cu => exact (h cu (by simp)).2 c' hc'
        · rw [List.mem_singleton.mp hc']; exact Bool.eq_false_iff.mpr hc
theorem words_word (l : List Nat) : ∀ r ∈ wordsOf l, r ≠ [] ∧ ∀ c ∈ r, wht c = false := wstep_word l [] none (by simp)
theorem wstep_sum : ∀ (l : List Nat) (d : List (List Nat)) (cu : Option (List Nat)), ((l.foldl wstep (d, cu)).1 ++ (l.foldl wstep (d, cu)).2.toList).flatten.length + ((l.foldl wstep (d, cu)).1 ++ (l.foldl wstep (d, cu)).2.toList).length ≤ (d ++ cu.toList).flatten.length + (d ++ cu.toList).length + 2 * l.length
  | [], _, _ => by simp
  | c :: l, d, cu => by
    rw [List.foldl_cons, wstep]
    split
    · have := wstep_sum l (d ++ cu.toList) none
      simp only [Option.toList_none, List.append_nil, List.length_cons] at this ⊢
      omega
    · have := wstep_sum l d (some (cu.getD [] ++ [c]))
      have h2 : (d ++ [cu.getD [] ++ [c]]).flatten.length + (d ++ [cu.getD [] ++ [c]]).length ≤ (d ++ cu.toList).flatten.length + (d ++ cu.toList).length + 2 := by
        cases cu <;> simp <;> omega
      simp only [Option.toList_some, List.length_cons] at this ⊢
      omega
theorem joinL_mem {P : Nat → Prop} {sep : List Nat} (hs : ∀ c ∈ sep, P c) : ∀ {rs : List (List Nat)}, (∀ r ∈ rs, ∀ c ∈ r, P c) → ∀ c ∈ joinL sep rs, P c
  | [], _ => fun c hc => nomatch hc
  | [x], h => h x (.head _)
  | x :: y :: rest, h => fun c hc => by
    rcases List.mem_append.mp hc with hc | hc
    · rcases List.mem_append.mp hc with hc | hc
      · exact h x (.head _) c hc
      · exact hs c hc
    · exact joinL_mem hs (fun r hr => h r (.tail _ hr)) c hc
theorem joinL_len (sep : List Nat) (hs : sep.length ≤ 1) : ∀ rs : List (List Nat), (joinL sep rs).length ≤ rs.flatten.length + rs.length
  | [] => by simp [joinL]
  | [x] => by simp [joinL]
  | x :: y :: rest => by
    have ih := joinL_len sep hs (y :: rest)
    show (x ++ sep ++ joinL sep (y :: rest)).length ≤ _
    rw [List.length_append, List.length_append, List.flatten_cons, List.length_append, List.length_cons]
    omega
theorem joinL_head {sep x : List Nat} {rs : List (List Nat)} : ∀ c ∈ x, c ∈ joinL sep (x :: rs) := by
  intro c hc
  cases rs with
  | nil => exact hc
  | cons y rs => exact List.mem_append_left _ (List.mem_append_left _ hc)
theorem great_sum : ∀ rs : List (List Nat), (rs.map great).flatten.length = rs.flatten.length
  | [] => rfl
  | r :: rs => by rw [List.map_cons, List.flatten_cons, List.flatten_cons, List.length_append, List.length_append, great_length, great_sum rs]
theorem great_wht {r : List Nat} (h : ∀ c ∈ r, wht c = false) : ∀ c ∈ great r, wht c = false := by
  cases r with
  | nil => exact h
  | cons c r =>
    intro d hd
    rcases List.mem_cons.mp hd with rfl | hd
    · rw [(up_c c).1]; exact h c (.head _)
    · obtain ⟨e, he, rfl⟩ := List.mem_map.mp hd
      rw [(low_c e).1]; exact h e (.tail _ he)
theorem ok32 : ∀ c ∈ [32], ok c = true := by decide
theorem capSp_len (l : List Nat) : (capSp l).length ≤ 2 * l.length := by
  have h1 := joinL_len [32] (by decide) ((wordsOf l).map great)
  have h2 := wstep_sum l [] none
  rw [great_sum, List.length_map] at h1
  have h3 : (wordsOf l).flatten.length + (wordsOf l).length ≤ 2 * l.length := by
    unfold wordsOf
    simpa using h2
  exact Nat.le_trans h1 h3
theorem capSp_ok {l : List Nat} (h : ∀ c ∈ l, ok c = true) : ∀ c ∈ capSp l, ok c = true := by
  refine joinL_mem ok32 fun r hr => ?_
  obtain ⟨r', hr', rfl⟩ := List.mem_map.mp hr
  exact great_ok (wordsOf_mem _ h r' hr')
theorem capSp_10 (l : List Nat) : 10 ∉ capSp l := by
  have := joinL_mem (P := fun c => c ≠ 10) (sep := [32]) (by decide) (rs := (wordsOf l).map great) fun r hr c hc => by
    obtain ⟨r', hr', rfl⟩ := List.mem_map.mp hr
    have := great_wht (words_word l r' hr').2 c hc
    rintro rfl
    cases this
  exact fun h => this 10 h rfl
theorem capSp_black {l : List Nat} (h : wordsOf l ≠ []) : ∃ c ∈ capSp l, wht c = false := by
  cases hw : wordsOf l with
  | nil => exact absurd hw h
  | cons x rs =>
    obtain ⟨h1, h2⟩ := words_word l x (by rw [hw]; exact .head _)
    cases hg : great x with
    | nil => exact absurd (great_nil.mp hg) h1
    | cons c r =>
      have hc : c ∈ great x := by rw [hg]; exact .head _
      refine ⟨c, ?_, great_wht h2 c hc⟩
      rw [capSp, hw]
      exact joinL_head c hc
theorem law_c6 {l : List Nat} (pre : List Nat) (ho : ∀ c ∈ l, ok c = true) (h : wordsOf l ≠ []) : each (lay pr1 pre) (capSp l) = pre ++ capSp l := by
  obtain ⟨c, hc, hw⟩ := capSp_black h
  have hne : capSp l ≠ [] := fun q => by rw [q] at hc; cases hc
  rw [each_free (capSp_10 l), if_neg hne, lay, pr1_eq hne (capSp_ok ho), if_pos]
  have : (capSp l).all wht = false := by
    rw [List.all_eq_false]
    exact ⟨c, hc, by rw [hw]; exact Bool.false_ne_true⟩
  rw [this]; rfl
theorem lay_len (p : List Nat → Bool) (pre r : List Nat) : (lay p pre r).length ≤ pre.length + r.length := by
  unfold lay; split
  · rw [List.length_append]; exact Nat.le_refl _
  · exact Nat.le_add_left _ _
theorem lay_ok {p : List Nat → Bool} {pre r : List Nat} (h1 : ∀ c ∈ pre, ok c = true) (h2 : ∀ c ∈ r, ok c = true) : ∀ c ∈ lay p pre r, ok c = true := by
  unfold lay; split
  · intro c hc
    rcases List.mem_append.mp hc with hc | hc
    · exact h1 c hc
    · exact h2 c hc
  · exact h2

/-- the plain law -/
theorem facts {T pre : List Nat} (okT : ∀ c ∈ T, ok c = true) (lenT : T.length ≤ 100) (okP : ∀ c ∈ pre, ok c = true) (lenP : pre.length ≤ 10) (hp : 10 ∉ pre) (hw : wordsOf T ≠ []) : Facts T pre where
  okT := okT
  lenT := lenT
  okP := okP
  lenP := lenP
  okC := by rw [cap_each]; exact each_mem okT fun r => great_ok
  lenC := by
    rw [cap_each]
    have := each_len (f := great) 0 (fun r => by rw [great_length]; omega) T
    omega
  okI := by rw [ind_eq]; exact each_mem (f := lay pr1 pre) okT fun r hr => lay_ok okP hr
  lenI := by
    rw [ind_eq]
    have h1 : ((rowsOf T).map (lay pr1 pre)).flatten.length ≤ (10 + 1) * T.length := each_len (f := lay pr1 pre) 10 (fun r => Nat.le_trans (lay_len pr1 pre r) (by omega)) T
    omega
  okJ := by rw [ind_eq]; exact each_mem (f := lay pr1 [32, 9, 32]) okT fun r hr => lay_ok (by decide) hr
  lenJ := by
    rw [ind_eq]
    have h1 : ((rowsOf T).map (lay pr1 [32, 9, 32])).flatten.length ≤ (3 + 1) * T.length := each_len (f := lay pr1 [32, 9, 32]) 3 (fun r => lay_len pr1 [32, 9, 32] r) T
    omega
  okW := capSp_ok okT
  lenW := by have := capSp_len T; omega
  c1 := cap_each T
  c2 := by rw [ind_eq]; exact law_c2 pre T okT
  c3 := by rw [ind_eq]; exact law_c3 hp T okT
  c4 := by rw [ind_eq]; exact law_c4 pre T
  c5 := by rw [ind_eq, capSp, capSp]; exact congrArg (fun ws => joinL [32] (ws.map great)) (law_c5 (pre := [32, 9, 32]) (by decide) (by decide) T)
  c6 := by rw [ind_eq]; exact law_c6 pre okT hw

theorem sg_ok (n : Int) : ok (sg n) = true := by
  unfold sg
  have h1 : 0 ≤ n.fmod 9 := Int.fmod_nonneg_of_pos _ (by decide)
  have h2 : n.fmod 9 < 9 := Int.fmod_lt_of_pos _ (by decide)
  generalize n.fmod 9 = k at *
  have : k = 0 ∨ k = 1 ∨ k = 2 ∨ k = 3 ∨ k = 4 ∨ k = 5 ∨ k = 6 ∨ k = 7 ∨ k = 8 := by omega
  rcases this with rfl | rfl | rfl | rfl | rfl | rfl | rfl | rfl | rfl <;> decide
theorem pf_ok (n : Int) : (∀ c ∈ pf n, ok c = true) ∧ (pf n).length ≤ 10 ∧ 10 ∉ pf n := by
  unfold pf
  have h1 : 0 ≤ n.fmod 6 := Int.fmod_nonneg_of_pos _ (by decide)
  have h2 : n.fmod 6 < 6 := Int.fmod_lt_of_pos _ (by decide)
  generalize n.fmod 6 = k at *
  have : k = 0 ∨ k = 1 ∨ k = 2 ∨ k = 3 ∨ k = 4 ∨ k = 5 := by omega
  rcases this with rfl | rfl | rfl | rfl | rfl | rfl <;> decide
theorem txt_facts (ns : List Int) (n : Int) : Facts (txt ns) (pf n) := by
  obtain ⟨h1, h2, h3⟩ := pf_ok n
  refine facts (fun c hc => ?_) ?_ h1 h2 h3 ?_
  · rcases List.mem_append.mp hc with hc | hc
    · obtain ⟨k, _, rfl⟩ := List.mem_map.mp hc
      exact sg_ok k
    · exact (show ∀ c ∈ tl, ok c = true by decide) c hc
  · rw [txt, List.length_append, List.length_map, List.length_take, show tl.length = 12 by decide]; omega
  · rw [Ne, words_nil, txt, List.all_append, show tl.all wht = false by decide, Bool.and_false]; exact Bool.false_ne_true
end Mine

namespace Mine
set_option maxRecDepth 100000
set_option maxHeartbeats 8000000
open_top hd for PySem.Challenge.rw_ki0037_01
end Mine

namespace Mine
set_option maxRecDepth 100000
set_option maxHeartbeats 4000000

/-- what stands on the heap when the law is called -/
theorem ctx_of {P : Params} {h : Heap} {p : Program} {loose : List Str} {mean : ExcName → Option Value} {mg mb : Str → Option Value} (X : (hd.heap_39 P).In h) (T : Top p loose mean mg mb h) (H : CodeHd h 21 17) : CtxI mg mb 17 h where
  c := {
    g := T.g
    b := T.b
    bi := T.builtins
    lim := T.nolimit
    fchr := mg_none_of X T.g rfl
    ford := mg_none_of X T.g rfl
    fmap := mg_none_of X T.g rfl
    fstr := mg_none_of X T.g rfl
    great := ⟨51, .ref 50, mg_of X T.g rfl, _, _, _, _, _, _, X 51 _ rfl, rfl, 50, _, _, _, rfl, X 50 _ rfl, rfl, rfl⟩
    rows := ⟨37, .ref 36, mg_of X T.g rfl, _, _, _, _, _, _, X 37 _ rfl, rfl, 36, _, _, _, rfl, X 36 _ rfl, rfl, rfl⟩
    words := ⟨44, .ref 43, mg_of X T.g rfl, _, _, _, _, _, _, X 44 _ rfl, rfl, 43, _, _, _, rfl, X 43 _ rfl, rfl, rfl⟩
    white := ⟨58, .ref 57, mg_of X T.g rfl, _, _, _, _, _, _, X 58 _ rfl, rfl, 57, _, _, _, rfl, X 57 _ rfl, rfl, rfl⟩
    cap := ⟨30, .ref 29, 23, _, _, mg_of X T.g rfl, ⟨_, _, _, _, _, _, X 30 _ rfl, rfl, 29, _, _, _, rfl, X 29 _ rfl, rfl, rfl⟩, X 23 _ rfl, rfl⟩ }
  top := ⟨p, loose, mean, T⟩
  ind := ⟨22, 21, 15, _, _, mg_of X T.g rfl, ⟨_, _, _, _, _, _, X 22 _ rfl, rfl, 21, _, _, _, rfl, X 21 _ rfl, rfl, rfl⟩, X 15 _ rfl, rfl, H⟩
end Mine

namespace Mine
set_option maxRecDepth 100000
set_option maxHeartbeats 4000000

theorem law_all {w : World} {A : Around} {s : Shared} {p : Program} {loose : List Str} {mean : ExcName → Option Value} {mg mb : Str → Option Value} {hb : Heap} {L a sc : Addr} {m : Str → Option Value} {o : Obj} {cv : Option Value} {vs : List Value} {ns : List Int} {P : Params} {Q : Flow → Shared → Prop} {E : Value → Shared → Prop}
    (X : (hd.heap_39 P).In hb) (T : Top p loose mean mg mb hb) (H1 : CodeHd hb 21 17) (H2 : CodeHd hb 62 60) (F : Fr hb L s.heap m) (N : News hb L s.heap [(L + 1, o), (17, tabObj #[]), (60, tabObj #[])]) (ho : o.data = .cell cv) (l0 : 17 < L ∧ 60 < L)
    (hms : m (Str.ofString "script") = some (.ref sc)) (hsc : hb.IsList sc vs.toArray) (hI : IntsAre vs ns) (hns : ¬ ((63 : Nat) : Int) < ((ns.length : Nat) : Int)) (hh : A.handled = none) (hr : A.depth + 5 < recursionLimit) (hu : A.units + 80 < cLine)
    (hQ : ∀ h' tk m', Fr hb L h' m' → GrownAll [(21, 17), (62, 60)] h' → Q (.ret (.bool true)) { s with heap := h', toks := tk }) :
    wpAny (model prg w) A (execs (fBody (stmtAt 9)) (lenv L a (.ref 62))) Q E s := by
  have n1 := N _ (.head _)
  have n2 := N _ (.tail _ (.head _))
  have n3 := N _ (.tail _ (.tail _ (.head _)))
  have f : LF mg mb hb L 17 60 62 := ⟨ctx_of X T H1, H2, n2.2.2, n3.2.2, n1.2.2, n2.2.1, n3.2.1, by decide, Nat.ne_of_gt (Nat.lt_succ_of_lt l0.1), Nat.ne_of_gt (Nat.lt_succ_of_lt l0.2)⟩
  have x : LS hb L 17 60 s.heap m cv #[] [] := ⟨F, ⟨#[], n2.1, .inl rfl⟩, n3.1, ⟨o, n1.1, ho⟩, News.nil⟩
  refine wpAny_mono (law0 f (fun n => txt_facts ns n) hh hr hu x hms hsc hI (by omega) (Q := Q) fun h' tk m' cv' ps' led' y => ?_) (fun _ _ x => x) fun _ _ x => x.elim
  exact hQ h' tk m' y.F ⟨let ⟨ps, e, _⟩ := y.t17; ⟨ps, e⟩, ⟨_, y.t60⟩, trivial⟩
end Mine

set_option maxRecDepth 100000 in
set_option maxHeartbeats 8000000 in
theorem PySem.Challenge.cw_ki0037_01_holds : PySem.Challenge.rw_ki0037_01.Holds :=
  Mine.hd (by
  k_go0
  rename_i cd₀ X0 X' T' K' F' cH1 N' l0
  refine wpAny_mono (Mine.law_all X' T' cH1 codeHd F' N' cd₀ l0 rfl lifted (by assumption) (by assumption) rfl (show 302 + 5 < recursionLimit by decide) (show 7 + 80 < cLine by decide) (fun h' tk m' F'' G'' => ?_)) (fun _ _ x => x) fun _ _ x => x
  exact ⟨goodW_bool F'' (by assumption) (fun _ => rfl) (by wrow_post) rfl, G''⟩)
