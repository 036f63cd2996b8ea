import PyProof.Rows.All
import Wide.All
import OpenK.AllK
import Wide.FinOn
import PySem.Challenge.RW_pm0051_01
set_option compiler.extract_closed false
set_option Elab.async false
section
open PySem PySem.W PySem.Calls PyProof.Rows
local macro_rules | `(tactic| k_room) => `(tactic| first | exact Nat.le_of_ble_eq_true rfl | ktr_room | (simp only [depth_deeper]; omega) | (dsimp only [Around.deeper, Around.in1]; omega) | (simp only [Around.deeper, Around.in1, ktrTop]; omega) | (simp only [Around.deeper]; omega) | (dsimp only [Around.in1, Around.deeper, callerA]; decide))
section
open PySem PySem.W PyProof.Rows
set_option Elab.async false
set_option maxRecDepth 100000
set_option maxHeartbeats 8000000
namespace Mine
open_top hd for PySem.Challenge.rw_pm0051_01

end Mine
end
section
open PySem PySem.Calls PyProof.Rows
set_option maxRecDepth 100000
namespace Mine
open Builtin Builtin.Str
noncomputable def repl1 (x : Str) (ab : Str × Str) : Str := Txt.join ab.2 (Txt.split x ab.1)
noncomputable def replAll (x : Str) (ps : List (Str × Str)) : Str := ps.foldl repl1 x
noncomputable def flat2 : List (Str × Str) → List Str
  | [] => []
  | (a, b) :: r => a :: b :: flat2 r
theorem join_len (sep : Str) : ∀ ts : List Str, ts ≠ [] → (Str.join sep ts).length + sep.length = (ts.map (·.length)).sum + ts.length * sep.length
  | [], h => absurd rfl h
  | [x], _ => by simp [Str.join]
  | x :: y :: r, _ => by
    have ih := join_len sep (y :: r) (by simp)
    show (x ++ sep ++ Str.join sep (y :: r)).length + sep.length = _
    simp only [Str.length_append]
    simp only [List.map_cons, List.sum_cons, List.length_cons, Nat.succ_mul] at ih ⊢
    omega
theorem split_ne (x y : Str) : Txt.split x y ≠ [] := by
  unfold Txt.split
  split
  · simp
  · split
    · simp
    · rw [StrLaws.partsBetween_eq]
      obtain ⟨p, r, e⟩ := StrLaws.partsFrom_ne x y.length 0 (occurrences x y 0 x.length (x.length + 1))
      rw [e]; simp
theorem split_sum (x y : Str) : ((Txt.split x y).map (·.length)).sum + (Txt.split x y).length * y.length = x.length + y.length := by
  have h := join_len y _ (split_ne x y)
  rw [StrLaws.join_split] at h
  exact h.symm
theorem joinOk_of (sep : Str) (ts : List Str) (h : (ts.map (·.length)).sum + ts.length * sep.length ≤ 16777216) : JoinOk sep ts = true := by
  unfold JoinOk
  rw [Bool.not_eq_true']
  show Builtin.Str.tooLong (ts.toArray.foldl (fun a p => a + p.length + sep.length) 0) = false
  rw [StrLaws.joinTotal]
  unfold tooLong sizeLine
  have e : (2 : Nat) ^ 24 = 16777216 := by decide
  exact decide_eq_false (by omega)
theorem join_eq (sep : Str) (ts : List Str) : Txt.join sep ts = Str.join sep ts := StrLaws.glued_eq_join sep ts
theorem repl1_len (x : Str) (ab : Str × Str) (h : ab.2.length ≤ ab.1.length) : (repl1 x ab).length ≤ x.length := by
  unfold repl1
  rw [join_eq]
  have h1 := join_len ab.2 _ (split_ne x ab.1)
  have h2 := split_sum x ab.1
  have h3 : (Txt.split x ab.1).length * ab.2.length ≤ (Txt.split x ab.1).length * ab.1.length := Nat.mul_le_mul_left _ h
  have h4 : 1 ≤ (Txt.split x ab.1).length := List.length_pos_iff.mpr (split_ne x ab.1)
  obtain ⟨k, hk⟩ : ∃ k, (Txt.split x ab.1).length = k + 1 := ⟨_, (Nat.sub_add_cancel h4).symm⟩
  rw [hk, Nat.succ_mul] at h1 h2
  have h5 : k * ab.2.length ≤ k * ab.1.length := Nat.mul_le_mul_left _ h
  omega
theorem joinOk_split (x y z : Str) (hz : z.length ≤ y.length) (hx : x.length + y.length ≤ 16777216) : JoinOk z (Txt.split x y) = true := by
  refine joinOk_of _ _ ?_
  have h2 := split_sum x y
  have h3 : (Txt.split x y).length * z.length ≤ (Txt.split x y).length * y.length := Nat.mul_le_mul_left _ hz
  omega
section
variable {prog : Program} {w : World} {A : Around} {E : Value → Shared → Prop} {s : Shared} {x y z : Str} {t u v : Tok} {Q : Value → Shared → Prop}
theorem my_replace (hu' : @LT.lt Nat _ 0 u) (hv' : @LT.lt Nat _ 0 v) (huv' : @LT.lt Nat _ u v) (hyz : (y == z) = false) (hb : x.length + (x.length + 1) * z.length ≤ 16777216)
    (hq : ∀ t' k, s.toks ≤ k → Q (.str (Txt.replace x y z) t') { s with toks := k }) : wpAny (model prog w) A (call (.builtin "str.replace") [.str x t, .str y u, .str z v]) Q E s := by
  have hu : u ≠ 0 := Nat.ne_of_gt hu'
  have hv : v ≠ 0 := Nat.ne_of_gt hv'
  have huv : u ≠ v := Nat.ne_of_lt huv'
  have h1 : (occurrences x y 0 x.length (x.length + 1)).length * z.length ≤ (x.length + 1) * z.length := Nat.mul_le_mul_right _ (StrLaws.occ_length_le x y 0 x.length (x.length + 1))
  have hl : tooLong (x.length + (occurrences x y 0 x.length (x.length + 1)).length * z.length) = false := by
    unfold tooLong
    exact decide_eq_false (by rw [sizeLine_eq]; omega)
  have hz : (u == 0 || v == 0) = false := by
    rw [Bool.or_eq_false_iff]; exact ⟨beq_eq_false_iff_ne.mpr hu, beq_eq_false_iff_ne.mpr hv⟩
  refine call_gives F.slot_str_replace (typeIs_str _ _ _) F.entry_str_replace (F.args_str_replace_3 _ _ _) (gives_str_replace x y z t u v fun _ => ⟨hz, beq_eq_false_iff_ne.mpr huv, hyz, hl⟩) ?_
  by_cases hc : ((occurrences x y 0 x.length (x.length + 1)).isEmpty || (y.length == 0 && z.length == 0)) = true
  · have e : Txt.replace x y z = x := by unfold Txt.replace; rw [if_pos hc]
    rw [if_pos hc]
    have := hq t s.toks (Nat.le_refl _)
    rw [e] at this
    exact this
  · have e : Txt.replace x y z = glued z (partsBetween x (occurrences x y 0 x.length (x.length + 1)) y.length) := by unfold Txt.replace; rw [if_neg hc]
    rw [if_neg hc]
    have := hq s.toks (s.toks + 1) (Nat.le_succ _)
    rw [e] at this
    exact ⟨fits_replaced y hb, this⟩
end
end Mine
end
section
namespace Mine
section
universe u v
@[elab_as_elim] theorem park2 {α : Type u} {β : Type v} {G : α → β → Prop} (a : α) (b : β) (h : ∀ K : α → β → Prop, (∀ a b, G a b → K a b) → K a b) : G a b :=
  h G fun _ _ x => x
@[elab_as_elim] theorem park1 {α : Type u} {G : α → Prop} (a : α) (h : ∀ K : α → Prop, (∀ a, G a → K a) → K a) : G a :=
  h G fun _ x => x
theorem park0 {G : Prop} (h : ∀ K : Prop, (G → K) → K) : G :=
  h G fun x => x
end
-- facts about numbers, in the few forms that the walk asks for: 'omega' tells them too, at ten times the size
section
variable {a b c d e m n x : Nat} {P : Prop}
theorem le0 (g : Nat.ble 1 b = true) : 0 + 1 ≤ b := Nat.le_of_ble_eq_true g
theorem le1 (h : x ≤ a) (g : Nat.ble a b = true) : x ≤ b := Nat.le_trans h (Nat.le_of_ble_eq_true g)
theorem le2 (h : ¬ a < x) (g : Nat.ble a b = true) : x ≤ b := le1 (Nat.le_of_not_lt h) g
theorem le4 (h : c ≤ x ∧ x ≤ a) (g : Nat.ble a b = true) : x ≤ b := le1 h.2 g
theorem rm0 (h : a + n < e) : a < e := Nat.lt_of_le_of_lt (Nat.le_add_right _ _) h
theorem rm1 (h : a + n < e) (g : Nat.ble m n = true) : a + m < e := Nat.lt_of_le_of_lt (Nat.add_le_add_left (Nat.le_of_ble_eq_true g) _) h
theorem rm2 (h : a + n < e) (g : Nat.ble (b + m) n = true) : a + b + m < e := Nat.add_assoc a b m ▸ rm1 h g
theorem rm3 (h : a + n < e) (g : Nat.ble (b + c + m) n = true) : a + b + c + m < e := Nat.add_assoc a b c ▸ rm2 h g
theorem rm4 (h : a + n < e) (g : Nat.ble (b + c + d + m) n = true) : a + b + c + d + m < e := Nat.add_assoc a b c ▸ rm3 h g
theorem ln1 (h : a < e ∧ P) : a ≠ e := Nat.ne_of_lt h.1
theorem ln2 (h : b < e ∧ a < e ∧ P) : a ≠ e := ln1 h.2
theorem ln3 (h : c < e ∧ b < e ∧ a < e ∧ P) : a ≠ e := ln1 h.2.2
theorem ln4 (h : d < e ∧ c < e ∧ b < e ∧ a < e ∧ P) : a ≠ e := ln1 h.2.2.2
theorem on1 (h : a ≠ e ∧ P) : e ≠ a := h.1.symm
theorem on4 (h : d ≠ e ∧ c ≠ e ∧ b ≠ e ∧ a ≠ e ∧ P) : e ≠ a := h.2.2.2.1.symm
theorem on5 (h : m ≠ e ∧ d ≠ e ∧ c ≠ e ∧ b ≠ e ∧ a ≠ e ∧ P) : e ≠ a := h.2.2.2.2.1.symm
end
end Mine
end
local macro_rules | `(tactic| omega) => `(tactic| with_reducible first | exact Nat.zero_le _ | exact Mine.le0 rfl | exact Nat.succ_pos _ | exact Nat.lt_succ_self _ | exact Mine.le1 ‹_› rfl | exact Mine.le2 ‹_› rfl | exact Mine.le4 ‹_› rfl | exact Mine.rm0 ‹_› | exact Mine.rm1 ‹_› rfl | exact Mine.rm2 ‹_› rfl | exact Mine.rm3 ‹_› rfl | exact Mine.rm4 ‹_› rfl)
local macro_rules | `(tactic| k_ne) => `(tactic| with_reducible first | exact Mine.ln1 ‹_› | exact Mine.ln2 ‹_› | exact Mine.ln3 ‹_› | exact Mine.ln4 ‹_› | exact Mine.on1 ‹_› | exact Mine.on4 ‹_› | exact Mine.on5 ‹_›)
local macro_rules | `(tactic| ktr_room) => `(tactic| first | exact Nat.le_of_ble_eq_true rfl | exact Mine.rm0 (by with_reducible assumption) | exact Mine.rm1 (by with_reducible assumption) rfl | exact Mine.rm2 (by with_reducible assumption) rfl | exact Mine.rm3 (by with_reducible assumption) rfl | exact Mine.rm4 (by with_reducible assumption) rfl)
section
open PySem PySem.W PySem.Calls PyProof.Rows
set_option maxRecDepth 100000
namespace Mine
noncomputable abbrev prog0 : Program := Challenge.rw_pm0051_01.row.prog
noncomputable abbrev Ct (w : World) (p : Program) (loose : List Str) (mean : ExcName → Option Value) (mg mb : Str → Option Value) (f : Addr) (vs : List Value) (nd nu : Nat) (news : List (Addr × Obj)) (R : Value → List (Addr × Obj) → Prop) : Prop :=
  ∀ (dp un : Nat) (gd : Option (List Code)) (cn : Str) (nm : List (Str × NameKind)) (ig ic : Bool) (mr : List (Str × Const)) (a : Addr) (ccd : Value) (cl : List (Str × Addr)) (outer : List Env) (A₀ : Around) (base h₀ : Heap) (L : Addr) (m : Str → Option Value) (s : Shared) (Q E : Value → Shared → Prop),
    Below A₀ base outer h₀ → Fr h₀ L s.heap m → (hd.heap_39 w.params).In h₀ → News h₀ L s.heap news → Top p loose mean mg mb h₀ →
    dp + nd < recursionLimit → un + nu < cLine →
    (∀ v h' tk' news', R v news' → Fr h₀ L h' m → News h₀ L h' news' → Q v { s with heap := h', toks := tk' }) →
    wpAny (model Challenge.rw_pm0051_01.row.prog w) (ktrTop dp un gd cn { kind := .function, names := nm, isGenerator := ig, isCoroutine := ic, more := mr } L a ccd cl outer) (call (.ref f) vs) Q E s
noncomputable abbrev tupObj (vs : List Value) : Obj := { cls := .type "tuple", data := .seq vs.toArray }
noncomputable def Hold (P : Prop) : Prop := P
theorem Hold.mk {P : Prop} (h : Hold P) : P := h
theorem allLt_mem {d : Addr} : ∀ {l : List (Addr × Obj)}, AllLt d l → ∀ q ∈ l, q.1 < d
  | [], _, _, h => nomatch h
  | _ :: _, x, q, h => by
    rcases List.mem_cons.mp h with rfl | h
    · exact x.1
    · exact allLt_mem x.2 q h
noncomputable abbrev CtK (w : World) (p : Program) (loose : List Str) (mean : ExcName → Option Value) (mg mb : Str → Option Value) (f : Addr) (vs : List Value) (kw : List (Str × Value)) (nd nu : Nat) (news : List (Addr × Obj)) (R : Value → List (Addr × Obj) → Prop) : Prop :=
  ∀ (dp un : Nat) (gd : Option (List Code)) (cn : Str) (nm : List (Str × NameKind)) (ig ic : Bool) (mr : List (Str × Const)) (a : Addr) (ccd : Value) (cl : List (Str × Addr)) (outer : List Env) (A₀ : Around) (base h₀ : Heap) (L : Addr) (m : Str → Option Value) (s : Shared) (Q E : Value → Shared → Prop),
    Below A₀ base outer h₀ → Fr h₀ L s.heap m → (hd.heap_39 w.params).In h₀ → News h₀ L s.heap news → Top p loose mean mg mb h₀ →
    dp + nd < recursionLimit → un + nu < cLine →
    (∀ v h' tk' news', R v news' → Fr h₀ L h' m → News h₀ L h' news' → Q v { s with heap := h', toks := tk' }) →
    wpAny (model Challenge.rw_pm0051_01.row.prog w) (ktrTop dp un gd cn { kind := .function, names := nm, isGenerator := ig, isCoroutine := ic, more := mr } L a ccd cl outer) (call (.ref f) vs kw) Q E s
theorem news_rot {h₀ h : Heap} {L : Addr} {a b c : Addr × Obj} {r : List (Addr × Obj)} (N : News h₀ L h (a :: b :: c :: r)) : News h₀ L h (b :: c :: a :: r) :=
  cb_drop N fun q hq => by
    simp only [List.mem_cons] at hq ⊢
    rcases hq with h | h | h | h
    · exact .inr (.inl h)
    · exact .inr (.inr (.inl h))
    · exact .inl h
    · exact .inr (.inr (.inr h))
section
variable {prog : Program} {w : World} {A : Around} {E : Value → Shared → Prop} {s : Shared} {h₀ : Heap} {L : Addr} {m : Str → Option Value} {news : List (Addr × Obj)}
theorem item_tup0 {value slice : Expr} {t : Addr} {x : Value} {l : List Value} {u : Tok} {Q : Value → Shared → Prop} (ht : IsTup s.heap t (x :: l).toArray) (h : Q x s)
    (hs : subscripted slice false (.ref t) (.int 0 u) = operate [.ref t, .int 0 u] (getItem (.ref t) (.int 0 u))) :
    wpAny (model prog w) A (subscriptTail value slice (.ref t) (.int 0 u)) Q E s := by
  refine item_tupleT (j := 0) ht (by decide) (by decide) ?_ rfl h hs
  unfold seqIndex?
  have h2 : ((0 : Int)) < (((x :: l).length : Nat) : Int) := by rw [List.length_cons]; omega
  have h3 : ¬ ((0 : Int) < 0) := by omega
  rw [if_neg h3]; show (if (decide _ && decide _) = true then _ else _) = _; rw [decide_eq_true h2]
  rfl
theorem item_tup1 {value slice : Expr} {t : Addr} {x y : Value} {l : List Value} {u : Tok} {Q : Value → Shared → Prop} (ht : IsTup s.heap t (x :: y :: l).toArray) (h : Q y s)
    (hs : subscripted slice false (.ref t) (.int 1 u) = operate [.ref t, .int 1 u] (getItem (.ref t) (.int 1 u))) :
    wpAny (model prog w) A (subscriptTail value slice (.ref t) (.int 1 u)) Q E s := by
  refine item_tupleT (j := 1) ht (by decide) (by decide) ?_ rfl h hs
  unfold seqIndex?
  have h2 : ((1 : Int)) < (((x :: y :: l).length : Nat) : Int) := by rw [List.length_cons, List.length_cons]; omega
  have h3 : ¬ ((1 : Int) < 0) := by omega
  rw [if_neg h3]; show (if (decide _ && decide _) = true then _ else _) = _; rw [decide_eq_true h2]
  rfl
end
section
universe u v
noncomputable def Back {α : Type} (K : α → Shared → Prop) (v : α) (s : Shared) : Prop := K v s
theorem Back.next {K : Flow → Shared → Prop} {s' : Shared} {P : Shared → Prop} (hK : ∀ s', P s' → Back K .next s') (h : P s') : Back K .next s' := hK _ h
theorem Back.other {K : Flow → Shared → Prop} {f : Flow} {s' : Shared} {P : Flow → Shared → Prop} (hK : ∀ f s', f ≠ .next → P f s' → Back K f s') (hf : f ≠ .next) (h : P f s') : Back K f s' := hK _ _ hf h
theorem Back.val {α : Type} {K : α → Shared → Prop} {v : α} {s' : Shared} {P : α → Shared → Prop} (hK : ∀ v s', P v s' → Back K v s') (h : P v s') : Back K v s' := hK _ _ h
variable {M : Model} {A : Around} {E : Value → Shared → Prop} {env : Env} {s : Shared}
theorem execs_cons_H {st : Stmt} {rest : List Stmt} {Q : Flow → Shared → Prop}
    (h : ∀ K : Flow → Shared → Prop, (∀ s', wpAny M A (execs rest env) Q E s' → Back K .next s') → (∀ f s', f ≠ .next → Q f s' → Back K f s') → wpAny M A (exec st env) (Back K) E s) :
    wpAny M A (execs (st :: rest) env) Q E s := by
  refine wpAny_execs_cons ?_
  refine h _ (fun s' h => h) (fun f s' hf hq => ?_)
  unfold Back
  cases f <;> first | exact absurd rfl hf | exact hq
end
end Mine
end
section
open PySem PySem.W PySem.Calls PyProof.Rows PySem.Spec PyProof.Rows.LCg PyProof.Rows.LCt
set_option Elab.async false
set_option maxRecDepth 100000
set_option maxHeartbeats 4000000
namespace Mine
theorem anew_Comp : True := by
  w_top off
  exact True.intro
section
variable {prog : Program} {w : World} {A : Around} {E : Value → Shared → Prop} {s : Shared} {h₀ : Heap} {L : Addr} {m : Str → Option Value} {env : Env}
noncomputable def strSt (I : Addr) (x : Str) (t : Tok) (i : Nat) (h : Heap) : Prop := h.IsStrIter I (strIterType x) x t i
theorem str_walks (hh : A.handled = none) (I : Addr) (x : Str) (t : Tok) : Walks prog w A I [I] [I] x.cps.size (SignAt x) (strSt I x t) := by
  unfold strSt strIterType
  cases ha : x.cps.all (· < 128)
  · exact Walks.strWide hh I x t
  · exact Walks.strAscii hh I x t
section
variable {ct elt : Expr} {x : Str} {scope : Scope} {cl : List (Str × Addr)} {S : List (Addr × Obj) → Prop} {P : Nat → Value → Prop} {Fin : List Value → List (Addr × Obj) → Prop} {news : List (Addr × Obj)} {n : Nat}
theorem restT (Acc : Nat → List Value → Prop) (a0 : Acc 0 [])
    (turn : ∀ i v I oI C oC D m₂ ys h tk (E' : Value → Shared → Prop), i < n → P i v → Acc i ys → NsObj oC m₂ → m₂ x = some v → Fr h₀ L h m → News h₀ L h ((I, oI) :: (C, oC) :: (D, lst ys) :: news) → Off3 I C D news → ((@Ne Nat I C) ∧ (@Ne Nat I D) ∧ (@Ne Nat C D)) →
      wpAny (model prog w) A (isTrue ct (compEnvC scope cl C env) (eval ct (compEnvC scope cl C env))) (fun ok s' => if ok = true then
        wpAny (model prog w) A (eval elt (compEnvC scope cl C env)) (CompEnd h₀ L m { s with heap := h, toks := tk } I oI C oC D (lst ys) S (fun y news' => news' = news ∧ Acc (i + 1) (ys ++ [y]))) E' s'
        else CompEnd h₀ L m { s with heap := h, toks := tk } I oI C oC D (lst ys) S (fun _ news' => news' = news ∧ Acc (i + 1) ys) Value.none s') E' { s with heap := h, toks := tk })
    (fin : ∀ ys, Acc n ys → Fin ys news) : CompRestT prog w A h₀ L m env ct elt x scope cl s S P Fin n 0 [] news := by
  have key : ∀ (j i : Nat) (ys : List Value), i + j = n → Acc i ys → CompRestT prog w A h₀ L m env ct elt x scope cl s S P Fin j i ys news := by
    intro j
    induction j with
    | zero => intro i ys hi ha; rw [Nat.add_zero] at hi; subst hi; exact CompRestT.zero (fin ys ha)
    | succ j ih =>
      intro i ys hi ha
      refine CompRestT.succ ?_
      intro v I oI C oC D m₂ h tk E' hv hC hx F N off ne
      refine wpAny_mono (turn i v I oI C oC D m₂ ys h tk E' (by omega) hv ha hC hx F N off ne) (fun ok s₂ hq => ?_) fun _ _ e => e
      cases ok with
      | true =>
        simp only [if_true] at hq ⊢
        refine wpAny_mono hq (fun y s₃ hq => ?_) fun _ _ e => e
        obtain ⟨h', tk', nw, e, F', N', off', hS, hn, ha'⟩ := hq
        subst hn
        exact ⟨h', tk', nw, e, F', N', off', hS, ih (i + 1) _ (by omega) ha'⟩
      | false =>
        simp only [Bool.false_eq_true, if_false] at hq ⊢
        obtain ⟨h', tk', nw, e, F', N', off', hS, hn, ha'⟩ := hq
        subst hn
        exact ⟨h', tk', nw, e, F', N', off', hS, ih (i + 1) _ (by omega) ha'⟩
  exact key n 0 [] (by omega) a0
theorem restU (Acc : Nat → List Value → Prop) (a0 : Acc 0 [])
    (turn : ∀ i v I oI C oC D m₂ ys h tk (E' : Value → Shared → Prop), i < n → P i v → Acc i ys → NsObj oC m₂ → m₂ x = some v → Fr h₀ L h m → News h₀ L h ((I, oI) :: (C, oC) :: (D, lst ys) :: news) → Off3 I C D news → ((@Ne Nat I C) ∧ (@Ne Nat I D) ∧ (@Ne Nat C D)) →
      wpAny (model prog w) A (eval elt (compEnvC scope cl C env)) (CompEnd h₀ L m { s with heap := h, toks := tk } I oI C oC D (lst ys) S (fun y news' => news' = news ∧ Acc (i + 1) (ys ++ [y]))) E' { s with heap := h, toks := tk })
    (fin : ∀ ys, Acc n ys → Fin ys news) : CompRest prog w A h₀ L m env elt x scope cl s S P Fin n 0 [] news := by
  have key : ∀ (j i : Nat) (ys : List Value), i + j = n → Acc i ys → CompRest prog w A h₀ L m env elt x scope cl s S P Fin j i ys news := by
    intro j
    induction j with
    | zero => intro i ys hi ha; rw [Nat.add_zero] at hi; subst hi; exact CompRest.zero (fin ys ha)
    | succ j ih =>
      intro i ys hi ha
      refine CompRest.succ ?_
      intro v I oI C oC D m₂ h tk E' hv hC hx F N off ne
      refine wpAny_mono (turn i v I oI C oC D m₂ ys h tk E' (by omega) hv ha hC hx F N off ne) (fun y s₃ hq => ?_) fun _ _ e => e
      obtain ⟨h', tk', nw, e, F', N', off', hS, hn, ha'⟩ := hq
      subst hn
      exact ⟨h', tk', nw, e, F', N', off', hS, ih (i + 1) _ (by omega) ha'⟩
  exact key n 0 [] (by omega) a0
end
end
end Mine
end
section
open PySem PySem.W PySem.Calls PyProof.Rows PySem.Spec PyProof.Rows.LCg PyProof.Rows.LCt
set_option Elab.async false
set_option maxRecDepth 100000
set_option maxHeartbeats 4000000
namespace Mine
theorem anew_Comp2 : True := by
  w_top off
  exact True.intro
section
variable {prog : Program} {w : World} {A : Around} {s : Shared} {h₀ : Heap} {L : Addr} {m : Str → Option Value} {env : Env}
theorem turn_in (elt iter iter2 : Expr) (x y : Str) (px py : Pos) (scope : Scope) (pos : Pos) (it acc : Value) (env : Env) :
    compTurn (.ListComp elt [⟨.Name x px, iter, [], 0⟩, ⟨.Name y py, iter2, [], 0⟩] scope pos) 1 it acc env = (standAt iter2.pos >>= fun _ => pyNext it >>= fun r => match r with
      | none => pure (.done .next)
      | some v => letOwnedTupleGo (.Name y py) it v >>= fun _ => assign (.Name y py) env v >>= fun _ =>
        (eval elt env >>= fun z => call (.builtin "list.append") [acc, z] >>= fun _ => pure ()) >>= fun _ =>
          again (.compLoop (.ListComp elt [⟨.Name x px, iter, [], 0⟩, ⟨.Name y py, iter2, [], 0⟩] scope pos) 1 it acc env)) := by rfl
theorem turn_out (elt iter iter2 : Expr) (x y : Str) (px py : Pos) (scope : Scope) (pos : Pos) (it acc : Value) (env : Env) :
    compTurn (.ListComp elt [⟨.Name x px, iter, [], 0⟩, ⟨.Name y py, iter2, [], 0⟩] scope pos) 0 it acc env = (standAt iter.pos >>= fun _ => pyNext it >>= fun r => match r with
      | none => pure (.done .next)
      | some v => letOwnedTupleGo (.Name x px) it v >>= fun _ => assign (.Name x px) env v >>= fun _ =>
        eval iter2 env >>= fun z => standAt iter2.pos >>= fun _ => foldedSetIterable iter2 env z >>= fun z => (holding [z] (pyIter z)) >>= fun i2 => runOwn (.compStart (.ListComp elt [⟨.Name x px, iter, [], 0⟩, ⟨.Name y py, iter2, [], 0⟩] scope pos) 1 i2 acc env) env >>= fun _ =>
          again (.compLoop (.ListComp elt [⟨.Name x px, iter, [], 0⟩, ⟨.Name y py, iter2, [], 0⟩] scope pos) 0 it acc env)) := by rfl
theorem loop_in {elt iter iter2 : Expr} {x y : Str} {px py : Pos} {scope : Scope} {pos : Pos} {it acc : Value} {env : Env} {R : Result → Shared → Prop} (J : Nat → Shared → Prop)
    (turn : ∀ n s, J n s → wpAny (model prog w) A (pyNext it) (fun r s₁ => match r with
      | none => R (.ok .next) s₁
      | some v => wpAny (model prog w) A (assign (.Name y py) env v) (fun _ s₂ => wpAny (model prog w) A (eval elt env) (fun z s₃ =>
          wpAny (model prog w) A (call (.builtin "list.append") [acc, z]) (fun _ s₄ => ∃ k, k < n ∧ J k s₄) (notedBy (model prog w) A env fun e s' => R (.error e) s') s₃)
          (notedBy (model prog w) A env fun e s' => R (.error e) s') s₂) (notedBy (model prog w) A env fun e s' => R (.error e) s') s₁) (notedBy (model prog w) A env fun e s' => R (.error e) s') s)
    (n : Nat) (h : J n s) :
    codeAny (model prog w) A (.compLoop (.ListComp elt [⟨.Name x px, iter, [], 0⟩, ⟨.Name y py, iter2, [], 0⟩] scope pos) 1 it acc env) R s := by
  refine codeAny_loop rfl J (fun n s hI => ?_) n h
  show wpAny _ A ((compTurn (.ListComp elt [⟨.Name x px, iter, [], 0⟩, ⟨.Name y py, iter2, [], 0⟩] scope pos) 1 it acc env).onRaise (fun x => do noteFrame x env; theTreesLotGoes x)) _ _ s
  refine wpAny_noted ?_
  rw [turn_in]
  refine wpAny_bind (wpAny_standAt (wpAny_bind (wpAny_mono (turn n s hI) (fun r s₁ h₁ => ?_) fun _ _ h' => h')))
  cases r with
  | none => exact wpAny_pure h₁
  | some v =>
    refine wpAny_bind (wpAny_of_eq (show letOwnedTupleGo (.Name y py) it v = pure () from rfl) ?_)
    exact wpAny_bind (wpAny_mono h₁ (fun _ s₂ h₂ => wpAny_bind (wpAny_bind (wpAny_mono h₂ (fun x s₃ h₃ => wpAny_bind (wpAny_mono h₃
      (fun _ s₄ h₄ => wpAny_pure (wpAny_pure ⟨rfl, h₄⟩)) fun _ _ h' => h')) fun _ _ h' => h'))) fun _ _ h' => h')
theorem loop_out {elt iter iter2 : Expr} {x y : Str} {px py : Pos} {scope : Scope} {pos : Pos} {it acc : Value} {env : Env} {R : Result → Shared → Prop} (J : Nat → Shared → Prop)
    (turn : ∀ n s, J n s → wpAny (model prog w) A (pyNext it) (fun r s₁ => match r with
      | none => R (.ok .next) s₁
      | some v => wpAny (model prog w) A (assign (.Name x px) env v) (fun _ s₂ => wpAny (model prog w) A (eval iter2 env) (fun z s₃ =>
          wpAny (model prog w) A (pyIter z) (fun i2 s₄ => codeAny (model prog w) A (.compStart (.ListComp elt [⟨.Name x px, iter, [], 0⟩, ⟨.Name y py, iter2, [], 0⟩] scope pos) 1 i2 acc env) (fun r s₅ => match r with | .ok _ => ∃ k, k < n ∧ J k s₅ | .error _ => False) s₄) (notedBy (model prog w) A env fun e s' => R (.error e) s') s₃)
          (notedBy (model prog w) A env fun e s' => R (.error e) s') s₂) (notedBy (model prog w) A env fun e s' => R (.error e) s') s₁) (notedBy (model prog w) A env fun e s' => R (.error e) s') s)
    (n : Nat) (h : J n s) (hf : ∀ z, foldedSetIterable iter2 env z = pure z) :
    codeAny (model prog w) A (.compLoop (.ListComp elt [⟨.Name x px, iter, [], 0⟩, ⟨.Name y py, iter2, [], 0⟩] scope pos) 0 it acc env) R s := by
  refine codeAny_loop rfl J (fun n s hI => ?_) n h
  show wpAny _ A ((compTurn (.ListComp elt [⟨.Name x px, iter, [], 0⟩, ⟨.Name y py, iter2, [], 0⟩] scope pos) 0 it acc env).onRaise (fun x => do noteFrame x env; theTreesLotGoes x)) _ _ s
  refine wpAny_noted ?_
  rw [turn_out]
  refine wpAny_bind (wpAny_standAt (wpAny_bind (wpAny_mono (turn n s hI) (fun r s₁ h₁ => ?_) fun _ _ h' => h')))
  cases r with
  | none => exact wpAny_pure h₁
  | some v =>
    refine wpAny_bind (wpAny_of_eq (show letOwnedTupleGo (.Name x px) it v = pure () from rfl) ?_)
    refine wpAny_bind (wpAny_mono h₁ (fun _ s₂ h₂ => wpAny_bind (wpAny_mono h₂ (fun z s₃ h₃ => ?_) fun _ _ h' => h')) fun _ _ h' => h')
    refine wpAny_bind (wpAny_standAt (wpAny_bind (wpAny_of_eq (hf z) (wpAny_bind (wpAny_holding (wpAny_mono h₃ (fun i2 s₄ h₄ => ?_) fun _ _ h' => h'))))))
    refine wpAny_bind (wpAny_runOwn (codeAny_mono h₄ fun r s₅ hr => ?_))
    cases r with
    | ok f => exact wpAny_pure ⟨rfl, hr⟩
    | error e => exact hr.elim
theorem not_mem_one {α : Type} {a b : α} (h : a ≠ b) : a ∉ [b] := fun m => h (List.mem_singleton.mp m)
theorem news_put {h₀ h : Heap} {L : Addr} {d : Addr × Obj} {news : List (Addr × Obj)} (z : h.get? d.1 = some d.2 ∧ d.1 ≠ L ∧ h₀.get? d.1 = none) (N : News h₀ L h news) : News h₀ L h (d :: news) := List.forall_mem_cons.mpr ⟨z, N⟩
theorem off_cons {d : Addr × Obj} {C : Addr} {news : List (Addr × Obj)} (h : d.1 ≠ C) (hn : ∀ p ∈ news, p.1 ≠ C) : ∀ p ∈ d :: news, p.1 ≠ C := List.forall_mem_cons.mpr ⟨h, hn⟩
theorem comp_kind {scope : Scope} {cl : List (Str × Addr)} {C : Addr} (h : scope.kind = .function) : ((compEnvC scope cl C env).scope.kind == .class || ((compEnvC scope cl C env).scope.kind == .module && (compEnvC scope cl C env).locals != (compEnvC scope cl C env).globals)) = false := by
  simp [compEnvC, relabel, h]
structure Apart (h₀ : Heap) (L : Addr) (led : List (Addr × Obj)) (a : Addr) : Prop where
  l : a ≠ L
  z : h₀.get? a = none
  off : ∀ p ∈ led, p.1 ≠ a
theorem inner_run {elt iter iter2 : Expr} {x y : Str} {px py : Pos} {scope : Scope} {pos : Pos} {cl : List (Str × Addr)} {C D I2 : Addr} {fp2 : List Addr} {n2 : Nat} {P2 : Nat → Value → Prop} {St2 : Nat → Heap → Prop} {led : List (Addr × Obj)}
    {R : Result → Shared → Prop} {ys₀ : List Value} {mC : Str → Option Value} {v : Value}
    (W2 : Walks prog w A I2 fp2 [I2] n2 P2 St2) (hfp2 : ∀ b ∈ fp2, b = I2 ∨ (∃ o, (b, o) ∈ led) ∨ ∃ o, h₀.get? b = some o) (hIo : ∀ i h, St2 i h → ∃ o, h.get? I2 = some o)
    (hkind : scope.kind = .function) (hy : scope.names.lookup y = some .local) (hxy : x ≠ y)
    (aI : Apart h₀ L led I2) (aC : Apart h₀ L led C) (aD : Apart h₀ L led D) (nIC : I2 ≠ C) (nID : I2 ≠ D) (nCD : C ≠ D)
    (Acc : Nat → List Value → Prop) (a0 : Acc 0 ys₀) (hsz : ys₀.length + n2 ≤ sizeLine)
    (elc : ∀ j u oI oC m₂ ys h tk (E' : Value → Shared → Prop), j < n2 → P2 j u → Acc j ys → NsObj oC m₂ → m₂ x = some v → m₂ y = some u → Fr h₀ L h m → News h₀ L h ((I2, oI) :: (C, oC) :: (D, lst ys) :: led) →
      wpAny (model prog w) A (eval elt (compEnvC scope cl C env)) (fun r s' => ∃ h' tk', s' = { s with heap := h', toks := tk' } ∧ Fr h₀ L h' m ∧ News h₀ L h' ((I2, oI) :: (C, oC) :: (D, lst ys) :: led) ∧ Acc (j + 1) (ys ++ [r])) E' { s with heap := h, toks := tk })
    {h : Heap} {tk : Nat} (st : St2 0 h) (F : Fr h₀ L h m) (hn : h.Ns C mC) (hv : mC x = some v) (N : News h₀ L h ((D, lst ys₀) :: led))
    (fin : ∀ h' tk' ys mC', Fr h₀ L h' m → h'.Ns C mC' → News h₀ L h' ((D, lst ys) :: led) → Acc n2 ys → ys.length ≤ ys₀.length + n2 → R (.ok .next) { s with heap := h', toks := tk' }) :
    codeAny (model prog w) A (.compLoop (.ListComp elt [⟨.Name x px, iter, [], 0⟩, ⟨.Name y py, iter2, [], 0⟩] scope pos) 1 (.ref I2) (.ref D) (compEnvC scope cl C env)) R { s with heap := h, toks := tk } := by
  refine loop_in (fun k s' => ∃ h tk i ys mC, s' = { s with heap := h, toks := tk } ∧ i ≤ n2 ∧ k = n2 + 1 - i ∧ St2 i h ∧ Fr h₀ L h m ∧ h.Ns C mC ∧ mC x = some v ∧ News h₀ L h ((D, lst ys) :: led) ∧ Acc i ys ∧ ys.length ≤ ys₀.length + i) ?_ (n2 + 1)
    ⟨h, tk, 0, ys₀, mC, rfl, Nat.zero_le _, rfl, st, F, hn, hv, N, a0, Nat.le_refl _⟩
  intro k s' hJ
  refine park2 k s' ?_; intro K hK
  obtain ⟨h1, tk1, i, ys, mC1, rfl, hi, rfl, st1, F1, hn1, hv1, N1, ha1, hl1⟩ := hJ
  refine hK _ _ ?_; clear hK K
  by_cases hlt : i < n2
  · refine W2.item i _ _ _ hlt st1 fun u h2 tk2 hPu st2 hk2 => ?_
    have F2 : Fr h₀ L h2 m := fr_but F1 hk2 (Ne.symm aI.l) aI.z
    have N2 : News h₀ L h2 ((D, lst ys) :: led) := news_but N1 hk2 (List.forall_mem_cons.mpr ⟨Ne.symm nID, aI.off⟩)
    have hn2 : h2.Ns C mC1 := hn1.at' fun o e => hk2 _ o (not_mem_one (Ne.symm nIC)) e
    refine wpAny_assign_Name (wpAny_storeName_local (lookup_relabel_local hy) hn2 (fun h3 hn3 hs3 => ?_) (comp_kind hkind))
    have keep3 : ∀ b, b ≠ C → ∀ o, h2.get? b = some o → h3.get? b = some o := fun b hb o e => hs3.extBut _ _ hb e
    have F3 : Fr h₀ L h3 m := F2.change hs3 aC.l aC.z
    have N3 : News h₀ L h3 ((D, lst ys) :: led) := fun p hp => ⟨keep3 _ (off_cons (Ne.symm nCD) aC.off p hp) _ (N2 p hp).1, (N2 p hp).2⟩
    have st3 : St2 (i + 1) h3 := W2.frame _ _ _ st2 fun b hb o e => keep3 b (by
      rcases hfp2 b hb with rfl | ⟨o, hm⟩ | ⟨o, e⟩
      · exact nIC
      · exact aC.off _ hm
      · intro q; rw [q, aC.z] at e; cases e) o e
    refine park0 ?_; intro K hK
    obtain ⟨oC, eC, hoC⟩ := ns_obj hn3
    obtain ⟨oI, eI⟩ := hIo _ _ st3
    refine hK ?_; clear hK K
    have N3' : News h₀ L h3 ((I2, oI) :: (C, oC) :: (D, lst ys) :: led) := news_put ⟨eI, aI.l, aI.z⟩ (news_put ⟨eC, aC.l, aC.z⟩ N3)
    refine wpAny_mono (elc i u oI oC _ ys h3 _ _ hlt hPu ha1 hoC ((if_neg hxy).trans hv1) (if_pos rfl) F3 N3') (fun r s4 hr => ?_) fun _ _ e => e
    refine park1 s4 ?_; intro K hK
    obtain ⟨h4, tk4, rfl, F4, N4, ha4⟩ := hr
    refine hK _ ?_; clear hK K
    have zD := (N4 (D, lst ys) (.tail _ (.tail _ (.head _)))).1
    have zC := (N4 (C, oC) (by simp)).1
    have zI := (N4 (I2, oI) (by simp)).1
    refine append_at (hsz := by show ys.toArray.size ≤ sizeLine; rw [List.size_toArray]; omega) zD fun h5 hs5 hD5 => ?_
    have keep5 : ∀ b, b ≠ D → ∀ o, h4.get? b = some o → h5.get? b = some o := fun b hb o e => hs5.extBut _ _ hb e
    have st5 : St2 (i + 1) h5 := W2.frame _ _ _ st3 fun b hb o e => keep5 b (by
      rcases hfp2 b hb with rfl | ⟨o, hm⟩ | ⟨o, e⟩
      · exact nID
      · exact aD.off _ hm
      · intro q; rw [q, aD.z] at e; cases e) o (by
      rcases hfp2 b hb with rfl | ⟨o', hm⟩ | ⟨o', e'⟩
      · rw [eI] at e; cases e; exact zI
      · have q3 := (N3 (b, o') (List.mem_cons_of_mem _ hm)).1
        have q4 := (N4 (b, o') (List.mem_cons_of_mem _ (List.mem_cons_of_mem _ (List.mem_cons_of_mem _ hm)))).1
        dsimp only at q3 q4
        rw [e] at q3; cases q3; exact q4
      · have q3 := F3.keep b o' e'
        rw [e] at q3; cases q3; exact F4.keep b _ e')
    refine ⟨n2 + 1 - (i + 1), by omega, h5, tk4, i + 1, ys ++ [r], _, rfl, hlt, rfl, st5, F4.change hs5 aD.l aD.z, (hoC.ns zC).sameBut hs5 nCD, ?_, fun p hp => ?_, ha4, by rw [List.length_append, List.length_singleton]; omega⟩
    · exact (if_neg hxy).trans hv1
    · rcases List.mem_cons.mp hp with rfl | hp
      · exact ⟨hD5.trans (congrArg some (lst_snoc ys r)), aD.l, aD.z⟩
      · exact ⟨keep5 _ (aD.off p hp) _ (N4 p (List.mem_cons_of_mem _ (List.mem_cons_of_mem _ (List.mem_cons_of_mem _ hp)))).1, (N4 p (List.mem_cons_of_mem _ (List.mem_cons_of_mem _ (List.mem_cons_of_mem _ hp)))).2⟩
  · have ei : i = n2 := Nat.le_antisymm hi (Nat.not_lt.mp hlt)
    rw [ei] at st1 ha1 hl1
    refine W2.done _ _ _ st1 fun h2 tk2 hk2 => ?_
    exact fin h2 tk2 ys mC1 (fr_but F1 hk2 (Ne.symm aI.l) aI.z) (hn1.at' fun o e => hk2 _ o (not_mem_one (Ne.symm nIC)) e) (news_but N1 hk2 (List.forall_mem_cons.mpr ⟨Ne.symm nID, aI.off⟩)) ha1 hl1
theorem start_in {elt iter iter2 : Expr} {x y : Str} {px py : Pos} {scope : Scope} {pos : Pos} {it acc : Value} {env : Env} {R : Result → Shared → Prop}
    (h0 : codeAny (model prog w) A (.compLoop (.ListComp elt [⟨.Name x px, iter, [], 0⟩, ⟨.Name y py, iter2, [], 0⟩] scope pos) 1 it acc env) R s)
    (h : wpAny (model prog w) A (pyIter it) (fun it' s' => codeAny (model prog w) A (.compLoop (.ListComp elt [⟨.Name x px, iter, [], 0⟩, ⟨.Name y py, iter2, [], 0⟩] scope pos) 1 it' acc env) R s')
      (notedBy (model prog w) A env fun x s' => R (.error x) s') s) :
    codeAny (model prog w) A (.compStart (.ListComp elt [⟨.Name x px, iter, [], 0⟩, ⟨.Name y py, iter2, [], 0⟩] scope pos) 1 it acc env) R s := by
  refine codeAny_of_tree ?_
  show wpAny _ _ ((compStart (.ListComp elt [⟨.Name x px, iter, [], 0⟩, ⟨.Name y py, iter2, [], 0⟩] scope pos) 1 it acc env).onRaise (fun x => do noteFrame x env; standAt theWindowsPlace)) _ _ s
  refine wpAny_notedAt ?_
  unfold compStart
  show wpAny _ _ (ask >>= _) _ _ s
  refine wpAny_bind (wpAny_askSetting (wpAny_ite ?_))
  split
  · first
      | exact wpAny_bind (wpAny_pure (wpAny_pure (And.intro rfl h0)))
      | exact wpAny_pure (And.intro rfl h0)
  · refine wpAny_bind (wpAny_rule ?_)
    show wpAny _ _ (standAt iter2.pos >>= _) _ _ s
    exact wpAny_bind (wpAny_standAt (wpAny_bind (wpAny_mono h (fun it' s' h' => wpAny_pure (And.intro rfl h')) fun _ _ x => x)))
noncomputable def InSrc (prog : Program) (w : World) (A : Around) (own : List (Addr × Obj)) (z : Value) (n2 : Nat) (P2 : Nat → Value → Prop) (h' : Heap) : Prop :=
  ∀ (s : Shared) (Q : Value → Shared → Prop) (E : Value → Shared → Prop), s.heap = h' →
    (∀ o fp2 St2, o.isFreed = false → Walks prog w A h'.objs.size fp2 [h'.objs.size] n2 P2 St2 → St2 0 (h'.push o) → (∀ b ∈ fp2, b = h'.objs.size ∨ ∃ o, (b, o) ∈ own) → (∀ i h, St2 i h → ∃ o, h.get? h'.objs.size = some o) →
      Q (.ref h'.objs.size) { s with heap := h'.push o }) → wpAny (model prog w) A (pyIter z) Q E s
theorem inSrc_str {t2 : Str} {tt : Tok} {h' : Heap} (hh : A.handled = none) : InSrc prog w A [] (.str t2 tt) t2.cps.size (SignAt t2) h' := by
  rintro s Q E rfl hq
  refine wpAny_pyIter_strU (hq _ _ (strSt s.heap.objs.size t2 tt) rfl (str_walks hh _ t2 tt) ⟨_, Heap.get?_push_size _ rfl, rfl, rfl⟩ (fun b hb => .inl (List.mem_singleton.mp hb)) fun i h st => ?_)
  obtain ⟨o, e, _⟩ := st
  exact ⟨o, e⟩
theorem inSrc_tup {T : Addr} {vs : List Value} {h' : Heap} {news : List (Addr × Obj)} (hh : A.handled = none) (N : News h₀ L h' news) (hm : (T, ({ cls := .type "tuple", data := .seq vs.toArray } : Obj)) ∈ news) :
    InSrc prog w A [(T, { cls := .type "tuple", data := .seq vs.toArray })] (.ref T) vs.toArray.size (fun j u => vs.toArray[j]? = some u) h' := by
  rintro s Q E rfl hq
  have hT : s.heap.IsTuple T vs.toArray := ⟨_, (N _ hm).1, rfl, _, rfl⟩
  have hlt : T < s.heap.objs.size := Heap.lt_size (N _ hm).1
  refine wpAny_pyIter_tuple hT (hq _ _ _ rfl (Walks.tuple hh s.heap.objs.size T (Nat.ne_of_lt hlt) vs.toArray) ⟨⟨_, Heap.get?_push_size _ rfl, rfl, rfl⟩, hT.push _⟩ (fun b hb => ?_) fun i h st => ?_)
  · rcases List.mem_cons.mp hb with rfl | hb
    · exact .inl rfl
    · rw [List.mem_singleton.mp hb]; exact .inr ⟨_, List.mem_singleton.mpr rfl⟩
  · obtain ⟨o, e, _⟩ := st.1
    exact ⟨o, e⟩
noncomputable def InPost (h₀ : Heap) (L : Addr) (m : Str → Option Value) (s : Shared) (led : List (Addr × Obj)) (K : Value → Prop) (r : Value) (s' : Shared) : Prop :=
  ∃ h' tk', s' = { s with heap := h', toks := tk' } ∧ Fr h₀ L h' m ∧ News h₀ L h' led ∧ K r
theorem InPost.imp {h₀ : Heap} {L : Addr} {m : Str → Option Value} {s s' : Shared} {led : List (Addr × Obj)} {K K' : Value → Prop} {r r' : Value} {hx hy : Heap} {tx ty : Nat} (f : K r → K' r') (p : InPost h₀ L m { s with heap := hx, toks := tx } led K r s') : InPost h₀ L m { s with heap := hy, toks := ty } led K' r' s' :=
  Exists.imp (fun _ q => Exists.imp (fun _ q => ⟨q.1, q.2.1, q.2.2.1, f q.2.2.2⟩) q) p
theorem InPost.toEnd {h₀ : Heap} {L I C D : Addr} {oI oC oD : Obj} {m : Str → Option Value} {s s' : Shared} {news : List (Addr × Obj)} {S : List (Addr × Obj) → Prop} {rest : Value → List (Addr × Obj) → Prop} {K : Value → Prop} {r r' : Value} (off : Off3 I C D news) (hS : S news) (f : K r → rest r' news)
    {hx : Heap} {tx : Nat} (p : InPost h₀ L m s ((I, oI) :: (C, oC) :: (D, oD) :: news) K r s') : CompEnd h₀ L m { s with heap := hx, toks := tx } I oI C oC D oD S rest r' s' :=
  Exists.imp (fun _ q => Exists.imp (fun _ q => ⟨news, q.1, q.2.1, q.2.2.1, off, hS, f q.2.2.2⟩) q) p
noncomputable def EltIn (prog : Program) (w : World) (A : Around) (h₀ : Heap) (L : Addr) (m : Str → Option Value) (env : Env) (elt : Expr) (x y : Str) (scope : Scope) (cl : List (Str × Addr)) (s : Shared) (v : Value) (C D : Addr) (led : List (Addr × Obj)) (n2 : Nat) (P2 : Nat → Value → Prop) (Acc2 : Nat → List Value → Prop) : Prop :=
  ∀ j u I2 oI oC m₂ ys h tk (E' : Value → Shared → Prop), j < n2 → P2 j u → Acc2 j ys → NsObj oC m₂ → m₂ x = some v → m₂ y = some u → Fr h₀ L h m → News h₀ L h ((I2, oI) :: (C, oC) :: (D, lst ys) :: led) →
      wpAny (model prog w) A (eval elt (compEnvC scope cl C env)) (InPost h₀ L m s ((I2, oI) :: (C, oC) :: (D, lst ys) :: led) (fun r => Acc2 (j + 1) (ys ++ [r]))) E' { s with heap := h, toks := tk }
noncomputable def OutPost (prog : Program) (w : World) (A : Around) (h₀ : Heap) (L : Addr) (m : Str → Option Value) (env : Env) (elt : Expr) (x y : Str) (scope : Scope) (cl : List (Str × Addr)) (s : Shared) (v : Value) (I : Addr) (oI : Obj) (C : Addr) (oC : Obj) (D : Addr) (ys : List Value) (news : List (Addr × Obj)) (K : List Value → Prop) (z : Value) (s' : Shared) : Prop :=
  ∃ h' tk' own n2 P2 Acc2, s' = { s with heap := h', toks := tk' } ∧ Fr h₀ L h' m ∧ News h₀ L h' (own ++ (I, oI) :: (C, oC) :: (D, lst ys) :: news) ∧
        (∀ p ∈ own, p.1 ≠ I ∧ p.1 ≠ C ∧ p.1 ≠ D) ∧ InSrc prog w A own z n2 P2 h' ∧ n2 ≤ 100000 ∧ Acc2 0 ys ∧ (∀ zs, Acc2 n2 zs → K zs) ∧
        EltIn prog w A h₀ L m env elt x y scope cl s v C D (own ++ (I, oI) :: news) n2 P2 Acc2
noncomputable def TurnOut (prog : Program) (w : World) (A : Around) (h₀ : Heap) (L : Addr) (m : Str → Option Value) (env : Env) (elt iter2 : Expr) (x y : Str) (scope : Scope) (cl : List (Str × Addr)) (s : Shared) (n : Nat) (P : Nat → Value → Prop) (Acc : Nat → List Value → Prop) (news : List (Addr × Obj)) : Prop :=
  ∀ i v I oI C oC D m₂ ys h tk (E' : Value → Shared → Prop), i < n → P i v → Acc i ys → NsObj oC m₂ → m₂ x = some v → Fr h₀ L h m → News h₀ L h ((I, oI) :: (C, oC) :: (D, lst ys) :: news) →
      ((@Ne Nat I C) ∧ (@Ne Nat I D) ∧ (@Ne Nat C D)) → (∀ p ∈ news, p.1 ≠ I ∧ p.1 ≠ C ∧ p.1 ≠ D) →
      wpAny (model prog w) A (eval iter2 (compEnvC scope cl C env)) (OutPost prog w A h₀ L m env elt x y scope cl s v I oI C oC D ys news (Acc (i + 1))) E' { s with heap := h, toks := tk }
theorem block_2 {elt iter iter2 : Expr} {x y : Str} {px py : Pos} {scope : Scope} {cl : List (Str × Addr)} {pos : Pos} {s₂ : Shared} {I : Addr} {fp : List Addr} {n : Nat} {P : Nat → Value → Prop} {St : Nat → Heap → Prop} {news : List (Addr × Obj)}
    {E : Value → Shared → Prop} {RR : Value → Addr → Result → Shared → Prop} (Acc : Nat → List Value → Prop) (a0 : Acc 0 []) (hlen : ∀ i ys, i ≤ n → Acc i ys → ys.length ≤ 100000)
    (W : Walks prog w A I fp [I] n P St) (hIo : ∀ i h, St i h → ∃ o, h.get? I = some o) (hfp : ∀ b ∈ fp, b = I ∨ (∃ o, (b, o) ∈ news) ∨ ∃ o, h₀.get? b = some o)
    (hcell : ∀ y ∈ scope.names, y.2 ≠ .cell) (hkind : scope.kind = .function) (hx : scope.names.lookup x = some .local) (hy : scope.names.lookup y = some .local) (hxy : x ≠ y) (hst : St 0 s₂.heap)
    (F : Fr h₀ L s₂.heap m) (N : News h₀ L s₂.heap news) (hIL : I ≠ L) (hI₀ : h₀.get? I = none) (off : ∀ p ∈ news, p.1 ≠ I)
    (hf : ∀ C z, foldedSetIterable iter2 (compEnvC scope cl C env) z = pure z)
    (T : TurnOut prog w A h₀ L m env elt iter2 x y scope cl s₂ n P Acc news)
    (hRR : ∀ D C h tk m' ys, Fr h₀ L h m → News h₀ L h ((D, lst ys) :: news) → (∀ p ∈ news, p.1 ≠ D) → h.Ns C m' → h₀.get? C = none → h₀.get? D = none → C ≠ L → D ≠ L → C ≠ D → (∀ p ∈ news, p.1 ≠ C) → Acc n ys → RR (.ref D) C (.ok .next) { s₂ with heap := h, toks := tk }) :
    wpAny (model prog w) A (newList []) (fun acc s₃ => wpAny (model prog w) A (newFunctionEnv scope env.globals cl [] env.qual none .none (some env)) (fun cenv s₄ =>
      codeAny (model prog w) A (.compStart (.ListComp elt [⟨.Name x px, iter, [], 0⟩, ⟨.Name y py, iter2, [], 0⟩] scope pos) 0 (.ref I) acc { cenv with scope := relabel scope env }) (RR acc cenv.locals) s₄) E s₃) E s₂ := by
  have hIlt : I < s₂.heap.objs.size := by
    obtain ⟨oI0, eI0⟩ := hIo _ _ hst
    exact Heap.lt_size eI0
  refine wpAny_newObj_type (wpAny_newFunctionEnv hcell (by intro y hy; simp at hy) (fun h₁ hns₁ hsb₁ => ?_) hkind)
  dsimp only at hns₁ hsb₁ ⊢
  generalize hH2 : s₂.heap.push { cls := .type "list", dict := none, data := .seq ([] : List Value).toArray } = H2 at hns₁ hsb₁ ⊢
  have hC : H2.objs.size = s₂.heap.objs.size + 1 := by rw [← hH2, Heap.size_push]
  generalize hDe : s₂.heap.objs.size = D at hC hIlt ⊢
  generalize hCe : H2.objs.size = C at hC hns₁ hsb₁ ⊢
  have old : ∀ b o, s₂.heap.get? b = some o → h₁.get? b = some o := fun b o e => hsb₁.extBut b o (by
    have := Heap.lt_size e
    intro q
    have q' : b = C := q
    rw [q', hC, ← hDe] at this
    exact absurd (Nat.lt_trans (Nat.lt_succ_self _) this) (Nat.lt_irrefl _)) (Heap.get?_push_of_some _ (hH2 ▸ Heap.get?_push_of_some _ e))
  have hDC : D ≠ C := by rw [hC]; exact Nat.ne_of_lt (Nat.lt_succ_self _)
  have hacc : h₁.get? D = some (lst []) := hsb₁.extBut _ _ hDC (Heap.get?_push_of_some _ (by rw [← hH2, ← hDe]; exact Heap.get?_push_size _ rfl))
  have fresh₀ : ∀ a : Addr, D ≤ a → h₀.get? a = none := fun a ha => by
    cases e : h₀.get? a with
    | none => rfl
    | some o' =>
      have := Heap.lt_size (F.keep a o' e)
      rw [hDe] at this
      exact absurd (Nat.lt_of_lt_of_le this ha) (Nat.lt_irrefl _)
  have hLlt : L < D := hDe ▸ F.ns.lt
  have ltD : ∀ p ∈ news, p.1 < D := fun p hp => hDe ▸ Heap.lt_size (N p hp).1
  have aD : Apart h₀ L news D := ⟨Nat.ne_of_gt hLlt, fresh₀ D (Nat.le_refl _), fun p hp => Nat.ne_of_lt (ltD p hp)⟩
  have aC : Apart h₀ L news C := ⟨by rw [hC]; exact Nat.ne_of_gt (Nat.lt_succ_of_lt hLlt), fresh₀ C (by rw [hC]; exact Nat.le_succ _), fun p hp => by rw [hC]; exact Nat.ne_of_lt (Nat.lt_succ_of_lt (ltD p hp))⟩
  have nIC : I ≠ C := by rw [hC]; exact Nat.ne_of_lt (Nat.lt_succ_of_lt hIlt)
  have nID : I ≠ D := Nat.ne_of_lt hIlt
  have st1 : St 0 h₁ := W.frame _ _ _ hst fun b _ o e => old b o e
  have loop : ∀ s₃ : Shared, s₃ = { s₂ with heap := h₁, toks := s₂.toks + ([] : List (Str × Value)).length } →
      codeAny (model prog w) A (.compLoop (.ListComp elt [⟨.Name x px, iter, [], 0⟩, ⟨.Name y py, iter2, [], 0⟩] scope pos) 0 (.ref I) (.ref D) (compEnvC scope cl C env)) (RR (.ref D) C) s₃ := by
    rintro s₃ rfl
    refine loop_out (fun k s' => ∃ h tk i ys mC, s' = { s₂ with heap := h, toks := tk } ∧ i ≤ n ∧ k = n + 1 - i ∧ St i h ∧ Fr h₀ L h m ∧ h.Ns C mC ∧ News h₀ L h ((D, lst ys) :: news) ∧ Acc i ys) ?_ (n + 1)
      ⟨h₁, _, 0, [], _, rfl, Nat.zero_le _, rfl, st1, F.keeps old, hns₁, fun p hp => ?_, a0⟩ (hf C)
    · intro k s' hJ
      refine park2 k s' ?_; intro K hK
      obtain ⟨h1, tk1, i, ys, mC1, rfl, hi, rfl, st1, F1, hn1, N1, ha1⟩ := hJ
      refine hK _ _ ?_; clear hK K
      by_cases hlt : i < n
      · refine W.item i _ _ _ hlt st1 fun v h2 tk2 hPv st2 hk2 => ?_
        have F2 : Fr h₀ L h2 m := fr_but F1 hk2 (Ne.symm hIL) hI₀
        have N2 : News h₀ L h2 ((D, lst ys) :: news) := news_but N1 hk2 (List.forall_mem_cons.mpr ⟨Ne.symm nID, off⟩)
        have hn2 : h2.Ns C mC1 := hn1.at' fun o e => hk2 _ o (not_mem_one (Ne.symm nIC)) e
        refine wpAny_assign_Name (wpAny_storeName_local (lookup_relabel_local hx) hn2 (fun h3 hn3 hs3 => ?_) (comp_kind hkind))
        have keep3 : ∀ b, b ≠ C → ∀ o, h2.get? b = some o → h3.get? b = some o := fun b hb o e => hs3.extBut _ _ hb e
        have F3 : Fr h₀ L h3 m := F2.change hs3 aC.l aC.z
        have N3 : News h₀ L h3 ((D, lst ys) :: news) := fun p hp => ⟨keep3 _ (off_cons hDC aC.off p hp) _ (N2 p hp).1, (N2 p hp).2⟩
        have st3 : St (i + 1) h3 := W.frame _ _ _ st2 fun b hb o e => keep3 b (by
          rcases hfp b hb with rfl | ⟨o, hm⟩ | ⟨o, e⟩
          · exact nIC
          · exact aC.off _ hm
          · intro q; rw [q, aC.z] at e; cases e) o e
        refine park0 ?_; intro K hK
        obtain ⟨oC, eC, hoC⟩ := ns_obj hn3
        obtain ⟨oI, eI⟩ := hIo _ _ st3
        refine hK ?_; clear hK K
        have N3' : News h₀ L h3 ((I, oI) :: (C, oC) :: (D, lst ys) :: news) := news_put ⟨eI, hIL, hI₀⟩ (news_put ⟨eC, aC.l, aC.z⟩ N3)
        refine wpAny_mono (T i v I oI C oC D _ ys h3 _ _ hlt hPv ha1 hoC (if_pos rfl) F3 N3' ⟨nIC, nID, Ne.symm hDC⟩ fun p hp => ⟨off p hp, aC.off p hp, aD.off p hp⟩) (fun z s4 hz => ?_) fun _ _ e => e
        refine park2 z s4 ?_; intro K hK
        obtain ⟨h4, tk4, own, n2, P2, Acc2, rfl, F4, N4, hown, hsrc, hn2', ha2, hfin, helt⟩ := hz
        refine hK _ _ ?_; clear hK K
        refine hsrc _ _ _ rfl fun o5 fp2 St2 hfree W2 st5 hfp2 hIo2 => ?_
        generalize hI2 : h4.objs.size = I2 at *
        have up : ∀ b o, h4.get? b = some o → (h4.push o5).get? b = some o := fun b o e => Heap.get?_push_of_some _ e
        have zC := (N4 (C, oC) (List.mem_append_right _ (.tail _ (.head _)))).1
        have zI := (N4 (I, oI) (List.mem_append_right _ (.head _))).1
        have N5 : News h₀ L (h4.push o5) ((D, lst ys) :: (own ++ (I, oI) :: news)) := fun p hp => by
          have hp' : p ∈ own ++ (I, oI) :: (C, oC) :: (D, lst ys) :: news := by
            simp only [List.mem_cons, List.mem_append] at hp ⊢
            rcases hp with hp | hp | hp | hp
            · exact .inr (.inr (.inr (.inl hp)))
            · exact .inl hp
            · exact .inr (.inl hp)
            · exact .inr (.inr (.inr (.inr hp)))
          exact ⟨up _ _ (N4 p hp').1, (N4 p hp').2⟩
        have lt4 : ∀ p ∈ own ++ (I, oI) :: (C, oC) :: (D, lst ys) :: news, p.1 < I2 := fun p hp => hI2 ▸ Heap.lt_size (N4 p hp).1
        have F5 : Fr h₀ L (h4.push o5) m := F4.keeps up
        have memled : ∀ p ∈ own ++ (I, oI) :: news, p ∈ own ++ (I, oI) :: (C, oC) :: (D, lst ys) :: news := fun p hp => by
          simp only [List.mem_cons, List.mem_append] at hp ⊢
          rcases hp with hp | hp | hp
          · exact .inl hp
          · exact .inr (.inl hp)
          · exact .inr (.inr (.inr (.inr hp)))
        have aI2 : Apart h₀ L (own ++ (I, oI) :: news) I2 := ⟨by rw [← hI2]; exact Nat.ne_of_gt F4.ns.lt, by rw [← hI2]; exact next_is_new F4, fun p hp => Nat.ne_of_lt (lt4 p (memled p hp))⟩
        have aC2 : Apart h₀ L (own ++ (I, oI) :: news) C := ⟨aC.l, aC.z, fun p hp => by
          simp only [List.mem_cons, List.mem_append] at hp
          rcases hp with hp | rfl | hp
          · exact (hown p hp).2.1
          · exact nIC
          · exact aC.off p hp⟩
        have aD2 : Apart h₀ L (own ++ (I, oI) :: news) D := ⟨aD.l, aD.z, fun p hp => by
          simp only [List.mem_cons, List.mem_append] at hp
          rcases hp with hp | rfl | hp
          · exact (hown p hp).2.2
          · exact nID
          · exact aD.off p hp⟩
        have nI2C : I2 ≠ C := Ne.symm (Nat.ne_of_lt (lt4 (C, oC) (List.mem_append_right _ (.tail _ (.head _)))))
        have nI2D : I2 ≠ D := Ne.symm (Nat.ne_of_lt (lt4 (D, lst ys) (List.mem_append_right _ (.tail _ (.tail _ (.head _))))))
        have run := inner_run (s := s₂) (R := fun r s₅ => match r with | .ok _ => ∃ k', k' < n + 1 - i ∧ ∃ h tk i ys mC, s₅ = { s₂ with heap := h, toks := tk } ∧ i ≤ n ∧ k' = n + 1 - i ∧ St i h ∧ Fr h₀ L h m ∧ h.Ns C mC ∧ News h₀ L h ((D, lst ys) :: news) ∧ Acc i ys | .error _ => False)
          (elt := elt) (iter := iter) (iter2 := iter2) (px := px) (py := py) (pos := pos) (env := env) (cl := cl) (tk := tk4) W2 (led := own ++ (I, oI) :: news) (fun b hb => by
            rcases hfp2 b hb with h | ⟨o, ho⟩
            · exact .inl h
            · exact .inr (.inl ⟨o, List.mem_append_left _ ho⟩)) hIo2 hkind hy hxy aI2 aC2 aD2 nI2C nI2D (Ne.symm hDC) Acc2 ha2
          (by have := hlen i ys hi ha1; rw [sizeLine_eq]; omega) (fun j u oI2 oC2 m₂ ys h tk E' hj hP hA ho hx' hy' F N => helt j u I2 oI2 oC2 m₂ ys h tk E' hj hP hA ho hx' hy' F N)
          st5 F5 ((hoC.ns zC).at' fun o e => up _ _ e) (if_pos rfl) N5 ?_
        · exact start_in run (W2.self 0 _ _ _ st5 run)
        · intro h6 tk6 ys6 mC6 F6 hn6 N6 ha6 _
          refine ⟨n + 1 - (i + 1), by omega, h6, tk6, i + 1, ys6, mC6, rfl, hlt, rfl, ?_, F6, hn6, fun p hp => N6 p (by
            simp only [List.mem_cons, List.mem_append] at hp ⊢
            rcases hp with hp | hp
            · exact .inl hp
            · exact .inr (.inr (.inr hp))), hfin _ ha6⟩
          refine W.frame _ _ _ st3 fun b hb o e => ?_
          rcases hfp b hb with rfl | ⟨o', hm⟩ | ⟨o', e'⟩
          · rw [eI] at e; cases e; exact (N6 (_, oI) (by simp)).1
          · have q3 := (N3 (b, o') (List.mem_cons_of_mem _ hm)).1
            have q4 := (N6 (b, o') (by simp [hm])).1
            dsimp only at q3 q4
            rw [e] at q3; cases q3; exact q4
          · have q3 := F3.keep b o' e'
            rw [e] at q3; cases q3; exact F6.keep b _ e'
      · have ei : i = n := Nat.le_antisymm hi (Nat.not_lt.mp hlt)
        rw [ei] at st1 ha1
        refine W.done _ _ _ st1 fun h2 tk2 hk2 => ?_
        exact hRR D C h2 tk2 mC1 ys (fr_but F1 hk2 (Ne.symm hIL) hI₀) (news_but N1 hk2 (List.forall_mem_cons.mpr ⟨Ne.symm nID, off⟩)) aD.off (hn1.at' fun o e => hk2 _ o (not_mem_one (Ne.symm nIC)) e) aC.z aD.z aC.l aD.l (Ne.symm hDC) aC.off ha1
    · rcases List.mem_cons.mp hp with rfl | hp
      · exact ⟨hacc, aD.l, aD.z⟩
      · exact ⟨old _ _ (N p hp).1, (N p hp).2⟩
  exact codeAny_compStart_list (loop _ rfl) (W.self 0 _ _ _ st1 (loop _ rfl))
noncomputable def Src2 (prog : Program) (w : World) (A : Around) (h₀ : Heap) (L : Addr) (m : Str → Option Value) (env : Env) (elt iter2 : Expr) (x y : Str) (scope : Scope) (cl : List (Str × Addr)) (Q : Value → Shared → Prop) (xv : Value) (s₁ : Shared) : Prop :=
  ∃ news own n P, ∃ Acc : Nat → List Value → Prop, A.handled = none ∧ Fr h₀ L s₁.heap m ∧ News h₀ L s₁.heap news ∧ InSrc prog w A own xv n P s₁.heap ∧ (∀ p ∈ own, p ∈ news) ∧ Acc 0 [] ∧ (∀ i ys, i ≤ n → Acc i ys → ys.length ≤ 100000) ∧
    (∀ s₂ : Shared, (∃ h, s₂ = { s₁ with heap := h }) → TurnOut prog w A h₀ L m env elt iter2 x y scope cl s₂ n P Acc news) ∧
    (∀ ys D h tk, Acc n ys → Fr h₀ L h m → News h₀ L h ((D, lst ys) :: news) → (∀ p ∈ news, p.1 ≠ D) → Q (.ref D) { s₁ with heap := h, toks := tk })
theorem ListComp_two {E : Value → Shared → Prop} {elt iter iter2 : Expr} {x y : Str} {px py : Pos} {scope : Scope} {cl : List (Str × Addr)} {pos : Pos} {Q : Value → Shared → Prop} (F₀ : Fr h₀ L s.heap m)
    (hclos : closureFor scope env = pure cl) (hcell : ∀ y ∈ scope.names, y.2 ≠ .cell) (hkind : scope.kind = .function)
    (hnames : ∀ y ∈ scope.names, y.2 = .local → scope.names.lookup y.1 = some .local) (hx : scope.names.lookup x = some .local) (hy : scope.names.lookup y = some .local) (hxy : x ≠ y)
    (hf : ∀ C z, foldedSetIterable iter2 (compEnvC scope cl C env) z = pure z)
    (h : wpAny (model prog w) A (eval iter env) (Src2 prog w A h₀ L m env elt iter2 x y scope cl Q) E s)
    (hs : ∀ x, foldedSetIterable iter env x = pure x := by intro _; rfl) :
    wpAny (model prog w) A (eval (.ListComp elt [⟨.Name x px, iter, [], 0⟩, ⟨.Name y py, iter2, [], 0⟩] scope pos) env) Q E s := by
  rw [eval_ListComp]
  refine wpAny_comprehension_free (use := none) rfl hs hclos hkind hnames (wpAny_mono h (fun xv s₁ h₁ => ?_) fun _ _ e => e)
  refine park2 xv s₁ ?_; intro K hK
  obtain ⟨news, own, n, P, Acc, hh, F, N, hsrc, hown, a0, hlen, T, fin⟩ := h₁
  refine hK _ _ ?_; clear hK K
  refine hsrc _ _ _ rfl fun o fp St hfree W st hfp hIo => ?_
  have up : ∀ b x, s₁.heap.get? b = some x → (s₁.heap.push o).get? b = some x := fun b x e => Heap.get?_push_of_some _ e
  refine block_2 (s₂ := { s₁ with heap := s₁.heap.push o }) Acc a0 hlen W hIo (fun b hb => ?_) hcell hkind hx hy hxy st (F.keeps up) (N.grown up) (Nat.ne_of_gt F.ns.lt) (next_is_new F) (fun p hp => Nat.ne_of_lt (Heap.lt_size (N p hp).1)) hf (T _ ⟨_, rfl⟩) ?_
  · rcases hfp b hb with h | ⟨o', ho⟩
    · exact .inl h
    · exact .inr (.inl ⟨o', hown _ ho⟩)
  · intro D C h tk m' ys F' N' oD hn hC₀ hD₀ hCL hDL hCD offC ha
    refine ⟨m', hn, fun h'' hs'' => fin ys D h'' tk ha (F'.change hs'' hCL hC₀) (fun p hp => ?_) oD⟩
    exact ⟨hs''.extBut _ _ (off_cons (Ne.symm hCD) offC p hp) (N' p hp).1, (N' p hp).2⟩
theorem inSrc_list {T : Addr} {vs : List Value} {k : Nat} {h' : Heap} {news : List (Addr × Obj)} (hh : A.handled = none) (N : News h₀ L h' news) (hm : (T, ({ cls := .type "list", data := .seq vs.toArray k } : Obj)) ∈ news) :
    InSrc prog w A [(T, { cls := .type "list", data := .seq vs.toArray k })] (.ref T) vs.toArray.size (fun j u => vs.toArray[j]? = some u) h' := by
  rintro s Q E rfl hq
  have hT : s.heap.IsList T vs.toArray := ⟨_, (N _ hm).1, rfl, _, rfl⟩
  have hlt : T < s.heap.objs.size := Heap.lt_size (N _ hm).1
  refine wpAny_pyIter_list hT (hq _ _ _ rfl (Walks.list hh s.heap.objs.size T (Nat.ne_of_lt hlt) vs.toArray) ⟨⟨_, Heap.get?_push_size _ rfl, rfl, rfl⟩, hT.push _⟩ (fun b hb => ?_) fun i h st => ?_)
  · rcases List.mem_cons.mp hb with rfl | hb
    · exact .inl rfl
    · rw [List.mem_singleton.mp hb]; exact .inr ⟨_, List.mem_singleton.mpr rfl⟩
  · obtain ⟨o, e, _⟩ := st.1
    exact ⟨o, e⟩
theorem strsAre_snoc {y : Str} {t : Tok} : ∀ {vs : List Value} {ys : List Str}, StrsAre vs ys → StrsAre (vs ++ [.str y t]) (ys ++ [y])
  | _, _, .nil => .cons y t .nil
  | _, _, .cons z u r => .cons z u (strsAre_snoc r)
theorem comp_name {E : Value → Shared → Prop} {y : Str} {pos : Pos} {scope : Scope} {cl : List (Str × Addr)} {C : Addr} {oC : Obj} {m₂ : Str → Option Value} {u : Value} {news : List (Addr × Obj)} {Q : Value → Shared → Prop}
    (hk : scope.kind = .function) (hy : scope.names.lookup y = some .local) (hd : (y == ("__debug__" : Str)) = false) (hC : NsObj oC m₂) (hu : m₂ y = some u) (N : News h₀ L s.heap news) (hm : (C, oC) ∈ news) (h : Q u s) :
    wpAny (model prog w) A (eval (.Name y pos) (compEnvC scope cl C env)) Q E s :=
  wpAny_Name (wpAny_loadName_local hk (lookup_relabel_local hy) (hC.ns (N _ hm).1) hu h) hd
theorem outPost_two {a b : Str} {ta tb : Tok} {x y : Str} {pos : Pos} {scope : Scope} {cl : List (Str × Addr)} {v : Value} {I C D T : Addr} {oI oC : Obj} {ys : List Value} {news : List (Addr × Obj)} {K : List Value → Prop} {h' : Heap} {tk' : Nat} {l : List Str}
    (hh : A.handled = none) (hk : scope.kind = .function) (hy : scope.names.lookup y = some .local) (hd : (y == ("__debug__" : Str)) = false)
    (F : Fr h₀ L h' m) (N : News h₀ L h' ((T, { cls := .type "tuple", data := .seq [.str a ta, .str b tb].toArray }) :: (I, oI) :: (C, oC) :: (D, lst ys) :: news)) (lt : I < T ∧ C < T ∧ D < T)
    (ha : StrsAre ys l) (hK : ∀ zs, StrsAre zs (l ++ [a, b]) → K zs) :
    OutPost prog w A h₀ L m env (.Name y pos) x y scope cl s v I oI C oC D ys news K (.ref T) { s with heap := h', toks := tk' } := by
  refine ⟨h', tk', [(T, { cls := .type "tuple", data := .seq [.str a ta, .str b tb].toArray })], 2, fun j u => [Value.str a ta, .str b tb].toArray[j]? = some u, fun j zs => StrsAre zs (l ++ [a, b].take j), rfl, F, N, ?_, inSrc_tup hh N (List.mem_cons_self ..), by omega, by simpa using ha, fun zs hz => hK zs hz, ?_⟩
  · intro p hp
    rw [List.mem_singleton.mp hp]
    exact ⟨Nat.ne_of_gt lt.1, Nat.ne_of_gt lt.2.1, Nat.ne_of_gt lt.2.2⟩
  · intro j u I2 oI2 oC2 m₂ ys2 h tk E' hj hP hA hC hx hu F2 N2
    refine comp_name hk hy hd hC hu N2 (List.mem_cons_of_mem _ (List.mem_cons_self ..)) ⟨h, tk, rfl, F2, N2, ?_⟩
    have hj2 : j = 0 ∨ j = 1 := by omega
    rcases hj2 with rfl | rfl
    · have e : u = .str a ta := (Option.some.inj hP).symm
      subst e
      have := strsAre_snoc (y := a) (t := ta) hA
      simpa using this
    · have e : u = .str b tb := (Option.some.inj hP).symm
      subst e
      have := strsAre_snoc (y := b) (t := tb) hA
      simpa using this
end
end Mine
end
section
open PySem PySem.W PySem.Calls PyProof.Rows PySem.Spec PyProof.Rows.LCg
set_option Elab.async false
set_option maxRecDepth 100000
set_option maxHeartbeats 4000000
namespace Mine
section
variable {prog : Program} {w : World} {A : Around} {E : Value → Shared → Prop} {s : Shared} {h₀ : Heap} {env : Env} {x : Str} {body : List Stmt} {Q : Flow → Shared → Prop}
noncomputable def TurnEnd (h₀ : Heap) (L : Addr) (s₁ : Shared) (I : Addr) (oI : Obj) (K : (Str → Option Value) → List (Addr × Obj) → Prop) (s₂ : Shared) : Prop :=
  ∃ h' tk m' news', s₂ = { s₁ with heap := h', toks := tk } ∧ Fr h₀ L h' m' ∧ News h₀ L h' ((I, oI) :: news') ∧ (∀ p ∈ news', p.1 ≠ I) ∧ K m' news'
noncomputable def TurnPost (h₀ : Heap) (L : Addr) (s₁ : Shared) (I : Addr) (oI : Obj) (K : (Str → Option Value) → List (Addr × Obj) → Prop) (Q : Flow → Shared → Prop) (f : Flow) (s₂ : Shared) : Prop :=
  match f with
  | .ret v => Q (.ret v) s₂
  | .brk => Q .next s₂
  | _ => TurnEnd h₀ L s₁ I oI K s₂
theorem iter_J {z : Value} {own : List (Addr × Obj)} {n : Nat} {P : Nat → Value → Prop} {m₀ : Str → Option Value} {news : List (Addr × Obj)} (J : Nat → (Str → Option Value) → List (Addr × Obj) → Prop)
    (hsrc : InSrc prog w A own z n P s.heap) (F : Fr h₀ env.locals s.heap m₀) (N : News h₀ env.locals s.heap news) (hown : ∀ p ∈ own, p ∈ news) (hj : J 0 m₀ news)
    (turn : ∀ i v m₁ news₁ h tk I oI, i < n → P i v → J i m₁ news₁ → (∀ p ∈ own, p ∈ news₁) → (∀ p ∈ news₁, p.1 ≠ I) → Fr h₀ env.locals h (fun y => if y = x then some v else m₁ y) → News h₀ env.locals h ((I, oI) :: news₁) →
      wpAny (model prog w) A (execs body env) (TurnPost h₀ env.locals { s with heap := h, toks := tk } I oI (fun m' n' => J (i + 1) m' n' ∧ ∀ p ∈ own, p ∈ n') Q) E { s with heap := h, toks := tk })
    (done : ∀ m₁ news₁ h tk, J n m₁ news₁ → Fr h₀ env.locals h m₁ → News h₀ env.locals h news₁ → Q .next { s with heap := h, toks := tk }) :
    wpAny (model prog w) A (pyIter z) (fun it s₂ => LoopAtV prog w A h₀ env x body Q E it s₂) E s := by
  refine hsrc _ _ _ rfl fun o fp St hfree W st hfp hIo => ?_
  have up : ∀ b x, s.heap.get? b = some x → (s.heap.push o).get? b = some x := fun b x e => Heap.get?_push_of_some _ e
  have hIL : s.heap.objs.size ≠ env.locals := Nat.ne_of_gt F.ns.lt
  have hI₀ : h₀.get? s.heap.objs.size = none := next_is_new F
  refine ⟨s.heap.objs.size, fp, [s.heap.objs.size], n, P, St, m₀, news, fun i m led => J i m led ∧ ∀ p ∈ own, p ∈ led, rfl, W, ?_, ?_, ?_, st, F.keeps up, N.grown up, ⟨hj, hown⟩, ?_, ?_⟩
  · intro hm
    rcases hfp _ hm with h | ⟨o', ho⟩
    · exact hIL h.symm
    · exact (N _ (hown _ ho)).2.1 rfl
  · intro b hb; rw [List.mem_singleton.mp hb]; exact hI₀
  · intro p hp hm
    rw [List.mem_singleton] at hm
    exact Nat.ne_of_lt (Heap.lt_size (N p hp).1) hm
  · rintro i v m₁ news₁ s₁ own' ⟨h, tk, rfl⟩ hi hP ⟨hJ, hk⟩ hoff ho1 ho2 ho3 st₁ F₁ N₁
    refine park0 ?_; intro K hK
    obtain ⟨oI, eI⟩ := hIo _ _ st₁
    refine hK ?_; clear hK K
    have hoff' : ∀ p ∈ news₁, p.1 ≠ s.heap.objs.size := fun p hp q => hoff p hp (List.mem_singleton.mpr q)
    have N₂ : News h₀ env.locals h ((s.heap.objs.size, oI) :: news₁) := news_put ⟨eI, hIL, hI₀⟩ fun p hp => N₁ p (List.mem_append_right _ hp)
    refine wpAny_mono (turn i v m₁ news₁ h tk s.heap.objs.size oI hi hP hJ hk hoff' F₁ N₂) (fun f s₂ p => ?_) fun _ _ e => e
    have fin : TurnEnd h₀ env.locals { s with heap := h, toks := tk } s.heap.objs.size oI (fun m' n' => J (i + 1) m' n' ∧ ∀ p ∈ own, p ∈ n') s₂ →
        LoopStepU h₀ env.locals [s.heap.objs.size] own' (fun m led => J (i + 1) m led ∧ ∀ p ∈ own, p ∈ led) { s with heap := h, toks := tk } .next s₂ := by
      rintro ⟨h', tk', m', news', e, F', N', hf, hJ', hk'⟩
      refine ⟨rfl, h', tk', m', news', e, F', fun p hp => ?_, fun p hp hq => hf p hp (List.mem_singleton.mp hq), hJ', hk'⟩
      rcases List.mem_append.mp hp with hp | hp
      · have g1 := ho2 p hp
        dsimp only at g1
        rcases hfp _ (ho1 p hp) with q | ⟨o', ho'⟩
        · have e2 : p = (s.heap.objs.size, oI) := by
            rw [q, eI] at g1
            exact Prod.ext q (Option.some.inj g1).symm
          rw [e2]; exact N' _ (List.mem_cons_self ..)
        · have g2 := (N₂ (p.1, o') (List.mem_cons_of_mem _ (hk _ ho'))).1
          dsimp only at g2
          rw [g1] at g2
          have e2 : p = (p.1, o') := Prod.ext rfl (Option.some.inj g2)
          rw [e2]; exact N' _ (List.mem_cons_of_mem _ (hk' _ ho'))
      · exact N' p (List.mem_cons_of_mem _ hp)
    cases f with
    | ret v => exact .ret p
    | brk => exact .brk p
    | next => exact .next (fin p)
    | cont => exact .cont (fin p)
  · rintro h' tk m' news' F' N' _ ⟨hJ, _⟩
    exact done m' news' h' tk hJ F' N'
theorem for_hold {px pos : Pos} {iter : Expr} {m : Str → Option Value} (_F : Fr h₀ env.locals s.heap m) (hx : env.kindOf x = some .local)
    (hp : (env.scope.kind == .class || (env.scope.kind == .module && env.locals != env.globals)) = false)
    (h : wpAny (model prog w) A (eval iter env) (fun xv s₁ => wpAny (model prog w) A (pyIter xv) (fun it s₂ => LoopAtV prog w A h₀ env x body Q E it s₂) E s₁) E s)
    (hs : ∀ x, foldedSetIterable iter env x = pure x) (hE : PassesOwn (model prog w) A env E) :
    wpAny (model prog w) A (exec (.For (.Name x px) iter body [] pos) env) Q E s := For_invV h₀ hx hp h hs hE
noncomputable def StEnd {σ : Type} (h₀ : Heap) (L : Addr) (s₁ : Shared) (I : Addr) (oI : Obj) (own : List (Addr × Obj)) (Led : σ → List (Addr × Obj)) (ps : σ → List (Str × Value)) (stored : List Str) (m₀ : Str → Option Value) (K : σ → Prop) (s₂ : Shared) : Prop :=
  ∃ (c : σ) (h' : Heap) (tk : Nat) (m' : Str → Option Value) (all : List (Addr × Obj)), s₂ = { s₁ with heap := h', toks := tk } ∧ Fr h₀ L h' m' ∧ News h₀ L h' all ∧ (I, oI) ∈ all ∧ (∀ p ∈ Led c, p ∈ all) ∧ (∀ p ∈ Led c, p.1 ≠ I) ∧ (∀ p ∈ own, p ∈ Led c) ∧ K c ∧
    (∀ p ∈ ps c, m' p.1 = some p.2) ∧ ∀ z, (∀ p ∈ ps c, z ≠ p.1) → stored.contains z = false → m' z = m₀ z
noncomputable def StPost {σ : Type} (h₀ : Heap) (L : Addr) (s₁ : Shared) (I : Addr) (oI : Obj) (own : List (Addr × Obj)) (Led : σ → List (Addr × Obj)) (ps : σ → List (Str × Value)) (stored : List Str) (m₀ : Str → Option Value) (K : σ → Prop) (Q : Flow → Shared → Prop) (f : Flow) (s₂ : Shared) : Prop :=
  match f with
  | .ret v => Q (.ret v) s₂
  | .brk => Q .next s₂
  | _ => StEnd h₀ L s₁ I oI own Led ps stored m₀ K s₂
theorem kst_self {stored : List Str} {m₁ m₀ : Str → Option Value} {ps : List (Str × Value)} (h1 : ∀ p ∈ ps, m₁ p.1 = some p.2) (h2 : ∀ z, (∀ p ∈ ps, z ≠ p.1) → stored.contains z = false → m₁ z = m₀ z) : m₁ = kstB (fun z => if stored.contains z then m₁ z else m₀ z) ps := by
  funext y
  refine (kstB_eq h1 fun hn => ?_).symm
  show (if stored.contains y = true then m₁ y else m₀ y) = m₁ y
  cases h3 : stored.contains y with
  | true => exact if_pos rfl
  | false => exact (if_neg (fun h => Bool.noConfusion h)).trans (h2 y hn h3).symm
theorem iter_S {σ : Type} {z : Value} {own : List (Addr × Obj)} {n : Nat} {P : Nat → Value → Prop} {m₀ : Str → Option Value} (Led : σ → List (Addr × Obj)) (ps : σ → List (Str × Value)) (stored : List Str) (K : Nat → σ → Prop) (c₀ : σ)
    (hsrc : InSrc prog w A own z n P s.heap) (F : Fr h₀ env.locals s.heap m₀) (N : News h₀ env.locals s.heap (Led c₀)) (hown : ∀ p ∈ own, p ∈ Led c₀) (hk : K 0 c₀) (hps : ∀ p ∈ ps c₀, m₀ p.1 = some p.2)
    (turn : ∀ i v c (u : Str → Option Value) h tk I oI, i < n → P i v → K i c → (∀ p ∈ own, p ∈ Led c) → (∀ p ∈ Led c, p.1 ≠ I) → Fr h₀ env.locals h (fun y => if y = x then some v else kstB (fun z => if stored.contains z then u z else m₀ z) (ps c) y) → News h₀ env.locals h ((I, oI) :: Led c) →
      wpAny (model prog w) A (execs body env) (StPost h₀ env.locals { s with heap := h, toks := tk } I oI own Led ps stored m₀ (K (i + 1)) Q) E { s with heap := h, toks := tk })
    (done : ∀ c (u : Str → Option Value) h tk, K n c → Fr h₀ env.locals h (kstB (fun z => if stored.contains z then u z else m₀ z) (ps c)) → News h₀ env.locals h (Led c) → Q .next { s with heap := h, toks := tk }) :
    wpAny (model prog w) A (pyIter z) (fun it s₂ => LoopAtV prog w A h₀ env x body Q E it s₂) E s := by
  refine iter_J (fun i m led => ∃ c, led = Led c ∧ K i c ∧ (∀ p ∈ ps c, m p.1 = some p.2) ∧ ∀ z, (∀ p ∈ ps c, z ≠ p.1) → stored.contains z = false → m z = m₀ z) hsrc F N hown ⟨c₀, rfl, hk, hps, fun _ _ _ => rfl⟩ ?_ ?_
  · intro i v m₁ news₁ h tk I oI hi hP hJ hown' hoff F₁ N₁
    refine park1 news₁ ?_; intro K' hK'
    obtain ⟨c, rfl, hK, h1, h2⟩ := hJ
    refine hK' _ ?_; clear hK' K'
    have e : (fun y => if y = x then some v else m₁ y) = fun y => if y = x then some v else kstB (fun z => if stored.contains z then m₁ z else m₀ z) (ps c) y := congrArg (fun (m : Str → Option Value) y => if y = x then some v else m y) (kst_self h1 h2)
    rw [e] at F₁
    refine wpAny_mono (turn i v c m₁ h tk I oI hi hP hK hown' hoff F₁ N₁) (fun f s₂ p => ?_) fun _ _ e => e
    have fin : StEnd h₀ env.locals { s with heap := h, toks := tk } I oI own Led ps stored m₀ (K (i + 1)) s₂ → TurnEnd h₀ env.locals { s with heap := h, toks := tk } I oI (fun m' n' => (∃ c, n' = Led c ∧ K (i + 1) c ∧ (∀ p ∈ ps c, m' p.1 = some p.2) ∧ ∀ z, (∀ p ∈ ps c, z ≠ p.1) → stored.contains z = false → m' z = m₀ z) ∧ ∀ p ∈ own, p ∈ n') s₂ := by
      rintro ⟨c', h', tk', m', all, e, F', N', hI, hl, ho, hw, hK', g1, g2⟩
      exact ⟨h', tk', m', Led c', e, F', news_put (N' _ hI) fun p hp => N' _ (hl p hp), ho, ⟨c', rfl, hK', g1, g2⟩, hw⟩
    cases f with
    | ret v => exact p
    | brk => exact p
    | next => exact fin p
    | cont => exact fin p
  · rintro m₁ news₁ h tk ⟨c, rfl, hK, h1, h2⟩ F₁ N₁
    have e : m₁ = kstB (fun z => if stored.contains z then m₁ z else m₀ z) (ps c) := kst_self h1 h2
    rw [e] at F₁
    exact done c m₁ h tk hK F₁ N₁
theorem for_empty {target iter : Expr} {pos : Pos} {m : Str → Option Value} {news : List (Addr × Obj)} {l : Addr} (hh : A.handled = none) (F : Fr h₀ env.locals s.heap m) (N : News h₀ env.locals s.heap news)
    (hl : (l, ({ cls := .type "list", data := .seq #[] 0 } : Obj)) ∈ news) (hi : ∀ Q', Q' (.ref l) s → wpAny (model prog w) A (eval iter env) Q' E s)
    (h : ∀ h' tk, Fr h₀ env.locals h' m → News h₀ env.locals h' news → Q .next { s with heap := h', toks := tk })
    (hs : ∀ x, foldedSetIterable iter env x = pure x) :
    wpAny (model prog w) A (exec (.For target iter body [] pos) env) Q E s := by
  refine wpAny_For (hi _ ?_) hs
  have hT : s.heap.IsList l #[] := ⟨_, (N _ hl).1, rfl, _, rfl⟩
  have hlt : l < s.heap.objs.size := Heap.lt_size (N _ hl).1
  refine wpAny_pyIter_list hT ?_
  have W := Walks.list (prog := prog) (w := w) hh s.heap.objs.size l (Nat.ne_of_lt hlt) #[]
  have up : ∀ b x, s.heap.get? b = some x → (s.heap.push { cls := .type "list_iterator", data := .fields #[.ref l, .int 0 0] }).get? b = some x := fun b x e => Heap.get?_push_of_some _ e
  have hIL : s.heap.objs.size ≠ env.locals := Nat.ne_of_gt F.ns.lt
  refine codeAny_loop' rfl (fun _ s' => s' = { s with heap := s.heap.push { cls := .type "list_iterator", data := .fields #[.ref l, .int 0 0] } }) (fun n s' hs' => ?_) 0 rfl
  subst hs'
  show wpAny _ _ ((forTurn target (.ref s.heap.objs.size) body [] env).onRaise (fun x => do noteFrame x env; theTreesLotGoes x)) _ _ _
  refine wpAny_noted ?_
  simp only [forTurn]
  refine wpAny_bind (wpAny_standAt (wpAny_bind (wpAny_onRaise (W.done _ _ _ ⟨⟨_, Heap.get?_push_size _ rfl, rfl, rfl⟩, hT.push _⟩ fun h' tk hk => ?_))))
  have F' : Fr h₀ env.locals h' m := fr_but (F.keeps up) hk (Ne.symm hIL) (next_is_new F)
  have N' : News h₀ env.locals h' news := news_but (N.grown up) hk fun p hp => Nat.ne_of_lt (Heap.lt_size (N p hp).1)
  exact wpAny_pure (.inr ⟨rfl, codeAny_block (wpAny_execs_nil (h h' tk F' N'))⟩)
end
end Mine
end
section
open PySem PySem.W PySem.Calls PyProof.Rows PySem.Spec PyProof.V
set_option Elab.async false
set_option maxRecDepth 100000
set_option maxHeartbeats 4000000
namespace Mine
section
variable {prog : Program} {w : World} {A : Around} {E : Value → Shared → Prop} {s : Shared} {h₀ : Heap} {env : Env} {xk xv : Str} {body : List Stmt} {Q : Flow → Shared → Prop}
noncomputable def UnrEnd (h₀ : Heap) (L : Addr) (s₁ : Shared) (I : Addr) (oI : Obj) (d : Addr × Obj) (K : (Str → Option Value) → List (Addr × Obj) → Prop) (f : Flow) (s₂ : Shared) : Prop :=
  f = .next ∧ ∃ h' tk m' news', s₂ = { s₁ with heap := h', toks := tk } ∧ Fr h₀ L h' m' ∧ News h₀ L h' ((I, oI) :: news') ∧ (∀ p ∈ news', p.1 ≠ I) ∧ d ∈ news' ∧ K m' news'
noncomputable def UnrL (prog : Program) (w : World) (A : Around) (E : Value → Shared → Prop) (h₀ : Heap) (env : Env) (xk xv : Str) (body : List Stmt) (Q : Flow → Shared → Prop) (s : Shared) (d : Addr × Obj) : List (Str × Value) → (Str → Option Value) → List (Addr × Obj) → Prop
  | [], m₁, led => ∀ h' tk, 0 < tk → Fr h₀ env.locals h' m₁ → News h₀ env.locals h' led → Q .next { s with heap := h', toks := tk }
  | kv :: r, m₁, led => ∀ t h tk I oI, 0 < tk → (∀ p ∈ led, p.1 ≠ I) → Fr h₀ env.locals h (fun y => if y = xv then some kv.2 else if y = xk then some (.str kv.1 t) else m₁ y) → News h₀ env.locals h ((I, oI) :: led) →
      wpAny (model prog w) A (execs body env) (UnrEnd h₀ env.locals { s with heap := h, toks := tk } I oI d (fun m' n' => UnrL prog w A E h₀ env xk xv body Q s d r m' n')) E { s with heap := h, toks := tk }
theorem UnrEnd.weak {L I : Addr} {s₁ s₂ : Shared} {oI : Obj} {d : Addr × Obj} {K K' : (Str → Option Value) → List (Addr × Obj) → Prop} {f : Flow} (hK : ∀ m n, K m n → K' m n) (p : UnrEnd h₀ L s₁ I oI d K f s₂) : UnrEnd h₀ L s₁ I oI d K' f s₂ :=
  p.imp id fun ⟨a, b, c, n, q1, q2, q3, q4, q5, q6⟩ => ⟨a, b, c, n, q1, q2, q3, q4, q5, hK _ _ q6⟩
theorem unrL_heap {hx : Heap} {tx : Nat} {d : Addr × Obj} : ∀ (kvs : List (Str × Value)) (m : Str → Option Value) (news : List (Addr × Obj)), UnrL prog w A E h₀ env xk xv body Q s d kvs m news → UnrL prog w A E h₀ env xk xv body Q { s with heap := hx, toks := tx } d kvs m news
  | [], _, _, h => h
  | kv :: r, m, news, h => by
    intro t h' tk I oI h1 h2 h3 h4
    refine wpAny_mono (h t h' tk I oI h1 h2 h3 h4) (fun f s₂ p => ?_) fun _ _ e => e
    exact UnrEnd.weak (fun c n => unrL_heap r c n) p
theorem forLoop_itemsU {pk pv pt : Pos} {x1 : Nat} {it d : Addr} {od : Obj} {kvs : List (Str × Value)} {ep : Nat} {m : Str → Option Value} {news : List (Addr × Obj)}
    (hh : A.handled = none) (hxk : env.kindOf xk = some .local) (hxv : env.kindOf xv = some .local)
    (hp : (env.scope.kind == .class || (env.scope.kind == .module && env.locals != env.globals)) = false)
    (hiL : it ≠ env.locals) (hdL : d ≠ env.locals) (hdi : d ≠ it) (hin : h₀.get? it = none) (hnw : ∀ p ∈ news, p.1 ≠ it) (hd : (d, od) ∈ news)
    (hit : IsItemIter s.heap it d 0 kvs.length ep .none .none) (hm : s.heap.DictAt (PySem.strKind prog w) d kvs ep) (F : Fr h₀ env.locals s.heap m) (N : News h₀ env.locals s.heap news) (ht : 0 < s.toks)
    (hE : PassesOwn (model prog w) A env E)
    (h0 : UnrL prog w A E h₀ env xk xv body Q s (d, od) kvs m news) :
    codeAny (model prog w) A (.forLoop (.Tuple [.Name xk pk, .Name xv pv] x1 pt) (.ref it) body [] env) (fun r s' => match r with | .ok f => Q f s' | .error e => cameBackBy (model prog w) A env E e s') s := by
  refine codeAny_forLoop_any
    (fun n s' => ∃ h' tk m' led i ok ov, s' = { s with heap := h', toks := tk } ∧ 0 < tk ∧ IsItemIter h' it d i kvs.length ep ok ov ∧ h'.DictAt (PySem.strKind prog w) d kvs ep ∧ Fr h₀ env.locals h' m' ∧ News h₀ env.locals h' led ∧ (∀ p ∈ led, p.1 ≠ it) ∧ (d, od) ∈ led ∧ UnrL prog w A E h₀ env xk xv body Q s (d, od) (kvs.drop i) m' led ∧ i ≤ kvs.length ∧
      n = kvs.length + 1 - i) ?_ (kvs.length + 1)
    ⟨s.heap, s.toks, m, news, 0, .none, .none, rfl, ht, hit, hm, F, N, hnw, hd, h0, Nat.zero_le _, rfl⟩
  intro n s' hI
  refine park2 n s' ?_; intro K hK
  obtain ⟨H, tk, m', led, i, ok, ov, rfl, htk, hit', hm', F', N', hnl, hdl, hJ, hi, rfl⟩ := hI
  refine hK _ _ ?_; clear hK K
  have hn' := F'.ns
  have oldNe : ∀ b o, h₀.get? b = some o → b ≠ it := fun b o e q => by rw [q, hin] at e; cases e
  cases hv : kvs[i]? with
  | none =>
    have hsz : i = kvs.length := Nat.le_antisymm hi (by simpa using hv)
    refine wpAny_pyNext_items_end hh hit' hm' hv fun h₁ he₁ => wpAny_execs_nil ?_
    rw [hsz, List.drop_length] at hJ
    exact (hJ h₁ tk htk ⟨hn'.extBut he₁ (Ne.symm hiL), fun b o e => he₁ b o (oldNe b o e) (F'.keep b o e), F'.above⟩
      (fun p hp => ⟨he₁ _ _ (hnl p hp) (N' p hp).1, (N' p hp).2⟩))
  | some kv =>
    obtain ⟨k, v⟩ := kv
    have hlt : i < kvs.length := (List.getElem?_eq_some_iff.mp hv).1
    have hiH : it < H.objs.size := Heap.lt_size hit'
    have hLH : env.locals < H.objs.size := hn'.lt
    have hdH : d < H.objs.size := hm'.lt_size
    have edrop : kvs.drop i = (k, v) :: kvs.drop (i + 1) := by
      rw [List.drop_eq_getElem_cons hlt]
      congr 1
      exact (List.getElem?_eq_some_iff.mp hv).2
    rw [edrop] at hJ
    refine wpAny_pyNext_items_item hit' hm' hv fun key h₁ hkey heo ht₁ hz₁ hk₁ => ?_
    refine park1 key ?_; intro K hK
    obtain ⟨kt, rfl⟩ : ∃ t, key = .str k t := Value.isStrOf_shape hkey
    refine hK _ ?_; clear hK K hkey
    refine wpAny_letOwnedTupleGo_items heo fun h₂ he₂ hs₂ => ?_
    replace hs₂ : Heap.SameBut it h₁ h₂ := hs₂
    have ht₂ : h₂.IsTuple H.objs.size #[.str k kt, v] := ⟨_, (hs₂.2 _ (Nat.ne_of_gt hiH)).trans ht₁, rfl, _, rfl⟩
    have hz₂ : h₂.objs.size = H.objs.size + 1 := hs₂.1.trans hz₁
    refine wpAny_assign_Tuple hh ht₂ rfl rfl fun h₃ hx₃ => ?_
    replace hx₃ : Heap.ExtBut h₂.objs.size h₂ h₃ := hx₃
    have old₃ : ∀ b o, b < H.objs.size → h₂.get? b = some o → h₃.get? b = some o := fun b o hb x => hx₃ b o (by rw [hz₂]; exact Nat.ne_of_lt (Nat.lt_succ_of_lt hb)) x
    have up₃ : ∀ b o, b ≠ it → H.get? b = some o → h₃.get? b = some o := fun b o hb x => old₃ b o (Heap.lt_size x) (hs₂.extBut b o hb (hk₁ b o hb x))
    have F₃ : Fr h₀ env.locals h₃ m' := ⟨hn'.at fun o x => up₃ _ o (Ne.symm hiL) x, fun b o e => up₃ b o (oldNe b o e) (F'.keep b o e), F'.above⟩
    have N₃ : News h₀ env.locals h₃ led := fun p hp => ⟨up₃ _ _ (hnl p hp) (N' p hp).1, (N' p hp).2⟩
    show wpAny _ _ (do holding [v] (assign (.Name xk pk) env (.str k kt)); do holding [] (assign (.Name xv pv) env v); pure ()) _ _ _
    refine wpAny_bind (wpAny_holding (wpAny_assign_Name (wpAny_storeName_local hxk F₃.ns (fun h₄ hn₄ hs₄ => ?_) hp)))
    replace hs₄ : Heap.SameBut env.locals h₃ h₄ := hs₄
    have F₄ := F₃.set hn₄ hs₄
    refine wpAny_bind (wpAny_holding (wpAny_assign_Name (wpAny_storeName_local hxv F₄.ns (fun h₅ hn₅ hs₅ => wpAny_pure ?_) hp)))
    replace hs₅ : Heap.SameBut env.locals h₄ h₅ := hs₅
    have F₅ := F₄.set hn₅ hs₅
    have N₅ : News h₀ env.locals h₅ led := (N₃.set hs₄).set hs₅
    have up₅ : ∀ b o, b ≠ env.locals → b < H.objs.size → h₂.get? b = some o → h₅.get? b = some o := fun b o hbL hb x => hs₅.extBut b o hbL (hs₄.extBut b o hbL (old₃ b o hb x))
    have hm₂ : h₂.DictAt (PySem.strKind prog w) d kvs ep := (hm'.at fun o x => hk₁ d o hdi x).extBut hs₂.extBut hdi
    have hm₅ : h₅.DictAt (PySem.strKind prog w) d kvs ep := hm₂.at fun o x => up₅ d o hdL hdH x
    have hit₅ := up₅ it _ hiL hiH he₂
    have N₆ : News h₀ env.locals h₅ ((it, _) :: led) := fun p hp => by
      rcases List.mem_cons.mp hp with rfl | hp
      · exact ⟨hit₅, hiL, hin⟩
      · exact N₅ p hp
    refine wpAny_mono (wpAny_toks_of (n := 1) ?pos (wpAny_passesOwn hE (hJ kt h₅ _ it _ ?pos2 hnl F₅ N₆))) (fun f s₃ h₆ => ?_) fun e s' x => ?_
    case pos => dsimp only; omega
    case pos2 => dsimp only; omega
    · refine park2 f s₃ ?_; intro K hK
      obtain ⟨ht₃, rfl, h₆, tk₆, m₂, led₆, rfl, F₆, N₇, hn₇, hd₇, hJ₆⟩ := h₆
      refine hK _ _ ?_; clear hK K
      have keepd : ∀ o, h₅.get? d = some o → h₆.get? d = some o := fun o e => by
        have e5 : h₅.get? d = some od := (N₆ _ (List.mem_cons_of_mem _ hdl)).1
        rw [e5] at e
        cases e
        exact (N₇ _ (List.mem_cons_of_mem _ hd₇)).1
      exact ⟨kvs.length + 1 - (i + 1), by omega, h₆, tk₆, m₂, led₆, i + 1, _, _, rfl, ht₃, (N₇ _ List.mem_cons_self).1, hm₅.at keepd, F₆, fun p hp => N₇ p (List.mem_cons_of_mem _ hp), hn₇, hd₇, hJ₆, hlt, rfl⟩
    · exact x.2
theorem iter_items {d vw : Addr} {od : Obj} {kvs : List (Str × Value)} {m : Str → Option Value} {news : List (Addr × Obj)}
    (hh : A.handled = none) (hxk : env.kindOf xk = some .local) (hxv : env.kindOf xv = some .local)
    (hp : (env.scope.kind == .class || (env.scope.kind == .module && env.locals != env.globals)) = false)
    (hvw : ∃ ov, s.heap.get? vw = some ov ∧ ov.cls = .type "dict_items" ∧ ov.data = .fields #[.ref d]) (hd : (d, od) ∈ news) (hod : Obj.IsDictOf (PySem.strKind prog w) od kvs) (F : Fr h₀ env.locals s.heap m) (N : News h₀ env.locals s.heap news) (ht : 0 < s.toks)
    (h0 : UnrL prog w A E h₀ env xk xv body Q s (d, od) kvs m news)
    (hE : PassesOwn (model prog w) A env E) :
    wpAny (model prog w) A (pyIter (.ref vw)) (fun it s₂ => PairLoopAt prog w A h₀ env xk xv body Q E it s₂) E s := by
  have hdo : s.heap.DictOf (PySem.strKind prog w) d kvs := Heap.dictOf_iff.mpr ⟨od, (N _ hd).1, hod⟩
  obtain ⟨ep, hat⟩ := hdo.dictAt
  refine wpAny_pyIter_items (knd := PySem.strKind prog w) (d := d) (kvs := kvs) (ep := ep) hvw hat ?_
  intro pk pv pt x1
  have hne : d ≠ s.heap.objs.size := Nat.ne_of_lt hat.lt_size
  have hT := forLoop_itemsU (prog := prog) (w := w) (A := A) (E := E) (Q := Q) (s := { s with heap := s.heap.push { cls := .type "dict_itemiterator", data := .fields #[.none, .bool false, .ref d, .int 0 0, .int kvs.length 0, .int ep 0, .none, .none] } }) (h₀ := h₀) (news := news) (body := body) (pk := pk) (pv := pv) (pt := pt) (x1 := x1) (od := od) hh hxk hxv hp (Nat.ne_of_gt F.ns.lt) (fun e => (N _ hd).2.1 e) hne (next_is_new F)
    (fun p hp => Nat.ne_of_lt (Heap.lt_size (N p hp).1)) hd (Heap.get?_push_size _ rfl) (hat.push _) (F.push _) (fun p hp => ⟨Heap.get?_push_of_some _ (N p hp).1, (N p hp).2⟩) ht hE ?_
  · exact hT
  · exact unrL_heap kvs m news h0 (hx := _) (tx := _)
theorem UnrL.nil {d : Addr × Obj} {m : Str → Option Value} {news : List (Addr × Obj)} (h : ∀ h' tk, 0 < tk → Fr h₀ env.locals h' m → News h₀ env.locals h' news → Q .next { s with heap := h', toks := tk }) : UnrL prog w A E h₀ env xk xv body Q s d [] m news := h
theorem UnrL.cons {d : Addr × Obj} {k : Str} {v : Value} {r : List (Str × Value)} {m : Str → Option Value} {news : List (Addr × Obj)}
    (h : ∀ t h tk I oI, 0 < tk → (∀ p ∈ news, p.1 ≠ I) → Fr h₀ env.locals h (fun y => if y = xv then some v else if y = xk then some (.str k t) else m y) → News h₀ env.locals h ((I, oI) :: news) →
      wpAny (model prog w) A (execs body env) (UnrEnd h₀ env.locals { s with heap := h, toks := tk } I oI d (fun m' n' => UnrL prog w A E h₀ env xk xv body Q s d r m' n')) E { s with heap := h, toks := tk }) :
    UnrL prog w A E h₀ env xk xv body Q s d ((k, v) :: r) m news := h
theorem UnrEnd.mk {s₁ : Shared} {L I : Addr} {oI : Obj} {d : Addr × Obj} {K : (Str → Option Value) → List (Addr × Obj) → Prop} {h' : Heap} {tk : Nat} {m' : Str → Option Value} {n' : List (Addr × Obj)}
    (F : Fr h₀ L h' m') (N : News h₀ L h' ((I, oI) :: n')) (ho : ∀ p ∈ n', p.1 ≠ I) (hd : d ∈ n') (hK : K m' n') : UnrEnd h₀ L s₁ I oI d K .next { s₁ with heap := h', toks := tk } := ⟨rfl, h', tk, m', n', rfl, F, N, ho, hd, hK⟩
end
noncomputable def OffAll (I : Addr) : List (Addr × Obj) → Prop
  | [] => True
  | q :: r => @Ne Nat q.1 I ∧ OffAll I r
theorem OffAll.of {I : Addr} : ∀ {l : List (Addr × Obj)}, (∀ p ∈ l, p.1 ≠ I) → OffAll I l
  | [], _ => trivial
  | _ :: _, h => ⟨h _ List.mem_cons_self, OffAll.of fun q hq => h q (List.mem_cons_of_mem _ hq)⟩
theorem OffAll.to {I : Addr} : ∀ {l : List (Addr × Obj)}, OffAll I l → ∀ p ∈ l, p.1 ≠ I
  | [], _, _, h => nomatch h
  | q :: _, h, p, hp => by
    rcases List.mem_cons.mp hp with rfl | hp
    · exact h.1
    · exact OffAll.to h.2 p hp
theorem rest_ne {a b c d : Prop} {l : Addr} {rest : List (Addr × Obj)} (h : a ∧ b ∧ c ∧ d ∧ AllLt l rest) : ∀ q ∈ rest, q.1 ≠ l := fun q hq => Nat.ne_of_lt (allLt_mem h.2.2.2.2 q hq)
end Mine
end
section
open PySem PySem.W PySem.Calls PyProof.Rows PySem.Spec
set_option Elab.async false
set_option maxRecDepth 100000
set_option maxHeartbeats 4000000
namespace Mine
theorem strsAre_values : ∀ {vs : List Value} {xs : List Str}, StrsAre vs xs → ∃ l : List (Str × Tok), vs = strValues l ∧ l.map (·.1) = xs
  | _, _, .nil => ⟨[], rfl, rfl⟩
  | _, _, .cons y t h => by
    obtain ⟨l, h1, h2⟩ := strsAre_values h
    exact ⟨(y, t) :: l, by rw [h1]; rfl, by rw [← h2]; rfl⟩
theorem join_single (sep x : Str) : Txt.join sep [x] = x := by
  rw [join_eq]; simp [Str.join]
section
variable {prog : Program} {w : World} {A : Around} {E : Value → Shared → Prop} {s : Shared} {x : Str} {t : Tok} {Q : Value → Shared → Prop}
theorem my_join {D : Addr} {its : Array Value} {xs : List Str} (hl : s.heap.IsList D its) (hs : StrsAre its.toList xs) (hb : (xs.map (·.length)).sum + xs.length * x.length ≤ 16777216)
    (hq : ∀ t' k, s.toks ≤ k → Q (.str (Txt.join x xs) t') { s with toks := k }) : wpAny (model prog w) A (call (.builtin "str.join") [.str x t, .ref D]) Q E s := by
  obtain ⟨l, h1, h2⟩ := strsAre_values hs
  refine wpAny_with_toks (n := s.toks) (Nat.le_refl _) (SC.join (l := l) (by rw [← h1]; exact hl) h2 (joinOk_of _ _ hb) fun t' k h => hq t' k h)
end
end Mine
end
section
open PySem PySem.W PySem.Calls PyProof.Rows
set_option Elab.async false
set_option maxRecDepth 100000
set_option maxHeartbeats 4000000
namespace Mine
theorem slot_search : Slot "re.Pattern" "search" "re.Pattern.search" :=
  .of (owner := "re.Pattern") (n := "search") (by rw [typeLookup_type, builtinLookup_eq_fast]; kernel_rfl) (by decide +kernel) (by decide +kernel) (by decide +kernel)
    (by first | exact .inl (by decide +kernel) | exact .inr (by decide +kernel)) (by rw [isSubtype_type]; kernel_rfl)
theorem entry_search : entryFor table "re.Pattern.search" = some Builtin.«re.Pattern.search» := entryFor_of_tree (by kernel_rfl)
theorem args_search (a b : Value) : argsOk "re.Pattern.search" ⟨[a, b], []⟩ := by unfold argsOk; kernel_rfl
theorem type_search : typeOf (.builtin "re.Pattern.search") = pure (.type "method_descriptor") := by show builtinType _ = _; rw [builtinType_eq_fast]; kernel_rfl
theorem attrs_pattern : PlainAttrs "re.Pattern" :=
  ⟨⟨"object.__getattribute__", by rw [typeLookup_type, builtinLookup_eq_fast]; kernel_rfl, by decide +kernel⟩, by rw [typeLookup_type, builtinLookup_eq_fast]; kernel_rfl⟩
theorem noBool_match : typeLookup (.type "re.Match") "__bool__" = pure none := by rw [typeLookup_type, builtinLookup_eq_fast]; kernel_rfl
theorem noLen_match : typeLookup (.type "re.Match") "__len__" = pure none := by rw [typeLookup_type, builtinLookup_eq_fast]; kernel_rfl
noncomputable def codeV : Array Nat := #[14, 14, 4, 1, 1, 9, 4294966783, 0, 0, 2147483648, 0, 0, 0, 0, 0, 13, 11, 9, 4294966783, 0, 0, 2147483648, 0, 0, 0, 0, 0, 1]
noncomputable def codeN : Array Nat := #[14, 10, 4, 1, 1, 22, 0, 31, 16, 127, 0, 13, 7, 22, 0, 31, 16, 127, 0, 1]
noncomputable def badV (c : Nat) : Bool := (decide (c < 32) && c != 9) || c == 127
noncomputable def badN (c : Nat) : Bool := decide (c < 32) || c == 127
theorem badV_small : ∀ c : Fin 256, (decide (c.val < 256) && (codeV.getD (5 + (1 + c.val / 32)) 0).testBit (c.val % 32)) = badV c.val := by decide +kernel
theorem badV_small2 : ∀ c : Fin 256, (decide (c.val < 256) && (codeV.getD (17 + (1 + c.val / 32)) 0).testBit (c.val % 32)) = badV c.val := by decide +kernel
theorem badV_at5 (c : Nat) : (decide (c < 256) && (codeV.getD (5 + (1 + c / 32)) 0).testBit (c % 32)) = badV c := by
  by_cases h : c < 256
  · exact badV_small ⟨c, h⟩
  · have h1 : ¬ c < 32 := by omega
    have h2 : ¬ c = 127 := by omega
    simp [badV, h, h1, h2]
theorem badV_at17 (c : Nat) : (decide (c < 256) && (codeV.getD (17 + (1 + c / 32)) 0).testBit (c % 32)) = badV c := by
  by_cases h : c < 256
  · exact badV_small2 ⟨c, h⟩
  · have h1 : ¬ c < 32 := by omega
    have h2 : ¬ c = 127 := by omega
    simp [badV, h, h1, h2]
open Sre in
theorem inSet_V5 (c : Nat) (seen : Sre.Seen) : ∃ seen', inSet codeV c codeV.size 5 true seen = .ok (badV c, seen') := by
  show ∃ seen', inSet codeV c (26 + 1 + 1) 5 true seen = .ok (badV c, seen')
  rw [inSet]
  show ∃ seen', (if (decide (c < 256) && (codeV.getD (5 + (1 + c / 32)) 0).testBit (c % 32)) = true then _ else _) = _
  rw [badV_at5]
  cases badV c with
  | true => exact ⟨_, rfl⟩
  | false =>
    rw [if_neg Bool.false_ne_true, inSet]
    exact ⟨_, rfl⟩
open Sre in
theorem inSet_V17 (c : Nat) (seen : Sre.Seen) : ∃ seen', inSet codeV c codeV.size 17 true seen = .ok (badV c, seen') := by
  show ∃ seen', inSet codeV c (26 + 1 + 1) 17 true seen = .ok (badV c, seen')
  rw [inSet]
  show ∃ seen', (if (decide (c < 256) && (codeV.getD (17 + (1 + c / 32)) 0).testBit (c % 32)) = true then _ else _) = _
  rw [badV_at17]
  cases badV c with
  | true => exact ⟨_, rfl⟩
  | false =>
    rw [if_neg Bool.false_ne_true, inSet]
    exact ⟨_, rfl⟩
open Sre in
theorem inSet_N5 (c : Nat) (seen : Sre.Seen) : ∃ seen', inSet codeN c codeN.size 5 true seen = .ok (badN c, seen') := by
  show ∃ seen', inSet codeN c (17 + 1 + 1 + 1) 5 true seen = .ok (badN c, seen')
  rw [inSet]
  show ∃ seen', (if (decide (0 ≤ c) && decide (c ≤ 31)) = true then _ else inSet codeN c (17 + 1 + 1) 8 true _) = _
  by_cases h : c < 32
  · have e : (decide (0 ≤ c) && decide (c ≤ 31)) = true := by simp; omega
    have e2 : badN c = true := by simp [badN, h]
    rw [if_pos e, e2]
    exact ⟨_, rfl⟩
  · have e : ¬ (decide (0 ≤ c) && decide (c ≤ 31)) = true := by simp; omega
    rw [if_neg e, inSet]
    show ∃ seen', (if (c == 127) = true then _ else inSet codeN c (17 + 1) 10 true _) = _
    by_cases h2 : c = 127
    · have e2 : badN c = true := by simp [badN, h2]
      rw [if_pos (by simp [h2]), e2]
      exact ⟨_, rfl⟩
    · have e2 : badN c = false := by simp [badN, h2, h]
      rw [if_neg (by simp [h2]), e2, inSet]
      exact ⟨_, rfl⟩
open Sre in
theorem inSet_N13 (c : Nat) (seen : Sre.Seen) : ∃ seen', inSet codeN c codeN.size 13 true seen = .ok (badN c, seen') := by
  show ∃ seen', inSet codeN c (17 + 1 + 1 + 1) 13 true seen = .ok (badN c, seen')
  rw [inSet]
  show ∃ seen', (if (decide (0 ≤ c) && decide (c ≤ 31)) = true then _ else inSet codeN c (17 + 1 + 1) 16 true _) = _
  by_cases h : c < 32
  · have e : (decide (0 ≤ c) && decide (c ≤ 31)) = true := by simp; omega
    have e2 : badN c = true := by simp [badN, h]
    rw [if_pos e, e2]
    exact ⟨_, rfl⟩
  · have e : ¬ (decide (0 ≤ c) && decide (c ≤ 31)) = true := by simp; omega
    rw [if_neg e, inSet]
    show ∃ seen', (if (c == 127) = true then _ else inSet codeN c (17 + 1) 18 true _) = _
    by_cases h2 : c = 127
    · have e2 : badN c = true := by simp [badN, h2]
      rw [if_pos (by simp [h2]), e2]
      exact ⟨_, rfl⟩
    · have e2 : badN c = false := by simp [badN, h2, h]
      rw [if_neg (by simp [h2]), e2, inSet]
      exact ⟨_, rfl⟩
theorem admitted_ok {code : Array Nat} {bf : Nat → Bool} (hset : ∀ c seen, ∃ seen', Sre.inSet code c code.size 5 true seen = .ok (bf c, seen')) (m : Sre.M) (hm : m.code = code) :
    ∀ (fuel s : Nat) (seen : Sre.Seen), m.lim < s + fuel →
      (∃ s' seen', m.admitted fuel s seen = .ok (some s', seen') ∧ s' < m.lim ∧ bf (m.text.getD s' 0) = true) ∨ (∃ seen', m.admitted fuel s seen = .ok (none, seen') ∧ ∀ i, s ≤ i → i < m.lim → bf (m.text.getD i 0) = false) := by
  intro fuel
  induction fuel with
  | zero => intro s seen h; exact .inr ⟨seen, rfl, fun i h1 h2 => by omega⟩
  | succ fuel ih =>
    intro s seen h
    by_cases hs : s ≥ m.lim
    · refine .inr ⟨seen, ?_, fun i h1 h2 => by omega⟩
      rw [Sre.M.admitted, if_pos hs]
    · obtain ⟨seen', e⟩ := hset (m.text.getD s 0) seen
      rw [Sre.M.admitted, if_neg hs, hm, e]
      cases hb : bf (m.text.getD s 0) with
      | true => exact .inl ⟨s, seen', rfl, by omega, hb⟩
      | false =>
        rcases ih (s + 1) seen' (by omega) with ⟨s', se, h1, h2, h3⟩ | ⟨se, h1, h2⟩
        · exact .inl ⟨s', se, h1, h2, h3⟩
        · refine .inr ⟨se, h1, fun i hi1 hi2 => ?_⟩
          by_cases hi : i = s
          · rw [hi]; exact hb
          · exact h2 i (by omega) hi2
theorem fails (m : Sre.M) (ho : m.outcome = none) (hf : m.frames = []) : ((m.say false).runFor Builtin.Re.reTurnSteps).outcome = some .failed := by
  obtain ⟨code, text, lim, start, ls, wt, ma, pc, pos, handed, om, marks, lm, li, loops, inner, frames, weight, answer, seen, outcome⟩ := m
  cases ho; cases hf
  rfl
noncomputable def m0 (code text : Array Nat) (pc : Nat) (seen : Sre.Seen) : Sre.M := { code, text, lim := text.size, start := 0, lastStart := text.size, pc, pos := 0, handed := 0, marks := #[], seen }
theorem fs_V (text : Array Nat) (h : 1 ≤ text.size) : Sre.forSearch codeV text 0 0 text.size false = (m0 codeV text 15 (({} : Sre.Seen).add 14)).attemptFrom 0 true := by
  have hc : ¬ ((decide (0 > text.size) || decide (text.size - 0 < 1)) = true) := by
    intro h9
    rw [Bool.or_eq_true, decide_eq_true_eq, decide_eq_true_eq] at h9
    omega
  show (if (decide (0 > text.size) || decide (text.size - 0 < 1)) = true then _ else _) = _
  rw [if_neg hc]
  rfl
theorem af_V (text : Array Nat) (seen : Sre.Seen) : (m0 codeV text 15 seen).attemptFrom 0 true = (match Sre.M.admitted (m0 codeV text 15 seen) (text.size + 1 - 0) 0 seen with
    | .ok (some s, seen) => { m0 codeV text 15 seen with mustAdvance := false }.attemptAt s true
    | .ok (none, seen) => (m0 codeV text 15 seen).say false
    | .error why => (m0 codeV text 15 seen).stick why) := rfl
theorem exec_V (text : Array Nat) (seen : Sre.Seen) (s : Nat) (hs : s < text.size) (hb : badV (text.getD s 0) = true) :
    (({ m0 codeV text 15 seen with mustAdvance := false }.attemptAt s true).runFor Builtin.Re.reTurnSteps).outcome = some .matched := by
  obtain ⟨se2, e2⟩ := inSet_V17 (text.getD s 0) (seen.add 13)
  rw [hb] at e2
  have e3 : Sre.accepts codeV 15 (text.getD s 0) (seen.add 13) = .ok (true, se2) := e2
  have st : ({ m0 codeV text 15 seen with mustAdvance := false }.attemptAt s true).step = { ({ m0 codeV text 15 seen with mustAdvance := false }.attemptAt s true) with seen := se2, pc := 27, pos := s + 1 } := by
    show (if s ≥ text.size then _ else (match Sre.accepts codeV 15 (text.getD s 0) (seen.add 13) with | .error why => _ | .ok (false, seen) => _ | .ok (true, seen) => _)) = _
    rw [if_neg (by omega), e3]
    rfl
  show (Sre.M.runFor 3 (Sre.M.step _)).outcome = _
  rw [st]
  rfl
theorem fs_N (text : Array Nat) (h : 1 ≤ text.size) : Sre.forSearch codeN text 0 0 text.size false = (m0 codeN text 11 (({} : Sre.Seen).add 14)).attemptFrom 0 true := by
  have hc : ¬ ((decide (0 > text.size) || decide (text.size - 0 < 1)) = true) := by
    intro h9
    rw [Bool.or_eq_true, decide_eq_true_eq, decide_eq_true_eq] at h9
    omega
  show (if (decide (0 > text.size) || decide (text.size - 0 < 1)) = true then _ else _) = _
  rw [if_neg hc]
  rfl
theorem af_N (text : Array Nat) (seen : Sre.Seen) : (m0 codeN text 11 seen).attemptFrom 0 true = (match Sre.M.admitted (m0 codeN text 11 seen) (text.size + 1 - 0) 0 seen with
    | .ok (some s, seen) => { m0 codeN text 11 seen with mustAdvance := false }.attemptAt s true
    | .ok (none, seen) => (m0 codeN text 11 seen).say false
    | .error why => (m0 codeN text 11 seen).stick why) := rfl
theorem exec_N (text : Array Nat) (seen : Sre.Seen) (s : Nat) (hs : s < text.size) (hb : badN (text.getD s 0) = true) :
    (({ m0 codeN text 11 seen with mustAdvance := false }.attemptAt s true).runFor Builtin.Re.reTurnSteps).outcome = some .matched := by
  obtain ⟨se2, e2⟩ := inSet_N13 (text.getD s 0) (seen.add 13)
  rw [hb] at e2
  have e3 : Sre.accepts codeN 11 (text.getD s 0) (seen.add 13) = .ok (true, se2) := e2
  have st : ({ m0 codeN text 11 seen with mustAdvance := false }.attemptAt s true).step = { ({ m0 codeN text 11 seen with mustAdvance := false }.attemptAt s true) with seen := se2, pc := 19, pos := s + 1 } := by
    show (if s ≥ text.size then _ else (match Sre.accepts codeN 11 (text.getD s 0) (seen.add 13) with | .error why => _ | .ok (false, seen) => _ | .ok (true, seen) => _)) = _
    rw [if_neg (by omega), e3]
    rfl
  show (Sre.M.runFor 3 (Sre.M.step _)).outcome = _
  rw [st]
  rfl
theorem search_res (code text : Array Nat) (pc : Nat) (bf : Nat → Bool) (hset : ∀ c seen, ∃ seen', Sre.inSet code c code.size 5 true seen = .ok (bf c, seen'))
    (h0 : text.size = 0 → ∃ m : Sre.M, Sre.forSearch code text 0 0 text.size false = m.say false ∧ m.outcome = none ∧ m.frames = [])
    (hfs : 1 ≤ text.size → Sre.forSearch code text 0 0 text.size false = (m0 code text pc (({} : Sre.Seen).add 14)).attemptFrom 0 true)
    (haf : ∀ seen, (m0 code text pc seen).attemptFrom 0 true = (match Sre.M.admitted (m0 code text pc seen) (text.size + 1 - 0) 0 seen with
      | .ok (some s, seen) => { m0 code text pc seen with mustAdvance := false }.attemptAt s true
      | .ok (none, seen) => (m0 code text pc seen).say false
      | .error why => (m0 code text pc seen).stick why))
    (hex : ∀ (seen : Sre.Seen) (s : Nat), s < text.size → bf (text.getD s 0) = true → (({ m0 code text pc seen with mustAdvance := false }.attemptAt s true).runFor Builtin.Re.reTurnSteps).outcome = some .matched) :
    (((Sre.forSearch code text 0 0 text.size false).runFor Builtin.Re.reTurnSteps).outcome = some .matched ∧ ∃ i, i < text.size ∧ bf (text.getD i 0) = true) ∨
    (((Sre.forSearch code text 0 0 text.size false).runFor Builtin.Re.reTurnSteps).outcome = some .failed ∧ ∀ i, i < text.size → bf (text.getD i 0) = false) := by
  by_cases hz : text.size = 0
  · obtain ⟨mm, e, h1, h2⟩ := h0 hz
    rw [e]
    exact .inr ⟨fails _ h1 h2, fun i hi => by omega⟩
  · rw [hfs (by omega), haf]
    rcases admitted_ok hset (m0 code text pc (({} : Sre.Seen).add 14)) rfl (text.size + 1 - 0) 0 (({} : Sre.Seen).add 14) (by show text.size < _; omega) with ⟨s, se, e, hs, hb⟩ | ⟨se, e, hb⟩
    · rw [e]
      exact .inl ⟨hex se s hs hb, s, hs, hb⟩
    · rw [e]
      exact .inr ⟨fails _ rfl rfl, fun i hi => hb i (Nat.zero_le _) hi⟩
theorem search_V (text : Array Nat) : (((Sre.forSearch codeV text 0 0 text.size false).runFor Builtin.Re.reTurnSteps).outcome = some .matched ∧ ∃ i, i < text.size ∧ badV (text.getD i 0) = true) ∨
    (((Sre.forSearch codeV text 0 0 text.size false).runFor Builtin.Re.reTurnSteps).outcome = some .failed ∧ ∀ i, i < text.size → badV (text.getD i 0) = false) := search_res codeV text 15 badV inSet_V5 (fun h => by
    have hc : (decide (0 > text.size) || decide (text.size - 0 < 1)) = true := by rw [h]; rfl
    exact ⟨{ m0 codeV text 15 (({} : Sre.Seen).add 14) with lastStart := 0 }, if_pos hc, rfl, rfl⟩) (fs_V text) (af_V text) (exec_V text)
theorem search_N (text : Array Nat) : (((Sre.forSearch codeN text 0 0 text.size false).runFor Builtin.Re.reTurnSteps).outcome = some .matched ∧ ∃ i, i < text.size ∧ badN (text.getD i 0) = true) ∨
    (((Sre.forSearch codeN text 0 0 text.size false).runFor Builtin.Re.reTurnSteps).outcome = some .failed ∧ ∀ i, i < text.size → badN (text.getD i 0) = false) := search_res codeN text 11 badN inSet_N5 (fun h => by
    have hc : (decide (0 > text.size) || decide (text.size - 0 < 1)) = true := by rw [h]; rfl
    exact ⟨{ m0 codeN text 11 (({} : Sre.Seen).add 14) with lastStart := 0 }, if_pos hc, rfl, rfl⟩) (fs_N text) (af_N text) (exec_N text)
end Mine
end
section
open PySem PySem.W PySem.Calls PyProof.Rows
set_option Elab.async false
set_option maxRecDepth 100000
set_option maxHeartbeats 4000000
namespace Mine
section
variable {prog : Program} {w : World} {A : Around} {E : Value → Shared → Prop} {s : Shared}
theorem rules_loop {m : Sre.M} {Q : PUnit → Shared → Prop} (h : Q PUnit.unit s) : ∀ l : List Nat,
    wpAny (model prog w) A (forIn l PUnit.unit (fun i _ => if m.seen.has i = true then do rule (Sre.names.getD i ""); pure (ForInStep.yield PUnit.unit) else pure (ForInStep.yield PUnit.unit))) Q E s
  | [] => wpAny_pure h
  | i :: l => by
    rw [List.forIn_cons]
    by_cases hc : m.seen.has i = true
    · rw [if_pos hc]
      exact wpAny_bind (wpAny_bind (wpAny_rule (wpAny_pure (rules_loop h l))))
    · rw [if_neg hc]
      exact wpAny_bind (wpAny_pure (rules_loop h l))
theorem run_end {m : Sre.M} {Q : Option Sre.M → Shared → Prop} (h : ((m.runFor Builtin.Re.reTurnSteps).outcome = some .matched ∧ Q (some (m.runFor Builtin.Re.reTurnSteps)) s) ∨ ((m.runFor Builtin.Re.reTurnSteps).outcome = some .failed ∧ Q none s)) :
    wpAny (model prog w) A (Builtin.Re.reRunToEnd m) Q E s := by
  have hd : Builtin.Re.reDrive (2 ^ 64) m = pure (m.runFor Builtin.Re.reTurnSteps) := by
    have e : (2 ^ 64 : Nat) = (2 ^ 64 - 1) + 1 := by decide
    rw [e, Builtin.Re.reDrive]
    have hs : (m.runFor Builtin.Re.reTurnSteps).outcome.isSome = true := by rcases h with ⟨h, _⟩ | ⟨h, _⟩ <;> rw [h] <;> rfl
    show (if _ = true then _ else _) = _
    rw [if_pos hs]
  unfold Builtin.Re.reRunToEnd
  rw [hd]
  refine wpAny_bind (wpAny_pure ?_)
  refine wpAny_bind (rules_loop ?_ _)
  rcases h with ⟨e, h⟩ | ⟨e, h⟩
  · rw [e]; exact wpAny_pure h
  · rw [e]; exact wpAny_pure h
end
open Builtin Builtin.Re in
theorem target_V {P : Params} {S : Setting} {v : Str} {t : Tok} : peek (hd.heap_39 P) S (reTarget "re.Pattern.search" "search" ⟨[.ref 53, .str v t], []⟩) =
    some { pattern := .ref 53, string := .str v t, code := codeV, text := v.cps, kind := 0, groups := 0, pos := min 0 v.cps.size, lim := min (2 ^ 63 - 1 : Int).toNat v.cps.size } := by
  kernel_rfl
open Builtin Builtin.Re in
theorem target_N {P : Params} {S : Setting} {v : Str} {t : Tok} : peek (hd.heap_39 P) S (reTarget "re.Pattern.search" "search" ⟨[.ref 48, .str v t], []⟩) =
    some { pattern := .ref 48, string := .str v t, code := codeN, text := v.cps, kind := 0, groups := 0, pos := min 0 v.cps.size, lim := min (2 ^ 63 - 1 : Int).toNat v.cps.size } := by
  kernel_rfl
section
variable {prog : Program} {w : World} {A : Around} {E : Value → Shared → Prop} {s : Shared} {h₀ : Heap} {L : Addr} {m : Str → Option Value} {news : List (Addr × Obj)}
theorem lim_eq (v : Str) (hv : v.length ≤ 1000) : min (2 ^ 63 - 1 : Int).toNat v.cps.size = v.cps.size := by
  have e : (2 ^ 63 - 1 : Int).toNat = 9223372036854775807 := by decide
  have h : v.cps.size ≤ 1000 := hv
  rw [e]; omega
open Builtin Builtin.Re in
theorem new_match {μ : Str → Option Value} {pat str : Value} {m : Sre.M} {pos lim : Nat} {Q : Value → Shared → Prop} (F : Fr h₀ L s.heap μ) (N : News h₀ L s.heap news)
    (h : ∀ a o h', o.cls = .type "re.Match" → o.dict = none → Fr h₀ L h' μ → News h₀ L h' ((a, o) :: news) → (∀ q ∈ news, q.1 < a) → Q (.ref a) { s with heap := h' }) :
    wpAny (model prog w) A (reNewMatch pat str 0 pos lim m) Q E s := by
  unfold reNewMatch
  show wpAny _ _ (newTuple [rawInt m.start, rawInt m.handed] >>= fun T => newFields "re.Match" [str, pat, rawInt pos, rawInt lim, rawInt m.lastindex, T]) _ _ _
  refine wpAny_bind (newTuple_N F N (fun h1 F1 N1 => ?_) (by show 2 ≤ sizeLine; rw [sizeLine_eq]; omega))
  refine wpAny_newObj_type (h _ { cls := .type "re.Match", data := .fields [str, pat, rawInt pos, rawInt lim, rawInt m.lastindex, .ref s.heap.objs.size].toArray } _ rfl rfl (F1.push _) ?_ ?_) (by show 6 ≤ sizeLine + 2; rw [sizeLine_eq]; omega)
  · have N2 := N1.push F1 { cls := .type "re.Match", data := .fields [str, pat, rawInt pos, rawInt lim, rawInt m.lastindex, .ref s.heap.objs.size].toArray }
    exact cb_drop N2 fun q hq => by
      rcases List.mem_cons.mp hq with rfl | hq
      · exact List.mem_cons_self
      · exact List.mem_cons_of_mem _ (List.mem_cons_of_mem _ hq)
  · intro q hq
    exact Heap.lt_size (N1 q (List.mem_cons_of_mem _ hq)).1
open Builtin Builtin.Re in
theorem search_gen {P : Addr} {code : Array Nat} {bf : Nat → Bool} {v : Str} {t : Tok} {μ : Str → Option Value} {Q : Value → Shared → Prop} (X : (hd.heap_39 w.params).In s.heap) (hv : v.length ≤ 1000)
    (hT : s.TypeIs (.ref P) "re.Pattern")
    (ht : peek (hd.heap_39 w.params) ⟨prog, w.params⟩ (reTarget "re.Pattern.search" "search" ⟨[.ref P, .str v t], []⟩) = some { pattern := .ref P, string := .str v t, code := code, text := v.cps, kind := 0, groups := 0, pos := min 0 v.cps.size, lim := min (2 ^ 63 - 1 : Int).toNat v.cps.size })
    (hr : (((Sre.forSearch code v.cps 0 0 v.cps.size false).runFor reTurnSteps).outcome = some .matched ∧ ∃ i, i < v.cps.size ∧ bf (v.cps.getD i 0) = true) ∨ (((Sre.forSearch code v.cps 0 0 v.cps.size false).runFor reTurnSteps).outcome = some .failed ∧ ∀ i, i < v.cps.size → bf (v.cps.getD i 0) = false))
    (F : Fr h₀ L s.heap μ) (N : News h₀ L s.heap news)
    (hq : (∀ i, i < v.cps.size → bf (v.cps.getD i 0) = false) → Q .none s)
    (hm : (∃ i, i < v.cps.size ∧ bf (v.cps.getD i 0) = true) → ∀ a o h', o.cls = .type "re.Match" → o.dict = none → Fr h₀ L h' μ → News h₀ L h' ((a, o) :: news) → (∀ q ∈ news, q.1 < a) → Q (.ref a) { s with heap := h' }) :
    wpAny (model prog w) A (call (.builtin "re.Pattern.search") [.ref P, .str v t]) Q E s := by
  refine wpAny_call_entry slot_search hT entry_search ?_ (args_search _ _)
  show wpAny _ _ (reTarget "re.Pattern.search" "search" ⟨[.ref P, .str v t], []⟩ >>= fun t => reAnswer t (Sre.forSearch t.code t.text t.groups t.pos t.lim false)) _ _ _
  refine wpAny_bind ((Looks.of_peek X ht).here ?_)
  dsimp only
  rw [lim_eq v hv, Nat.zero_min]
  show wpAny _ _ (reRunToEnd (Sre.forSearch code v.cps 0 0 v.cps.size false) >>= _) _ _ _
  refine wpAny_bind (run_end ?_)
  rcases hr with ⟨e, hb⟩ | ⟨e, hb⟩
  · refine .inl ⟨e, ?_⟩
    dsimp only
    refine wpAny_bind (new_match F N fun a o h' ho hd F' N' hl => ?_)
    exact wpAny_pure ⟨_, rfl, hm hb a o h' ho hd F' N' hl⟩
  · exact .inr ⟨e, wpAny_pure ⟨_, rfl, hq hb⟩⟩
theorem truthy_match {a : Addr} {Q : Bool → Shared → Prop} (hT : s.TypeIs (.ref a) "re.Match") (h : Q true s) : wpAny (model prog w) A (truthy (.ref a)) Q E s := by
  unfold truthy
  refine wpAny_bind (wpAny_callSpecial?_none (name := Str.ofString "__bool__") hT noBool_match ?_)
  refine wpAny_bind (wpAny_specialOf (name := Str.ofString "__len__") hT noLen_match ?_)
  exact wpAny_pure h
end
end Mine
end
section
open PySem PySem.W PySem.Calls PyProof.Rows PySem.Spec
set_option Elab.async false
set_option maxRecDepth 100000
namespace Mine
noncomputable def repL (a b : List Nat) : Nat → List Nat → List Nat
  | _, [] => []
  | k + 1, _ :: r => repL a b k r
  | 0, c :: r => if a.isPrefixOf (c :: r) then b ++ repL a b (a.length - 1) r else c :: repL a b 0 r
theorem repL_cons (a b : List Nat) (c : Nat) (r : List Nat) : repL a b 0 (c :: r) = if a.isPrefixOf (c :: r) then b ++ repL a b (a.length - 1) r else c :: repL a b 0 r := rfl
theorem repL_skip (a b : List Nat) : ∀ (k : Nat) (l : List Nat), repL a b k l = repL a b 0 (l.drop k)
  | 0, _ => rfl
  | k + 1, [] => rfl
  | k + 1, _ :: r => by
    show repL a b k r = _
    rw [repL_skip a b k r]
    rfl
theorem prefix_at (x y : Str) (k : Nat) (hy : 1 ≤ y.length) : StrLaws.At x y x.length k ↔ y.cps.toList.isPrefixOf (x.cps.toList.drop k) = true := by
  have hL : x.cps.toList.length = x.length := by simp [Str.length]
  have hY : y.cps.toList.length = y.length := by simp [Str.length]
  unfold StrLaws.At
  rw [StrLaws.subAt_eq, List.isPrefixOf_iff_prefix, List.prefix_iff_eq_take, hY]
  constructor
  · rintro ⟨_, h⟩
    exact (eq_of_beq h).symm
  · intro h
    refine ⟨?_, by rw [← h]; exact beq_self_eq_true _⟩
    have := congrArg List.length h
    rw [hY, List.length_take, List.length_drop, hL] at this
    omega
theorem repL_noAt (x y : Str) (b : List Nat) (hy : 1 ≤ y.length) : ∀ (n a : Nat), (∀ k, a ≤ k → k < a + n → ¬ StrLaws.At x y x.length k) → a + n ≤ x.length →
    repL y.cps.toList b 0 (x.cps.toList.drop a) = (x.cps.toList.drop a).take n ++ repL y.cps.toList b 0 (x.cps.toList.drop (a + n))
  | 0, a, _, _ => by simp
  | n + 1, a, h, hb => by
    have hL : x.cps.toList.length = x.length := by simp [Str.length]
    have ha : a < x.cps.toList.length := by omega
    have h1 : ¬ y.cps.toList.isPrefixOf (x.cps.toList.drop a) = true := fun e => h a (Nat.le_refl _) (by omega) ((prefix_at x y a hy).mpr e)
    have ih := repL_noAt x y b hy n (a + 1) (fun k h1 h2 => h k (by omega) (by omega)) (by omega)
    rw [List.drop_eq_getElem_cons ha] at h1 ⊢
    rw [repL_cons, if_neg h1, ih, List.take_succ_cons, List.cons_append, show a + 1 + n = a + (n + 1) by omega]
theorem repL_end (x y : Str) (b : List Nat) (hy : 1 ≤ y.length) (a : Nat) (h : ∀ k, a ≤ k → ¬ StrLaws.At x y x.length k) : repL y.cps.toList b 0 (x.cps.toList.drop a) = x.cps.toList.drop a := by
  have hL : x.cps.toList.length = x.length := by simp [Str.length]
  by_cases ha : a ≤ x.length
  · have := repL_noAt x y b hy (x.length - a) a (fun k h1 _ => h k h1) (by omega)
    rw [this, show a + (x.length - a) = x.cps.toList.length by omega, List.drop_length]
    have e : repL y.cps.toList b 0 [] = [] := rfl
    rw [e, List.append_nil]
    exact List.take_of_length_le (by rw [List.length_drop]; omega)
  · rw [List.drop_eq_nil_of_le (by omega)]; rfl
theorem join_toList (z p : Str) (r : List Str) (h : r ≠ []) : (Str.join z (p :: r)).cps.toList = p.cps.toList ++ z.cps.toList ++ (Str.join z r).cps.toList := by
  cases r with
  | nil => exact absurd rfl h
  | cons q r => show (p ++ z ++ Str.join z (q :: r)).cps.toList = _; simp [Str.cps_append]
theorem repL_chain (x y z : Str) (hy : 1 ≤ y.length) : ∀ (cuts : List Nat) (a f : Nat), StrLaws.ChainG x y x.length a cuts f → (∀ k, f ≤ k → ¬ StrLaws.At x y x.length k) →
    (Str.join z (StrLaws.partsFrom x y.length a cuts)).cps.toList = repL y.cps.toList z.cps.toList 0 (x.cps.toList.drop a)
  | [], a, f, h, hn => by
    have e : f = a := h
    subst e
    rw [repL_end x y _ hy f hn]
    show (Builtin.Str.strSub x f x.length).cps.toList = _
    rw [StrLaws.strSub_toList]
    exact List.take_of_length_le (by simp [Str.length])
  | c :: r, a, f, h, hn => by
    have hL : x.cps.toList.length = x.length := by simp [Str.length]
    have hY : y.cps.toList.length = y.length := by simp [Str.length]
    obtain ⟨h1, h2, h3, h4⟩ := h
    have hc : c + y.length ≤ x.length := h2.1
    obtain ⟨p, q, e⟩ := StrLaws.partsFrom_ne x y.length (c + y.length) r
    have ih := repL_chain x y z hy r (c + y.length) f h4 hn
    show (Str.join z (Builtin.Str.strSub x a c :: StrLaws.partsFrom x y.length (c + y.length) r)).cps.toList = _
    rw [join_toList _ _ _ (by rw [e]; exact List.cons_ne_nil _ _), ih, StrLaws.strSub_toList]
    have g := repL_noAt x y z.cps.toList hy (c - a) a (fun k k1 k2 => h3 k k1 (by omega)) (by omega)
    rw [g, show a + (c - a) = c by omega, List.append_assoc]
    congr 1
    have hp := (prefix_at x y c hy).mp h2
    have hcl : c < x.cps.toList.length := by omega
    rw [List.drop_eq_getElem_cons hcl] at hp ⊢
    rw [repL_cons, if_pos hp, repL_skip _ _ (y.cps.toList.length - 1), List.drop_drop, hY, show c + 1 + (y.length - 1) = c + y.length by omega]
theorem repl1_list (x y z : Str) (hy : 1 ≤ y.length) (hk : Builtin.Str.strKind y = 1) : (Txt.join z (Txt.split x y)).cps.toList = repL y.cps.toList z.cps.toList 0 x.cps.toList := by
  obtain ⟨f, hG, hn⟩ := StrLaws.occ_tight x y hy
  have hw := repL_chain x y z hy _ 0 f hG hn
  rw [List.drop_zero] at hw
  rw [← hw, join_eq]
  unfold Txt.split
  split
  · rename_i hc
    have hno : x.length < y.length := by
      rw [Bool.or_eq_true, decide_eq_true_eq, decide_eq_true_eq] at hc
      rcases hc with h | h
      · exact h
      · exfalso
        rw [hk] at h
        unfold Builtin.Str.strKind at h
        split at h
        · omega
        · split at h <;> omega
    have h0 : ∀ k, 0 ≤ k → ¬ StrLaws.At x y x.length k := fun k _ h => by have := h.1; omega
    have h1 := repL_end x y z.cps.toList hy 0 h0
    rw [List.drop_zero] at h1
    rw [hw, h1]
    rfl
  · split
    · rename_i he
      have e0 : Builtin.Str.occurrences x y 0 x.length (x.length + 1) = [] := List.isEmpty_iff.mp he
      rw [e0]
      show (Str.join z [x]).cps.toList = (Str.join z [Builtin.Str.strSub x 0 x.length]).cps.toList
      rw [StrLaws.sub_whole]
    · rw [StrLaws.partsBetween_eq]
end Mine
end
section
set_option Elab.async false
namespace Mine
noncomputable def enc : List (Nat × Nat) → List Nat
  | [] => []
  | (n, c) :: r => List.replicate n 92 ++ c :: enc r
noncomputable def dec : Nat → List Nat → List (Nat × Nat)
  | _, [] => []
  | n, c :: r => if c = 92 then dec (n + 1) r else (n, c) :: dec 0 r
noncomputable def Plain (ts : List (Nat × Nat)) : Prop := ∀ t ∈ ts, t.2 ≠ 92
theorem dec_run (c : Nat) (r : List Nat) (hc : c ≠ 92) : ∀ (n m : Nat), dec m (List.replicate n 92 ++ c :: r) = (m + n, c) :: dec 0 r
  | 0, m => by simp [dec, hc]
  | n + 1, m => by
    rw [List.replicate_succ, List.cons_append, dec, if_pos rfl, dec_run c r hc n (m + 1)]
    rw [show m + 1 + n = m + (n + 1) by omega]
theorem dec_enc : ∀ ts : List (Nat × Nat), Plain ts → dec 0 (enc ts) = ts
  | [], _ => rfl
  | (n, c) :: r, h => by
    rw [enc, dec_run c _ (h _ List.mem_cons_self), dec_enc r fun t ht => h t (List.mem_cons_of_mem _ ht)]
    simp
theorem enc_inj {a b : List (Nat × Nat)} (ha : Plain a) (hb : Plain b) (h : enc a = enc b) : a = b := by
  rw [← dec_enc a ha, ← dec_enc b hb, h]
theorem enc_dec (c : Nat) (hc : c ≠ 92) : ∀ (l : List Nat) (n : Nat), enc (dec n (l ++ [c])) = List.replicate n 92 ++ (l ++ [c])
  | [], n => by simp [dec, hc, enc]
  | x :: l, n => by
    by_cases hx : x = 92
    · rw [List.cons_append, dec, if_pos hx, enc_dec c hc l (n + 1), hx, List.replicate_succ']
      simp
    · rw [List.cons_append, dec, if_neg hx, enc, enc_dec c hc l 0]
      simp
theorem dec_plain : ∀ (l : List Nat) (n : Nat), Plain (dec n l)
  | [], _, _, h => nomatch h
  | c :: r, n, t, h => by
    rw [dec] at h
    split at h
    · exact dec_plain r _ t h
    · rename_i hc
      rcases List.mem_cons.mp h with rfl | h
      · exact hc
      · exact dec_plain r _ t h
theorem enc_append : ∀ (a b : List (Nat × Nat)), enc (a ++ b) = enc a ++ enc b
  | [], _ => rfl
  | (n, c) :: r, b => by simp [enc, enc_append r b]
noncomputable def stepN (quote : Bool) (n code : Nat) : Nat := if code = 66 then (n + 1) / 2 else if quote then n - 1 else n
noncomputable def runN (quote : Bool) (row : List Nat) (n : Nat) : Nat := row.foldl (stepN quote) n
noncomputable def runT (row : List Nat) (t : Nat × Nat) : Nat × Nat := (runN (t.2 == 34) row t.1, t.2)
noncomputable def tN (row : List Nat) (t : Nat) : Nat := row.foldl (fun t code => if code = 66 then t / 2 else t + 1) t
noncomputable def bN (row : List Nat) : Nat := row.countP (· == 66)
theorem halve0 (X : Nat) : (2 * X + 1) / 2 = X := by omega
theorem halve : ∀ X t : Nat, (2 * X - t + 1) / 2 = X - t / 2
  | X, 0 => halve0 X
  | 0, t + 1 => by rw [Nat.mul_zero, Nat.zero_sub, Nat.zero_sub]
  | X + 1, 1 => Nat.mul_div_cancel_left (X + 1) Nat.two_pos
  | X + 1, t + 2 => by
    rw [Nat.add_div_right t Nat.two_pos, Nat.add_sub_add_right, ← halve X t, Nat.mul_succ, Nat.add_sub_add_right]
theorem run_quote (M : Nat) : ∀ (row : List Nat) (r t : Nat), bN row ≤ r → runN true row (2 ^ r * M - t) = 2 ^ (r - bN row) * M - tN row t
  | [], r, t, _ => by simp [runN, bN, tN]
  | c :: row, r, t, h => by
    by_cases hc : c = 66
    · have hb : bN (c :: row) = bN row + 1 := by simp [bN, hc]
      have e : runN true (c :: row) (2 ^ r * M - t) = runN true row ((2 ^ r * M - t + 1) / 2) := by simp [runN, stepN, hc]
      have e2 : tN (c :: row) t = tN row (t / 2) := by simp [tN, hc]
      rw [hb] at h
      obtain ⟨q, rfl⟩ : ∃ q, r = q + 1 := ⟨r - 1, (Nat.sub_add_cancel (Nat.le_trans (Nat.le_add_left 1 _) h)).symm⟩
      have e3 : (2 ^ (q + 1) * M - t + 1) / 2 = 2 ^ q * M - t / 2 := by
        have : 2 ^ (q + 1) * M = 2 * (2 ^ q * M) := by rw [Nat.pow_succ]; simp only [Nat.mul_comm, Nat.mul_left_comm]
        rw [this]
        exact halve _ t
      rw [e, e2, e3, run_quote M row q (t / 2) (Nat.le_of_succ_le_succ h), hb, Nat.add_sub_add_right]
    · have hb : bN (c :: row) = bN row := by simp [bN, hc]
      have e : runN true (c :: row) (2 ^ r * M - t) = runN true row (2 ^ r * M - (t + 1)) := by simp [runN, stepN, hc, Nat.sub_sub]
      have e2 : tN (c :: row) t = tN row (t + 1) := by simp [tN, hc]
      rw [e, e2, run_quote M row r (t + 1) (hb ▸ h), hb]
theorem run_other (M : Nat) : ∀ (row : List Nat) (r : Nat), bN row ≤ r → runN false row (2 ^ r * M) = 2 ^ (r - bN row) * M
  | [], r, _ => by simp [runN, bN]
  | c :: row, r, h => by
    by_cases hc : c = 66
    · have hb : bN (c :: row) = bN row + 1 := by simp [bN, hc]
      have e : runN false (c :: row) (2 ^ r * M) = runN false row ((2 ^ r * M + 1) / 2) := by simp [runN, stepN, hc]
      rw [hb] at h
      obtain ⟨q, rfl⟩ : ∃ q, r = q + 1 := ⟨r - 1, (Nat.sub_add_cancel (Nat.le_trans (Nat.le_add_left 1 _) h)).symm⟩
      have e3 : (2 ^ (q + 1) * M + 1) / 2 = 2 ^ q * M := by
        have : 2 ^ (q + 1) * M = 2 * (2 ^ q * M) := by rw [Nat.pow_succ]; simp only [Nat.mul_comm, Nat.mul_left_comm]
        rw [this]
        exact halve0 _
      rw [e, e3, run_other M row q (Nat.le_of_succ_le_succ h), hb, Nat.add_sub_add_right]
    · have hb : bN (c :: row) = bN row := by simp [bN, hc]
      have e : runN false (c :: row) (2 ^ r * M) = runN false row (2 ^ r * M) := by simp [runN, stepN, hc]
      rw [e, run_other M row r (hb ▸ h), hb]
theorem run_pow : ∀ (row : List Nat) (r : Nat), runN false row (2 ^ r) = 2 ^ (r - bN row)
  | [], r => by simp [runN, bN]
  | c :: row, r => by
    by_cases hc : c = 66
    · have hb : bN (c :: row) = bN row + 1 := by simp [bN, hc]
      have e : runN false (c :: row) (2 ^ r) = runN false row ((2 ^ r + 1) / 2) := by simp [runN, stepN, hc]
      have e3 : (2 ^ r + 1) / 2 = 2 ^ (r - 1) := by
        cases r with
        | zero => rfl
        | succ q => rw [Nat.pow_succ, Nat.add_sub_cancel, Nat.mul_comm]; exact halve0 _
      rw [e, e3, run_pow row (r - 1), hb, show r - 1 - bN row = r - (bN row + 1) from (Nat.sub_sub r 1 _).trans (by rw [Nat.add_comm])]
    · have hb : bN (c :: row) = bN row := by simp [bN, hc]
      have e : runN false (c :: row) (2 ^ r) = runN false row (2 ^ r) := by simp [runN, stepN, hc]
      rw [e, run_pow row r, hb]
theorem run_mono (q : Bool) : ∀ (row : List Nat) (n m : Nat), n ≤ m → runN q row n ≤ runN q row m
  | [], _, _, h => h
  | c :: row, n, m, h => by
    show runN q row (stepN q n c) ≤ runN q row (stepN q m c)
    refine run_mono q row _ _ ?_
    unfold stepN
    split
    · omega
    · split <;> omega
noncomputable def lineT (t : Nat × Nat × Nat) : Nat × Nat := (2 ^ t.1 * t.2.1 + (if t.2.2 = 34 then 2 ^ t.1 - 1 else 0), t.2.2)
noncomputable def bareT (t : Nat × Nat × Nat) : Nat × Nat := t.2
noncomputable def Deep (d : Nat) (P : List (Nat × Nat × Nat)) : Prop := ∀ t ∈ P, t.1 ≤ d ∧ (t.1 = d ∨ t.2.1 = 0)
noncomputable def goesN (row : List Nat) (d : Nat) : Bool := decide (bN row = d) && decide (tN row 1 = 1)
theorem good_tok {row : List Nat} {d : Nat} (hg : goesN row d = true) (t : Nat × Nat × Nat) (h : t.1 ≤ d ∧ (t.1 = d ∨ t.2.1 = 0)) : runT row (lineT t) = bareT t := by
  obtain ⟨k, n, c⟩ := t
  unfold goesN at hg
  rw [Bool.and_eq_true, decide_eq_true_eq, decide_eq_true_eq] at hg
  obtain ⟨hb, ht⟩ := hg
  have h1 : k ≤ d := h.1
  have h2 : k = d ∨ n = 0 := h.2
  show (runN (c == 34) row (2 ^ k * n + if c = 34 then 2 ^ k - 1 else 0), c) = (n, c)
  have hp : 1 ≤ 2 ^ k := Nat.one_le_two_pow
  by_cases hc : c = 34
  · have e : (c == 34) = true := by simp [hc]
    rw [if_pos hc, e]
    have key : ∀ n, runN true row (2 ^ d * (n + 1) - 1) = n := fun n => by
      rw [run_quote (n + 1) row d 1 (Nat.le_of_eq hb), hb, ht]
      simp
    rcases h2 with rfl | rfl
    · have := key n
      rw [Nat.mul_add, Nat.mul_one] at this
      rw [← Nat.add_sub_assoc hp, this]
    · have h3 := key 0
      have h4 : 2 ^ k ≤ 2 ^ d := Nat.pow_le_pow_right (by decide) h1
      have h5 := run_mono true row (2 ^ k * 0 + (2 ^ k - 1)) (2 ^ d * (0 + 1) - 1) (by rw [Nat.mul_zero, Nat.zero_add, Nat.zero_add, Nat.mul_one]; exact Nat.sub_le_sub_right h4 1)
      rw [h3] at h5
      rw [Nat.le_zero.mp h5]
  · have e : (c == 34) = false := by simp [hc]
    rw [if_neg hc, e, Nat.add_zero]
    rcases h2 with rfl | rfl
    · rw [run_other n row k (Nat.le_of_eq hb), hb]; simp
    · have := run_other 0 row d (Nat.le_of_eq hb)
      rw [Nat.mul_zero, Nat.mul_zero] at this
      rw [Nat.mul_zero, this]
theorem good_iff {row : List Nat} {d : Nat} {P : List (Nat × Nat × Nat)} (hP : Deep d P) (ha : (d, 2, 97) ∈ P) (hq : ∃ m, 3 ≤ m ∧ (d, m, 34) ∈ P) : (P.map lineT).map (runT row) = P.map bareT ↔ goesN row d = true := by
  rw [List.map_map]
  constructor
  · intro h
    have hh : ∀ t ∈ P, runT row (lineT t) = bareT t := fun t ht => List.map_inj_left.mp h t ht
    have h1 := hh _ ha
    have h2 : runN false row (2 ^ d * 2 + 0) = 2 := congrArg Prod.fst h1
    rw [Nat.add_zero, ← Nat.pow_succ, run_pow] at h2
    have hb : bN row = d := by
      have h3 : (2 : Nat) ^ (d + 1 - bN row) = 2 ^ 1 := h2
      have := (Nat.pow_right_inj (by decide : 1 < 2)).mp h3
      clear h hh h1 h2 h3 hq ha hP
      omega
    obtain ⟨m, hm, hmem⟩ := hq
    have h4 := hh _ hmem
    have h5 : runN true row (2 ^ d * m + (2 ^ d - 1)) = m := congrArg Prod.fst h4
    have hp : 1 ≤ 2 ^ d := Nat.one_le_two_pow
    rw [← Nat.add_sub_assoc hp, ← Nat.mul_succ, run_quote (m + 1) row d 1 (Nat.le_of_eq hb), hb] at h5
    simp at h5
    unfold goesN
    rw [Bool.and_eq_true, decide_eq_true_eq, decide_eq_true_eq]
    exact ⟨hb, by omega⟩
  · intro hg
    exact List.map_congr_left fun t ht => good_tok hg t (hP t ht)
end Mine
end
section
open PySem PySem.W PySem.Calls PyProof.Rows
set_option Elab.async false
set_option maxRecDepth 100000
set_option maxHeartbeats 8000000
namespace Mine
theorem anew_CReplace : True := by
  w_top off
  exact True.intro
noncomputable def okPair (ab : Str × Str) : Prop := ab.1.length ≠ 0 ∧ ab.2.length ≤ ab.1.length ∧ ab.1.length ≤ 1000
structure RSt where
  x : Str
  t : Tok
  D : Addr
  ps : List (Str × Str)
  vals : List Value
theorem peek1_tup {α : Type} {K : Frag} {S : Setting} {f : Value → Sem α} {vals : List Value} (h : vals.length ≤ 12) : peek1 K S (newTuple vals >>= f) = some ({ cls := .type "tuple", data := .seq vals.toArray }, fun D => peek K S (f (.ref D))) := by
  have e : ¬ vals.toArray.size > sizeLine := by rw [List.size_toArray, sizeLine_eq]; omega
  unfold newTuple newObj
  dsimp only
  rw [if_neg e]
  rfl
theorem strs_inv {vs : List Value} {x : Str} {xs : List Str} (h : StrsAre vs (x :: xs)) : ∃ t r, vs = .str x t :: r ∧ StrsAre r xs := by
  cases h with | cons _ t h => exact ⟨t, _, rfl, h⟩
theorem strs_nil {vs : List Value} (h : StrsAre vs []) : vs = [] := by cases h; rfl
theorem c_replace {w : World} {p : Program} {loose : List Str} {mean : ExcName → Option Value} {mg mb : Str → Option Value} {news : List (Addr × Obj)} (x : Str) (t : Tok) (vals : List Value) (ps : List (Str × Str)) (hlen : vals.length ≤ 12) (hv : StrsAre vals (flat2 ps)) (hok : ∀ ab ∈ ps, okPair ab) (hx : x.length ≤ 1000) :
   Ct w p loose mean mg mb 202 (.str x t :: vals) 4 20 news (fun v n => n = news ∧ ∃ t', v = .str (replAll x ps) t') := by
  unfold Ct; k_fill
  intro dp un gd cn nm ig ic mr a ccd cl outer A₀ base h₀ L m s Q E B F X N T hd hu hret
  refine wpAny_call ?_
  with_unfolding_all refine' kp_rest (g₁ := fun D => some [(Str.ofString "text", Value.str x t), (Str.ofString "pairs", Value.ref D)]) ?k1 ?k2 ?k3 ?k4 ?k5 ?kA ?kF ?kK ?k6 ?k7 ?k8 ?kV ?kP ?kG ?kB ?_ ?c2 ?c3 ?c4 ?c5
  case kA => exact rfl
  case kF => exact rfl
  case kK => exact rfl
  case k1 => k_asm
  case k2 => k_asm
  case k3 => k_asm
  case k4 => k_asm
  case k5 => k_asm
  case k6 => k_is
  case k7 => k_is
  case k8 => ktr_room
  case kV => exact rfl
  case kP =>
    clear hv hret hok
    cases vals <;> with_unfolding_all exact peek1_tup (f := fun v => pure [(Str.ofString "text", Value.str x t), (Str.ofString "pairs", v)]) hlen
  case kG => exact fun _ => rfl
  case kB => exact fun _ => locs rfl
  case c5 => decide
  case c2 => exact rfl
  case c3 => exact rfl
  case c4 => exact rfl
  intro D' g' L' h' l1 FG' F' N' B' X' T'
  (try k_lt l1); (try dsimp only); (try k_lift B'); (try k_fold)
  refine wpAny_execs_cons ?_
  with_unfolding_all refine' ksw_while (fun c : RSt => (c.D, tupObj c.vals) :: news) (fun c => [(Str.ofString "text", .str c.x c.t), (Str.ofString "pairs", .ref c.D)]) (fun c => StrsAre c.vals (flat2 c.ps) ∧ c.vals.length ≤ 12 ∧ (∀ ab ∈ c.ps, okPair ab) ∧ c.x.length ≤ 1000) [] (fun c => replAll c.x c.ps = replAll x ps) (fun c => c.ps.length) ⟨x, t, D', ps, vals⟩ F' N' ⟨hv, hlen, hok, hx⟩ ?hk rfl ?turn
  case hk =>
    intro q hq
    rcases List.mem_cons.mp hq with rfl | hq
    · rfl
    · rcases List.mem_cons.mp hq with rfl | hq
      · rfl
      · cases hq
  case turn =>
    rintro ⟨x1, t1, D1, ps1, vals1⟩ u h tk hc hP F1 N1
    have hv1 := hc.1
    have hl1 := hc.2.1
    have hok1 := hc.2.2.1
    have hx1 := hc.2.2.2
    clear hc
    dsimp only at hv1 hl1 hok1 hx1 hP F1 N1
    cases ps1 with
    | nil =>
      have e := strs_nil hv1
      subst e
      clear hv1
      repeat' (first | (k_unfold; (try dsimp only)) | (k_end; kc_close) | ((with_reducible show wpAny _ _ (subscriptTail (Expr.Name ..) (Expr.Slice ..) (Value.ref ..) (Value.ref ..)) _ _ _); with_reducible (k_here; (with_unfolding_all refine slice_tuple_from (a := 2) (items := List.toArray _) (by k_asm) (by k_asm) (News.isTup (by k_asm) (by k_mem)) (by decide) (by simp only [List.size_toArray, List.length_cons]; omega) ?_ (by with_unfolding_all rfl) (by intro _; with_unfolding_all rfl) (by simp only [List.size_toArray]; rw [sizeLine_eq]; omega)); intro q9h' q9F' q9N')) | ((with_reducible show wpAny _ _ (call (Value.builtin "str.join") [Value.str _ _, Value.ref _]) _ _ _); (refine SC.join (News.isList (by k_asm) (by k_mem)) (by assumption) (joinOk_split _ _ _ (by first | assumption | exact Nat.le_refl _) (by first | omega | ((try simp only [Str.length] at *); (show _ + 1 ≤ _); omega))) ?_; intro _ _)) | ((with_reducible show wpAny _ _ (call (Value.builtin "str.split") [Value.str _ _, Value.str _ _]) _ _ _); with_reducible (refine KSpl.split1 (by k_asm) (by k_asm) (by first | decide | (simp only [beq_eq_false_iff_ne]; assumption)) ?_ (by rw [sizeLine_eq]; omega); intro q9D' q9l' q9h' q9k' q9e' q9a' q9F' q9N' q9l1; (try k_lt q9l1))) | ((with_reducible show wpAny _ _ (execs (_ :: _) _) _ _ _); with_reducible (k_here; k_gentoks)) | ((with_reducible show wpAny _ _ (truthy (Value.ref _)) _ _ _); with_reducible (k_here; (try dsimp only); (with_reducible show wpAny _ _ (truthy (Value.ref _)) _ _ _); (k_dflt (refine' truthy_tuple (items := List.toArray _) (by exact News.isTup (by k_asm) (by k_mem)) (by simp only [List.size_toArray]; omega) ?_)); (try simp only [List.isEmpty_toArray, List.isEmpty_cons, List.isEmpty_nil, Bool.not_false, Bool.not_true]))) | ((with_reducible show Back ..); (k_here; first | refine Back.next (by with_reducible assumption) ?_ | refine Back.other (by with_reducible assumption) (fun h => Flow.noConfusion h) ?_)) | ((with_reducible show wpAny _ _ (subscriptTail _ _ _ _) _ _ _); with_reducible (k_here; (try dsimp only); (with_reducible show wpAny _ _ (subscriptTail _ _ (Value.ref _) (Value.int 1 _)) _ _ _); k_dflt (refine item_tup1 (News.isTup (by k_asm) (by k_mem)) ?_ (by with_unfolding_all rfl)))) | ((with_reducible show wpAny _ _ (subscriptTail _ _ _ _) _ _ _); with_reducible (k_here; (try dsimp only); (with_reducible show wpAny _ _ (subscriptTail _ _ (Value.ref _) (Value.int 0 _)) _ _ _); k_dflt (refine item_tup0 (News.isTup (by k_asm) (by k_mem)) ?_ (by with_unfolding_all rfl)))) | walk1 | (dsimp only; walk1) | (leave1; (try dsimp only)))
      exact hret _ _ _ _ ⟨rfl, t1, congrArg (fun z => Value.str z t1) hP⟩ (by assumption) (cb_drop (by assumption) fun q hq => List.mem_cons_of_mem _ hq)
    | cons ab ps1 =>
      have hab := hok1 ab List.mem_cons_self
      have hab1 : ab.1.length ≠ 0 := hab.1
      have hab2 : ab.2.length ≤ ab.1.length := hab.2.1
      have hab3 : ab.1.length ≤ 1000 := hab.2.2
      refine park1 vals1 ?_; intro K hK
      obtain ⟨ta, _, rfl, hv2⟩ := strs_inv (x := ab.1) (xs := ab.2 :: flat2 ps1) hv1
      clear hv1
      obtain ⟨tb, vs1, rfl, hv1⟩ := strs_inv hv2
      refine hK _ ?_; clear hK K hv2
      repeat' (first | (k_unfold; (try dsimp only)) | (k_end; kc_close) | ((with_reducible show wpAny _ _ (subscriptTail (Expr.Name ..) (Expr.Slice ..) (Value.ref ..) (Value.ref ..)) _ _ _); with_reducible (k_here; (with_unfolding_all refine slice_tuple_from (a := 2) (items := List.toArray _) (by k_asm) (by k_asm) (News.isTup (by k_asm) (by k_mem)) (by decide) (by simp only [List.size_toArray, List.length_cons]; omega) ?_ (by with_unfolding_all rfl) (by intro _; with_unfolding_all rfl) (by simp only [List.size_toArray]; rw [sizeLine_eq]; omega)); intro q9h' q9F' q9N')) | ((with_reducible show wpAny _ _ (call (Value.builtin "str.join") [Value.str _ _, Value.ref _]) _ _ _); (refine SC.join (News.isList (by k_asm) (by k_mem)) (by assumption) (joinOk_split _ _ _ (by first | assumption | exact Nat.le_refl _) (by first | omega | ((try simp only [Str.length] at *); (show _ + 1 ≤ _); omega))) ?_; intro _ _)) | ((with_reducible show wpAny _ _ (call (Value.builtin "str.split") [Value.str _ _, Value.str _ _]) _ _ _); with_reducible (refine KSpl.split1 (by k_asm) (by k_asm) (by first | decide | (simp only [beq_eq_false_iff_ne]; assumption)) ?_ (by rw [sizeLine_eq]; omega); intro q9D' q9l' q9h' q9k' q9e' q9a' q9F' q9N' q9l1; (try k_lt q9l1))) | ((with_reducible show wpAny _ _ (execs (_ :: _) _) _ _ _); with_reducible (k_here; k_gentoks)) | ((with_reducible show wpAny _ _ (truthy (Value.ref _)) _ _ _); with_reducible (k_here; (try dsimp only); (with_reducible show wpAny _ _ (truthy (Value.ref _)) _ _ _); (k_dflt (refine' truthy_tuple (items := List.toArray _) (by exact News.isTup (by k_asm) (by k_mem)) (by simp only [List.size_toArray]; omega) ?_)); (try simp only [List.isEmpty_toArray, List.isEmpty_cons, List.isEmpty_nil, Bool.not_false, Bool.not_true]))) | ((with_reducible show Back ..); (k_here; first | refine Back.next (by with_reducible assumption) ?_ | refine Back.other (by with_reducible assumption) (fun h => Flow.noConfusion h) ?_)) | ((with_reducible show wpAny _ _ (subscriptTail _ _ _ _) _ _ _); with_reducible (k_here; (try dsimp only); (with_reducible show wpAny _ _ (subscriptTail _ _ (Value.ref _) (Value.int 1 _)) _ _ _); k_dflt (refine item_tup1 (News.isTup (by k_asm) (by k_mem)) ?_ (by with_unfolding_all rfl)))) | ((with_reducible show wpAny _ _ (subscriptTail _ _ _ _) _ _ _); with_reducible (k_here; (try dsimp only); (with_reducible show wpAny _ _ (subscriptTail _ _ (Value.ref _) (Value.int 0 _)) _ _ _); k_dflt (refine item_tup0 (News.isTup (by k_asm) (by k_mem)) ?_ (by with_unfolding_all rfl)))) | walk1 | (dsimp only; walk1) | (leave1; (try dsimp only)))
      rename Fr g' L' _ _ => F9
      rename News g' L' _ _ => N9
      exact ksw_end ⟨repl1 x1 ab, _, _, ps1, vs1⟩ F9 N9
        (List.forall_mem_cons.mpr ⟨List.mem_cons_self, fun q hq => List.mem_cons_of_mem _ (List.mem_cons_of_mem _ (List.mem_cons_of_mem _ hq))⟩)
        ⟨hv1, by simp only [List.length_cons] at hl1 ⊢; omega, fun ab hm => hok1 ab (List.mem_cons_of_mem _ hm), Nat.le_trans (repl1_len _ _ hab2) hx1⟩
        (List.forall_mem_cons.mpr ⟨rfl, List.forall_mem_cons.mpr ⟨rfl, fun q hq => nomatch hq⟩⟩) (by
          intro z h2 _
          have e1 : z ≠ Str.ofString "text" := h2 _ List.mem_cons_self
          have e2 : z ≠ Str.ofString "pairs" := h2 _ (List.mem_cons_of_mem _ List.mem_cons_self)
          show (if z = _ then _ else if z = _ then _ else kstB _ _ z) = _
          rw [if_neg e2, if_neg e1]
          simp [kstB, e1, e2]) hP (Nat.lt_succ_self _)
end Mine
end
section
open PySem PySem.W PySem.Calls PyProof.Rows
set_option Elab.async false
set_option maxRecDepth 100000
set_option maxHeartbeats 8000000
namespace Mine
theorem anew_CFmt : True := by
  w_top off
  exact True.intro
theorem pos_toks {α : Type} {M : Model} {A : Around} {t : Sem α} {Q : α → Shared → Prop} {E : Value → Shared → Prop} {s : Shared} (h0 : 0 < s.toks) (h : ∀ k, 0 < k → wpAny M A t Q E { s with toks := k }) : wpAny M A t Q E s := h s.toks h0
noncomputable def escF (v : Str) : Str := Txt.replace (Txt.replace v (Str.ofString "\\") (Str.ofString "\\\\")) (Str.ofString "\"") (Str.ofString "\\\"")
noncomputable def fmtF (x v : Str) : Str := Str.empty ++ x ++ Str.ofString "=\"" ++ escF v ++ Str.ofString "\""
theorem replace_one_len (x z : Str) (c : Nat) : (Txt.replace x ⟨#[c]⟩ z).length ≤ x.length + x.length * z.length := by
  rw [StrLaws.replace_one]
  have h1 := join_len z _ (split_ne x ⟨#[c]⟩)
  have h2 := split_sum x ⟨#[c]⟩
  have h3 : (⟨#[c]⟩ : Str).length = 1 := rfl
  rw [h3, Nat.mul_one] at h2
  have h4 : 1 ≤ (Txt.split x ⟨#[c]⟩).length := List.length_pos_iff.mpr (split_ne x ⟨#[c]⟩)
  obtain ⟨k, hk⟩ : ∃ k, (Txt.split x ⟨#[c]⟩).length = k + 1 := ⟨_, (Nat.sub_add_cancel h4).symm⟩
  rw [hk] at h1 h2
  have h5 : k ≤ x.length := by omega
  have h6 : k * z.length ≤ x.length * z.length := Nat.mul_le_mul_right _ h5
  rw [Nat.succ_mul] at h1
  omega
theorem lenA (v : Str) : (Txt.replace v (Str.ofString "\\") (Str.ofString "\\\\")).length ≤ 3 * v.length := by
  rw [show Str.ofString "\\" = ⟨#[92]⟩ from by decide +kernel]
  have := replace_one_len v (Str.ofString "\\\\") 92
  rw [show (Str.ofString "\\\\").length = 2 from by decide +kernel] at this
  omega
theorem lenB (v : Str) : (Txt.replace v (Str.ofString "\"") (Str.ofString "\\\"")).length ≤ 3 * v.length := by
  rw [show Str.ofString "\"" = ⟨#[34]⟩ from by decide +kernel]
  have := replace_one_len v (Str.ofString "\\\"") 34
  rw [show (Str.ofString "\\\"").length = 2 from by decide +kernel] at this
  omega
theorem c_fmt {w : World} {p : Program} {loose : List Str} {mean : ExcName → Option Value} {mg mb : Str → Option Value} {news : List (Addr × Obj)} (x v : Str) (tx tv : Tok) (h0 : v.length ≠ 0) (hx : x.length ≤ 100) (hv : v.length ≤ 1000) :
   Ct w p loose mean mg mb 61 [.str x tx, .str v tv] 4 20 news (fun r n => n = news ∧ ∃ t, r = .str (fmtF x v) t) := by
  unfold Ct; k_fill
  intro dp un gd cn nm ig ic mr a ccd cl outer A₀ base h₀ L m s Q E B F X N T hd hu hret
  ((refine wpAny_call ?_; k_dflt (refine' code_def (by k_asm) (by k_asm) (by k_asm) (by k_asm) (by k_asm) (by exact rfl) (by exact rfl) (by exact rfl) (by k_is) (by k_is) (by ktr_room) (by first | exact BindsTo.of_eq rfl | exact binds_K (by k_in) rfl (by k_is) rfl rfl rfl) (by exact locs rfl) ?_ (by exact rfl) (by exact rfl) (by exact rfl) (by decide); k_whole; intro q9g' q9L' q9h' q9FG' q9F' q9N' q9B' q9X' q9T'; (try dsimp only); (try k_lift q9B'); (try k_fold))))
  have hA := lenA v
  have hB := lenB (Txt.replace v (Str.ofString "\\") (Str.ofString "\\\\"))
  repeat' (first | (k_unfold; (try dsimp only)) | (k_end; kc_close) | ((with_reducible show wpAny _ _ (call (Value.builtin "str.replace") [Value.str _ _, Value.str _ _, Value.str _ _]) _ _ _); with_reducible (refine my_replace (by first | omega | (dsimp only at *; omega)) (by first | omega | (dsimp only at *; omega)) (by first | omega | (dsimp only at *; omega)) (by decide +kernel) (by first | omega | (simp only [show (Str.ofString "\\\\").length = 2 from by decide +kernel, show (Str.ofString "\\\"").length = 2 from by decide +kernel]; omega)) ?_; intro _ _ _)) | ((with_reducible show wpAny _ _ (execs (_ :: _) _) _ _ _); with_reducible (k_here; refine pos_toks (by first | exact Nat.succ_pos _ | exact Nat.add_pos_right _ (by decide) | assumption) ?_; intro q9kT q9hT; refine execs_cons_H ?_; intro q9K q9hK q9hK2)) | ((with_reducible show wpAny _ _ (execs (_ :: _) _) _ _ _); with_reducible (k_here; k_gentoks)) | ((with_reducible show wpAny _ _ (execs (_ :: _) _) _ _ _); with_reducible (k_here; refine execs_cons_H ?_; intro q9K q9hK q9hK2)) | ((with_reducible show Back ..); (k_here; first | refine Back.next (by with_reducible assumption) ?_ | refine Back.other (by with_reducible assumption) (fun h => Flow.noConfusion h) ?_)) | walk1 | (dsimp only; walk1) | (leave1; (try dsimp only)))
  exact hret _ _ _ _ ⟨rfl, _, rfl⟩ (by assumption) (by assumption)
theorem c_fmt0 {w : World} {p : Program} {loose : List Str} {mean : ExcName → Option Value} {mg mb : Str → Option Value} {news : List (Addr × Obj)} (x v : Str) (tx tv : Tok) (h0 : v.length = 0) :
   Ct w p loose mean mg mb 61 [.str x tx, .str v tv] 4 20 news (fun r n => n = news ∧ ∃ t, r = .str x t) := by
  unfold Ct; k_fill
  intro dp un gd cn nm ig ic mr a ccd cl outer A₀ base h₀ L m s Q E B F X N T hd hu hret
  ((refine wpAny_call ?_; k_dflt (refine' code_def (by k_asm) (by k_asm) (by k_asm) (by k_asm) (by k_asm) (by exact rfl) (by exact rfl) (by exact rfl) (by k_is) (by k_is) (by ktr_room) (by first | exact BindsTo.of_eq rfl | exact binds_K (by k_in) rfl (by k_is) rfl rfl rfl) (by exact locs rfl) ?_ (by exact rfl) (by exact rfl) (by exact rfl) (by decide); k_whole; intro q9g' q9L' q9h' q9FG' q9F' q9N' q9B' q9X' q9T'; (try dsimp only); (try k_lift q9B'); (try k_fold))))
  repeat' (first | (k_unfold; (try dsimp only)) | (k_end; kc_close) | ((with_reducible show wpAny _ _ (call (Value.builtin "str.replace") [Value.str _ _, Value.str _ _, Value.str _ _]) _ _ _); with_reducible (refine my_replace (by first | omega | (dsimp only at *; omega)) (by first | omega | (dsimp only at *; omega)) (by first | omega | (dsimp only at *; omega)) (by decide +kernel) (by first | omega | (simp only [show (Str.ofString "\\\\").length = 2 from by decide +kernel, show (Str.ofString "\\\"").length = 2 from by decide +kernel]; omega)) ?_; intro _ _ _)) | ((with_reducible show wpAny _ _ (execs (_ :: _) _) _ _ _); with_reducible (k_here; refine pos_toks (by first | exact Nat.succ_pos _ | exact Nat.add_pos_right _ (by decide) | assumption) ?_; intro q9kT q9hT; refine execs_cons_H ?_; intro q9K q9hK q9hK2)) | ((with_reducible show wpAny _ _ (execs (_ :: _) _) _ _ _); with_reducible (k_here; k_gentoks)) | ((with_reducible show wpAny _ _ (execs (_ :: _) _) _ _ _); with_reducible (k_here; refine execs_cons_H ?_; intro q9K q9hK q9hK2)) | ((with_reducible show Back ..); (k_here; first | refine Back.next (by with_reducible assumption) ?_ | refine Back.other (by with_reducible assumption) (fun h => Flow.noConfusion h) ?_)) | walk1 | (dsimp only; walk1) | (leave1; (try dsimp only)))
  exact hret _ _ _ _ ⟨rfl, _, rfl⟩ (by assumption) (by assumption)
theorem app_len (a b : Str) : (a ++ b).length = a.length + b.length := Array.size_append ..
theorem fmtF_len (x v : Str) : (fmtF x v).length ≤ x.length + 9 * v.length + 3 := by
  have hA := lenA v
  have hB := lenB (Txt.replace v (Str.ofString "\\") (Str.ofString "\\\\"))
  have h0 : Str.empty.length = 0 := rfl
  have h1 : (Str.ofString "=\"").length = 2 := by decide +kernel
  have h2 : (Str.ofString "\"").length = 1 := by decide +kernel
  simp only [fmtF, escF, app_len]
  omega
theorem k1_name : Txt.replace (Str.ofString "k_1") (Str.ofString "_") (Str.ofString "-") = Str.ofString "k-1" := by decide +kernel
end Mine
end
section
open PySem PySem.W PySem.Calls PyProof.Rows
set_option Elab.async false
set_option maxRecDepth 100000
set_option maxHeartbeats 8000000
namespace Mine
theorem anew_CSplit : True := by
  w_top off
  exact True.intro
noncomputable def sdF (x : Str) : Str × Str :=
  match Txt.split (Txt.strip x) (Str.ofString "\n") with
  | [a] => (a, Str.ofString "")
  | a :: b :: r => if (Txt.rstrip b).length = 0 then (a, Txt.join (Str.ofString "\n") r) else (Str.ofString "", Txt.join (Str.ofString "\n") (a :: b :: r))
  | [] => (Str.ofString "", Str.ofString "")
theorem split_mem_len {x y z : Str} (h : z ∈ Txt.split x y) : z.length ≤ x.length := by
  have h1 := split_sum x y
  have h4 : 1 ≤ (Txt.split x y).length := List.length_pos_iff.mpr (split_ne x y)
  have h2 : z.length ≤ ((Txt.split x y).map (·.length)).sum := by
    generalize Txt.split x y = l at h
    induction l with
    | nil => cases h
    | cons a r ih =>
      simp only [List.map_cons, List.sum_cons]
      rcases List.mem_cons.mp h with rfl | h
      · omega
      · have := ih h; omega
  obtain ⟨k, hk⟩ : ∃ k, (Txt.split x y).length = k + 1 := ⟨_, (Nat.sub_add_cancel h4).symm⟩
  rw [hk, Nat.succ_mul] at h1
  omega
theorem split_item_len {x y z : Str} {l : List (Str × Tok)} {i : Nat} (e : l.map (fun p => p.1) = Txt.split x y) (h : (l.map (fun p => p.1))[i]? = some z) : z.length ≤ x.length :=
  split_mem_len (y := y) (e ▸ List.mem_of_getElem? h)
theorem pick2 (l : List (Str × Tok)) : slicePick (strValues l).toArray (some 2) none none = (strValues (l.drop 2)).toArray := by
  rw [kms_pick_eq]
  congr 1
  show ((strValues l).drop (min (2 : Int).toNat (strValues l).length)).take ((strValues l).length - min (2 : Int).toNat (strValues l).length) = strValues (l.drop 2)
  have e : (2 : Int).toNat = 2 := rfl
  rw [e]
  have h : (strValues (l.drop 2)) = (strValues l).drop 2 := by unfold strValues; rw [List.map_drop]
  rw [h]
  have h2 : (strValues l).drop (min 2 (strValues l).length) = (strValues l).drop 2 := by
    rcases Nat.le_total 2 (strValues l).length with h3 | h3
    · rw [Nat.min_eq_left h3]
    · rw [Nat.min_eq_right h3, List.drop_of_length_le (Nat.le_refl _), List.drop_of_length_le h3]
  rw [h2]
  exact List.take_of_length_le (by rw [List.length_drop]; omega)
theorem sum_drop (k : Nat) : ∀ l : List Str, ((l.drop k).map (·.length)).sum ≤ (l.map (·.length)).sum := by
  induction k with
  | zero => intro l; exact Nat.le_refl _
  | succ k ih =>
    intro l
    cases l with
    | nil => simp
    | cons a r => have := ih r; simp only [List.drop_succ_cons, List.map_cons, List.sum_cons]; omega
theorem joinOk_drop (x y : Str) (k : Nat) (hx : x.length + y.length ≤ 16777216) : JoinOk y ((Txt.split x y).drop k) = true := by
  refine joinOk_of _ _ ?_
  have h2 := split_sum x y
  have h3 := sum_drop k (Txt.split x y)
  have h4 : ((Txt.split x y).drop k).length * y.length ≤ (Txt.split x y).length * y.length := Nat.mul_le_mul_right _ (by rw [List.length_drop]; omega)
  omega
theorem join_drop2 {prog : Program} {w : World} {A : Around} {E : Value → Shared → Prop} {s : Shared} {h₀ : Heap} {L : Addr} {news : List (Addr × Obj)} {D : Addr} {l : List (Str × Tok)} {x y : Str} {t : Tok} {Q : Value → Shared → Prop}
    (N : News h₀ L s.heap news) (hm : (D, ({ cls := .type "list", data := .seq (slicePick (strValues l).toArray (some 2) none none) } : Obj)) ∈ news) (e : l.map (fun p => p.1) = Txt.split x y) (hx : x.length + y.length ≤ 16777216)
    (h : ∀ t' k, Q (.str (Txt.join y ((Txt.split x y).drop 2)) t') { s with toks := k }) : wpAny (model prog w) A (call (.builtin "str.join") [.str y t, .ref D]) Q E s := by
  refine SC.join (l := l.drop 2) ?_ (by rw [← e, List.map_drop]) (joinOk_drop x y 2 hx) h
  rw [← pick2]
  exact News.isList N hm
section
variable {x a b : Str} {l : List (Str × Tok)}
theorem sd1 (e : l.map (fun p => p.1) = Txt.split (Txt.strip x) (Str.ofString "\n")) (h1 : (l.length : Int) = 1) (hy : (l.map (fun p => p.1))[Int.toNat 0]? = some a) : sdF x = (a, Str.ofString "") := by
  unfold sdF
  rw [← e]
  rcases l with _ | ⟨⟨c, t⟩, _ | ⟨d, r⟩⟩
  · cases hy
  · simp at hy; subst hy; rfl
  · simp only [List.length_cons] at h1; omega
theorem sd2 (e : l.map (fun p => p.1) = Txt.split (Txt.strip x) (Str.ofString "\n")) (h1 : 2 ≤ (l.length : Int)) (hy : (l.map (fun p => p.1))[Int.toNat 1]? = some a) (hz : ((Txt.rstrip a).length : Int) ≠ 0) :
    sdF x = (Str.ofString "", Txt.join (Str.ofString "\n") (Txt.split (Txt.strip x) (Str.ofString "\n"))) := by
  unfold sdF
  rw [← e]
  rcases l with _ | ⟨⟨c, t⟩, _ | ⟨⟨d, u⟩, r⟩⟩
  · cases hy
  · simp only [List.length_cons, List.length_nil] at h1; omega
  · have : d = a := by simpa using hy
    subst this
    simp only [List.map_cons]
    rw [if_neg (by omega)]
theorem sd3 (e : l.map (fun p => p.1) = Txt.split (Txt.strip x) (Str.ofString "\n")) (h1 : 2 ≤ (l.length : Int)) (hy : (l.map (fun p => p.1))[Int.toNat 1]? = some a) (hz : ((Txt.rstrip a).length : Int) = 0) (h0 : (l.map (fun p => p.1))[Int.toNat 0]? = some b) :
    sdF x = (b, Txt.join (Str.ofString "\n") ((Txt.split (Txt.strip x) (Str.ofString "\n")).drop 2)) := by
  unfold sdF
  rw [← e]
  rcases l with _ | ⟨⟨c, t⟩, _ | ⟨⟨d, u⟩, r⟩⟩
  · cases hy
  · simp only [List.length_cons, List.length_nil] at h1; omega
  · have e1 : d = a := by simpa using hy
    have e2 : c = b := by simpa using h0
    subst e1; subst e2
    simp only [List.map_cons]
    rw [if_pos (by omega)]
    rfl
theorem sd0 (e : l.map (fun p => p.1) = Txt.split (Txt.strip x) (Str.ofString "\n")) (h1 : (l.length : Int) ≠ 1) (h2 : ¬ (2 : Int) ≤ (l.length : Int)) : False := by
  have h := split_ne (Txt.strip x) (Str.ofString "\n")
  rw [← e] at h
  cases l with
  | nil => exact h rfl
  | cons a r => simp only [List.length_cons] at h1 h2; omega
end
theorem sd_end {x a b : Str} {ta tb : Tok} {h₀ h' : Heap} {L : Addr} {m : Str → Option Value} {s : Shared} {Q : Value → Shared → Prop} {D : Addr} {news all : List (Addr × Obj)} {tk' : Nat}
    (hret : ∀ (v : Value) (h' : Heap) (tk' : Nat) (news' : List (Addr × Obj)), (∃ D ta tb, v = .ref D ∧ news' = (D, tupObj [.str (sdF x).1 ta, .str (sdF x).2 tb]) :: news ∧ ∀ q ∈ news, q.1 < D) → Fr h₀ L h' m → News h₀ L h' news' → Q v { s with heap := h', toks := tk' })
    (e : sdF x = (a, b)) (F : Fr h₀ L h' m) (N : News h₀ L h' ((D, tupObj [.str a ta, .str b tb]) :: all)) (hs : ∀ q ∈ news, q ∈ all) (hl : ∀ q ∈ news, q.1 < D) : Q (.ref D) { s with heap := h', toks := tk' } := by
  refine hret _ _ _ _ ⟨D, ta, tb, rfl, rfl, hl⟩ F ?_
  rw [e]
  exact cb_drop N fun q hq => by
    rcases List.mem_cons.mp hq with rfl | hq
    · exact List.mem_cons_self
    · exact List.mem_cons_of_mem _ (hs q hq)
theorem c_splitdoc {w : World} {p : Program} {loose : List Str} {mean : ExcName → Option Value} {mg mb : Str → Option Value} {news : List (Addr × Obj)} (x : Str) (t : Tok) (hx : x.length ≤ 10000) :
   Ct w p loose mean mg mb 195 [.str x t] 4 20 news (fun v n => ∃ D ta tb, v = .ref D ∧ n = (D, tupObj [.str (sdF x).1 ta, .str (sdF x).2 tb]) :: news ∧ ∀ q ∈ news, q.1 < D) := by
  unfold Ct; k_fill
  intro dp un gd cn nm ig ic mr a ccd cl outer A₀ base h₀ L m s Q E B F X N T hd hu hret
  ((refine wpAny_call ?_; k_dflt (refine' code_def ?k1 ?k2 ?k3 ?k4 ?k5 ?kA ?kF ?kK ?k6 ?k7 ?k8 ?k9 ?kB ?_ ?c2 ?c3 ?c4 ?c5; (case kA => exact rfl); (case kF => exact rfl); (case kK => exact rfl); (case k1 => k_asm); (case k2 => k_asm); (case k3 => k_asm); (case k4 => k_asm); (case k5 => k_asm); (case k6 => k_is); (case k7 => k_is); (case k8 => ktr_room); (case k9 => first | exact BindsTo.of_eq rfl | exact binds_K (by k_in) rfl (by k_is) rfl rfl rfl); (case c5 => decide); (case kB => exact locs rfl); (case c2 => exact rfl); (case c3 => exact rfl); (case c4 => exact rfl); k_whole; intro g' L' h' FG' F' N' B' X' T'; (try dsimp only); (try k_lift B'); (try k_fold))))
  repeat' (first | (k_unfold; (try dsimp only)) | (k_end; kc_close) | ((with_reducible show wpAny _ _ (call (Value.builtin "str.join") [Value.str _ _, Value.ref _]) _ _ _); ((refine join_drop2 (by k_asm) (by k_mem) (by assumption) (by (show _ + 1 ≤ _); omega) ?_); intro _ _)) | ((with_reducible show wpAny _ _ (call (Value.builtin "str.join") [Value.str _ _, Value.ref _]) _ _ _); (refine SC.join (News.isList (by k_asm) (by k_mem)) (by assumption) (joinOk_split _ _ _ (by first | assumption | exact Nat.le_refl _) (by first | omega | ((try simp only [Str.length] at *); (show _ + 1 ≤ _); omega))) ?_; intro _ _)) | ((with_reducible show wpAny _ _ (call (Value.builtin "str.rstrip") [Value.str _ _]) _ _ _); with_reducible ((rename (List.map _ _ = Txt.split _ _) => q9hL9); (rename (_[Int.toNat 1]? = some _) => q9hI9); (have q9hS9 := split_item_len q9hL9 q9hI9); refine SC.rstrip ?_ (by rw [sizeLine_eq]; omega); intro _ _)) | ((with_reducible show wpAny _ _ (call (Value.builtin "str.split") [Value.str _ _, Value.str _ _]) _ _ _); with_reducible (refine KSpl.split1 (by k_asm) (by k_asm) (by first | decide | (simp only [beq_eq_false_iff_ne]; assumption)) ?_ (by rw [sizeLine_eq]; omega); intro q9D' q9l' q9h' q9k' q9e' q9a' q9F' q9N' q9l1; (try k_lt q9l1))) | ((with_reducible show wpAny _ _ (execs (_ :: _) _) _ _ _); with_reducible (k_here; k_gentoks)) | ((with_reducible show wpAny _ _ (execs (_ :: _) _) _ _ _); with_reducible (k_here; refine execs_cons_H ?_; intro q9K q9hK q9hK2)) | ((with_reducible show Back ..); (k_here; first | refine Back.next (by with_reducible assumption) ?_ | refine Back.other (by with_reducible assumption) (fun h => Flow.noConfusion h) ?_)) | walk1 | (dsimp only; walk1) | (leave1; (try dsimp only)))
  · rename _ ∧ AllLt _ news => hlt
    rename List.map _ _ = _ => he
    rename Fr h₀ L _ m => kF; rename News h₀ L _ _ => kN
    exact sd_end hret (sd1 he (by assumption) (by assumption)) kF kN (fun q hq => List.mem_cons_of_mem _ hq) (allLt_mem hlt.2)
  · rename _ ∧ AllLt _ news => hlt
    rename List.map _ _ = _ => he
    rename Fr h₀ L _ m => kF; rename News h₀ L _ _ => kN
    exact sd_end hret (sd2 he (by assumption) (by assumption) (by assumption)) kF kN (fun q hq => List.mem_cons_of_mem _ hq) (allLt_mem hlt.2)
  · rename _ ∧ _ ∧ AllLt _ news => hlt
    rename List.map _ _ = _ => he
    rename Fr h₀ L _ m => kF; rename News h₀ L _ _ => kN
    rename _[Int.toNat 1]? = some _ => hi1
    rename _[Int.toNat 0]? = some _ => hi0
    exact sd_end hret (sd3 he (by assumption) hi1 (by assumption) hi0) kF kN (fun q hq => List.mem_cons_of_mem _ (List.mem_cons_of_mem _ hq)) (allLt_mem hlt.2.2)
  · rename List.map _ _ = _ => he
    exact (sd0 he (by assumption) (by omega)).elim
end Mine
end
section
open PySem PySem.W PySem.Calls PyProof.Rows
set_option Elab.async false
set_option maxRecDepth 100000
set_option maxHeartbeats 8000000
namespace Mine
theorem anew_CPairs : True := by
  w_top off
  exact True.intro
noncomputable def pairOf (c : Nat) : Str × Str := if c = 66 then (Str.ofString "\\\\", Str.ofString "\\") else (Str.ofString "\\\"", Str.ofString "\"")
noncomputable def pairsOf (row : Str) : List (Str × Str) := row.cps.toList.map pairOf
theorem pairs_take {row : Str} {i c : Nat} (hc : row.cps[i]? = some c) : flat2 ((pairsOf row).take (i + 1)) = flat2 ((pairsOf row).take i) ++ [(pairOf c).1, (pairOf c).2] := by
  have hc' : row.cps.toList[i]? = some c := by simpa using hc
  unfold pairsOf
  rw [List.take_add_one, List.getElem?_map, hc']
  generalize (List.map pairOf row.cps.toList).take i = l
  induction l with
  | nil => rfl
  | cons p r ih =>
    obtain ⟨a, b⟩ := p
    show a :: b :: flat2 (r ++ _) = a :: b :: (flat2 r ++ _)
    rw [ih]
theorem flat2_len : ∀ l : List (Str × Str), (flat2 l).length = 2 * l.length
  | [] => rfl
  | (_, _) :: r => by
    show (flat2 r).length + 1 + 1 = 2 * (r.length + 1)
    rw [flat2_len r]; omega
theorem sign_B {c : Nat} : (({ cps := #[c] } : Str) == Str.ofString "B") = true ↔ c = 66 := by
  rw [beq_iff_eq, show Str.ofString "B" = { cps := #[66] } from by decide +kernel]
  constructor
  · intro h; injection h with h; simpa using h
  · rintro rfl; rfl
theorem c_pairs {w : World} {p : Program} {loose : List Str} {mean : ExcName → Option Value} {mg mb : Str → Option Value} {news : List (Addr × Obj)} (row : Str) (t : Tok) (hx : row.length ≤ 10) :
   Ct w p loose mean mg mb 233 [.str row t] 4 20 news (fun v n => ∃ D vals, v = .ref D ∧ n = (D, LCg.lst vals) :: news ∧ StrsAre vals (flat2 (pairsOf row)) ∧ ∀ q ∈ news, q.1 ≠ D) := by
  unfold Ct; k_fill
  intro dp un gd cn nm ig ic mr a ccd cl outer A₀ base h₀ L m s Q E B F X N T hd hu hret
  ((refine wpAny_call ?_; k_dflt (refine' code_def ?k1 ?k2 ?k3 ?k4 ?k5 ?kA ?kF ?kK ?k6 ?k7 ?k8 ?k9 ?kB ?_ ?c2 ?c3 ?c4 ?c5; (case kA => exact rfl); (case kF => exact rfl); (case kK => exact rfl); (case k1 => k_asm); (case k2 => k_asm); (case k3 => k_asm); (case k4 => k_asm); (case k5 => k_asm); (case k6 => k_is); (case k7 => k_is); (case k8 => ktr_room); (case k9 => first | exact BindsTo.of_eq rfl | exact binds_K (by k_in) rfl (by k_is) rfl rfl rfl); (case c5 => decide); (case kB => exact locs rfl); (case c2 => exact rfl); (case c3 => exact rfl); (case c4 => exact rfl); k_whole; intro g' L' h' FG' F' N' B' X' T'; (try dsimp only); (try k_lift B'); (try k_fold))))
  refine wpAny_execs_cons ?_
  refine wpAny_Return_some ?_
  k_dflt refine ListComp_two (F₀ := by k_asm) (by with_unfolding_all rfl) (by decide) (by rfl) (by decide) (by rfl) (by rfl) (by decide) (fun _ _ => rfl) ?_
  refine ld (by assumption) rfl ?_
  rename Fr _ _ _ _ => F1
  refine ⟨news, [], row.cps.size, SignAt row, fun i ys => StrsAre ys (flat2 ((pairsOf row).take i)), rfl, F1, by assumption, inSrc_str rfl, (fun _ h => nomatch h), .nil, ?len, ?turn, ?fin⟩
  case len =>
    intro i ys hi hy
    have h1 := hy.length
    rw [h1, flat2_len, List.length_take]
    have : (pairsOf row).length = row.cps.size := by simp [pairsOf]
    have h2 : row.cps.size ≤ 10 := hx
    omega
  case fin =>
    intro ys D h tk hy F9 N9 oD
    have e : (pairsOf row).take row.cps.size = pairsOf row := List.take_of_length_le (by simp [pairsOf])
    rw [e] at hy
    k_steps
    refine hret _ _ _ _ ⟨D, ys, rfl, rfl, hy, oD⟩ (by assumption) (by assumption)
  case turn =>
    rintro s₂ ⟨g, rfl⟩
    intro i v I oI C oC D m₂ ys h tk E' hi hP hA hC hx9 F2 N2 ne off
    obtain ⟨c, u, hc, rfl⟩ := hP
    k_steps
    · rename (_ == _) = true => hb
      rename Fr _ _ _ _ => F9; rename News _ _ _ _ => N9; rename _ ∧ _ ∧ _ ∧ AllLt _ _ => l9
      exact outPost_two rfl rfl rfl (by decide) F9 N9 ⟨l9.1, l9.2.1, l9.2.2.1⟩ hA (fun zs hz => by rw [pairs_take hc, pairOf, if_pos (sign_B.mp hb)]; exact hz)
    · rename (_ == _) = false => hb
      rename Fr _ _ _ _ => F9; rename News _ _ _ _ => N9; rename _ ∧ _ ∧ _ ∧ AllLt _ _ => l9
      exact outPost_two rfl rfl rfl (by decide) F9 N9 ⟨l9.1, l9.2.1, l9.2.2.1⟩ hA (fun zs hz => by rw [pairs_take hc, pairOf, if_neg (fun e => by rw [sign_B.mpr e] at hb; cases hb)]; exact hz)
end Mine
end
section
open PySem PySem.W PySem.Calls PyProof.Rows
set_option Elab.async false
set_option maxRecDepth 100000
set_option maxHeartbeats 8000000
namespace Mine
theorem anew_CConv : True := by
  w_top off
  exact True.intro
noncomputable def goodV (v : Str) : Prop := ∀ i, i < v.cps.size → badV (v.cps.getD i 0) = false
noncomputable def goodN (v : Str) : Prop := ∀ i, i < v.cps.size → badN (v.cps.getD i 0) = false
noncomputable def hasBadV (v : Str) : Prop := ∃ i, i < v.cps.size ∧ badV (v.cps.getD i 0) = true
noncomputable def hasBadN (v : Str) : Prop := ∃ i, i < v.cps.size ∧ badN (v.cps.getD i 0) = true
theorem not_both {b : Bool} (h1 : b = true) (h2 : b = false) : False := by rw [h1] at h2; cases h2
section
variable {w : World} {A : Around} {E : Value → Shared → Prop} {s : Shared} {h₀ : Heap} {L : Addr} {m : Str → Option Value} {news : List (Addr × Obj)} {v : Str} {t : Tok} {Q : Value → Shared → Prop}
theorem pat_V (X : (hd.heap_39 w.params).In s.heap) : s.TypeIs (.ref 53) "re.Pattern" := ⟨_, X 53 _ rfl, rfl⟩
theorem pat_N (X : (hd.heap_39 w.params).In s.heap) : s.TypeIs (.ref 48) "re.Pattern" := ⟨_, X 48 _ rfl, rfl⟩
theorem meth_V {pl : Sem Bool} {Q : Value × List Value → Shared → Prop} (X : (hd.heap_39 w.params).In s.heap) (h : Q (.builtin "re.Pattern.search", [.ref 53]) s) : wpAny (model prog0 w) A (getMethod (.ref 53) (Str.ofString "search") pl) Q E s :=
  getMethod_builtin (pat_V X) attrs_pattern slot_search type_search (fun a e => by cases e; exact ⟨_, X 53 _ rfl, rfl⟩) h
theorem meth_N {pl : Sem Bool} {Q : Value × List Value → Shared → Prop} (X : (hd.heap_39 w.params).In s.heap) (h : Q (.builtin "re.Pattern.search", [.ref 48]) s) : wpAny (model prog0 w) A (getMethod (.ref 48) (Str.ofString "search") pl) Q E s :=
  getMethod_builtin (pat_N X) attrs_pattern slot_search type_search (fun a e => by cases e; exact ⟨_, X 48 _ rfl, rfl⟩) h
theorem sV_ok (X : (hd.heap_39 w.params).In s.heap) (hv : v.length ≤ 1000) (hg : goodV v) (F : Fr h₀ L s.heap m) (N : News h₀ L s.heap news) (h : Q .none s) : wpAny (model prog0 w) A (call (.builtin "re.Pattern.search") [.ref 53, .str v t]) Q E s :=
  search_gen X hv (pat_V X) target_V (search_V v.cps) F N (fun _ => h) (fun ⟨i, hi, hb⟩ => (not_both hb (hg i hi)).elim)
theorem sN_ok (X : (hd.heap_39 w.params).In s.heap) (hv : v.length ≤ 1000) (hg : goodN v) (F : Fr h₀ L s.heap m) (N : News h₀ L s.heap news) (h : Q .none s) : wpAny (model prog0 w) A (call (.builtin "re.Pattern.search") [.ref 48, .str v t]) Q E s :=
  search_gen X hv (pat_N X) target_N (search_N v.cps) F N (fun _ => h) (fun ⟨i, hi, hb⟩ => (not_both hb (hg i hi)).elim)
theorem sV_bad (X : (hd.heap_39 w.params).In s.heap) (hv : v.length ≤ 1000) (hg : hasBadV v) (F : Fr h₀ L s.heap m) (N : News h₀ L s.heap news)
    (h : ∀ a o h', o.cls = .type "re.Match" → o.dict = none → Fr h₀ L h' m → News h₀ L h' ((a, o) :: news) → (∀ q ∈ news, q.1 < a) → Q (.ref a) { s with heap := h' }) : wpAny (model prog0 w) A (call (.builtin "re.Pattern.search") [.ref 53, .str v t]) Q E s :=
  search_gen X hv (pat_V X) target_V (search_V v.cps) F N (fun hb => by obtain ⟨i, hi, hx⟩ := hg; exact (not_both hx (hb i hi)).elim) (fun _ => h)
theorem sN_bad (X : (hd.heap_39 w.params).In s.heap) (hv : v.length ≤ 1000) (hg : hasBadN v) (F : Fr h₀ L s.heap m) (N : News h₀ L s.heap news)
    (h : ∀ a o h', o.cls = .type "re.Match" → o.dict = none → Fr h₀ L h' m → News h₀ L h' ((a, o) :: news) → (∀ q ∈ news, q.1 < a) → Q (.ref a) { s with heap := h' }) : wpAny (model prog0 w) A (call (.builtin "re.Pattern.search") [.ref 48, .str v t]) Q E s :=
  search_gen X hv (pat_N X) target_N (search_N v.cps) F N (fun hb => by obtain ⟨i, hi, hx⟩ := hg; exact (not_both hx (hb i hi)).elim) (fun _ => h)
end
theorem c_convV {w : World} {p : Program} {loose : List Str} {mean : ExcName → Option Value} {mg mb : Str → Option Value} {news : List (Addr × Obj)} (x : Addr) (v : Str) (tv : Tok) (hv : v.length ≤ 1000) (hg : goodV v) :
   CtK w p loose mean mg mb 83 [.ref x, .str v tv] [(Str.ofString "name", .bool false)] 4 20 news (fun r n => n = news ∧ r = .str v tv) := by
  unfold CtK; k_fill
  intro dp un gd cn nm ig ic mr a ccd cl outer A₀ base h₀ L m s Q E B F X N T hd hu hret
  ((refine wpAny_call ?_; k_dflt (refine' code_def (by k_asm) (by k_asm) (by k_asm) (by k_asm) (by k_asm) (by exact rfl) (by exact rfl) (by exact rfl) (by k_is) (by k_is) (by ktr_room) (by first | exact BindsTo.of_eq rfl | exact binds_K (by k_in) rfl (by k_is) rfl rfl rfl) (by exact locs rfl) ?_ (by exact rfl) (by exact rfl) (by exact rfl) (by decide); k_whole; intro q9g' q9L' q9h' q9FG' q9F' q9N' q9B' q9X' q9T'; (try dsimp only); (try k_lift q9B'); (try k_fold))))
  repeat' (first | (k_unfold; (try dsimp only)) | (k_end; kc_close) | ((with_reducible show wpAny _ _ (call (Value.builtin "re.Pattern.search") _ _) _ _ _); with_reducible (k_here; first | ((with_reducible show wpAny _ _ (call _ [Value.ref 53, Value.str _ _]) _ _ _); first | refine sV_ok (by k_in) (by first | omega | decide +kernel) (by assumption) (by k_asm) (by k_asm) ?_ | (refine sV_bad (by k_in) (by first | omega | decide +kernel) (by assumption) (by k_asm) (by k_asm) ?_; intro q9a' q9o' q9h' q9hc' q9hd' q9F' q9N' q9l')) | ((with_reducible show wpAny _ _ (call _ [Value.ref 48, Value.str _ _]) _ _ _); first | refine sN_ok (by k_in) (by first | omega | decide +kernel) (by assumption) (by k_asm) (by k_asm) ?_ | (refine sN_bad (by k_in) (by first | omega | decide +kernel) (by assumption) (by k_asm) (by k_asm) ?_; intro q9a' q9o' q9h' q9hc' q9hd' q9F' q9N' q9l')))) | ((with_reducible show wpAny _ _ (execs (_ :: _) _) _ _ _); with_reducible (k_here; k_gentoks)) | ((with_reducible show wpAny _ _ (execs (_ :: _) _) _ _ _); with_reducible (k_here; refine execs_cons_H ?_; intro q9K q9hK q9hK2)) | ((with_reducible show wpAny _ _ (getMethod (Value.ref _) _ _) _ _ _); with_reducible (k_here; (try dsimp only); (with_reducible show wpAny _ _ (getMethod (Value.ref 48) (Str.ofString "search") _) _ _ _); refine meth_N (by k_in) ?_)) | ((with_reducible show wpAny _ _ (getMethod (Value.ref _) _ _) _ _ _); with_reducible (k_here; (try dsimp only); (with_reducible show wpAny _ _ (getMethod (Value.ref 53) (Str.ofString "search") _) _ _ _); refine meth_V (by k_in) ?_)) | ((with_reducible show Back ..); (k_here; first | refine Back.next (by with_reducible assumption) ?_ | refine Back.other (by with_reducible assumption) (fun h => Flow.noConfusion h) ?_)) | walk1 | (dsimp only; walk1) | (leave1; (try dsimp only)))
  exact hret _ _ _ _ ⟨rfl, rfl⟩ (by assumption) (by assumption)
theorem c_convN {w : World} {p : Program} {loose : List Str} {mean : ExcName → Option Value} {mg mb : Str → Option Value} {news : List (Addr × Obj)} (x : Addr) (v : Str) (tv : Tok) (hv : v.length ≤ 1000) (hg : goodN v) :
   CtK w p loose mean mg mb 83 [.ref x, .str v tv] [(Str.ofString "name", .bool true)] 4 20 news (fun r n => n = news ∧ r = .str v tv) := by
  unfold CtK; k_fill
  intro dp un gd cn nm ig ic mr a ccd cl outer A₀ base h₀ L m s Q E B F X N T hd hu hret
  ((refine wpAny_call ?_; k_dflt (refine' code_def (by k_asm) (by k_asm) (by k_asm) (by k_asm) (by k_asm) (by exact rfl) (by exact rfl) (by exact rfl) (by k_is) (by k_is) (by ktr_room) (by first | exact BindsTo.of_eq rfl | exact binds_K (by k_in) rfl (by k_is) rfl rfl rfl) (by exact locs rfl) ?_ (by exact rfl) (by exact rfl) (by exact rfl) (by decide); k_whole; intro q9g' q9L' q9h' q9FG' q9F' q9N' q9B' q9X' q9T'; (try dsimp only); (try k_lift q9B'); (try k_fold))))
  repeat' (first | (k_unfold; (try dsimp only)) | (k_end; kc_close) | ((with_reducible show wpAny _ _ (call (Value.builtin "re.Pattern.search") _ _) _ _ _); with_reducible (k_here; first | ((with_reducible show wpAny _ _ (call _ [Value.ref 53, Value.str _ _]) _ _ _); first | refine sV_ok (by k_in) (by first | omega | decide +kernel) (by assumption) (by k_asm) (by k_asm) ?_ | (refine sV_bad (by k_in) (by first | omega | decide +kernel) (by assumption) (by k_asm) (by k_asm) ?_; intro q9a' q9o' q9h' q9hc' q9hd' q9F' q9N' q9l')) | ((with_reducible show wpAny _ _ (call _ [Value.ref 48, Value.str _ _]) _ _ _); first | refine sN_ok (by k_in) (by first | omega | decide +kernel) (by assumption) (by k_asm) (by k_asm) ?_ | (refine sN_bad (by k_in) (by first | omega | decide +kernel) (by assumption) (by k_asm) (by k_asm) ?_; intro q9a' q9o' q9h' q9hc' q9hd' q9F' q9N' q9l')))) | ((with_reducible show wpAny _ _ (execs (_ :: _) _) _ _ _); with_reducible (k_here; k_gentoks)) | ((with_reducible show wpAny _ _ (execs (_ :: _) _) _ _ _); with_reducible (k_here; refine execs_cons_H ?_; intro q9K q9hK q9hK2)) | ((with_reducible show wpAny _ _ (getMethod (Value.ref _) _ _) _ _ _); with_reducible (k_here; (try dsimp only); (with_reducible show wpAny _ _ (getMethod (Value.ref 48) (Str.ofString "search") _) _ _ _); refine meth_N (by k_in) ?_)) | ((with_reducible show wpAny _ _ (getMethod (Value.ref _) _ _) _ _ _); with_reducible (k_here; (try dsimp only); (with_reducible show wpAny _ _ (getMethod (Value.ref 53) (Str.ofString "search") _) _ _ _); refine meth_V (by k_in) ?_)) | ((with_reducible show Back ..); (k_here; first | refine Back.next (by with_reducible assumption) ?_ | refine Back.other (by with_reducible assumption) (fun h => Flow.noConfusion h) ?_)) | walk1 | (dsimp only; walk1) | (leave1; (try dsimp only)))
  exact hret _ _ _ _ ⟨rfl, rfl⟩ (by assumption) (by assumption)
end Mine
end
section
open PySem PySem.W PySem.Calls PyProof.Rows
set_option Elab.async false
set_option maxRecDepth 100000
set_option maxHeartbeats 8000000
namespace Mine
theorem anew_CHead : True := by
  w_top off
  exact True.intro
theorem c_headers {w : World} {p : Program} {loose : List Str} {mean : ExcName → Option Value} {mg mb : Str → Option Value} {news : List (Addr × Obj)} :
   Ct w p loose mean mg mb 184 [] 6 30 news (fun r n => ∃ x d l hs tk k, r = .ref x ∧ n = (x, instObj 184 d) :: (d, dictOf [⟨hs, .str (Str.ofString "_headers") tk, .ref l⟩] k) :: (l, listOf #[] 0) :: news ∧ d < x ∧ x < l ∧ ∀ q ∈ news, q.1 < d) := by
  unfold Ct; k_fill
  intro dp un gd cn nm ig ic mr a ccd cl outer A₀ base h₀ L m s Q E B F X N T hd hu hret
  repeat' (first | (k_unfold; (try dsimp only)) | (k_end; kc_close) | ((with_reducible show wpAny _ _ (exec (Stmt.For (Expr.Tuple ..) (Expr.Name ..) (_ :: _) [] ..) _) _ _ _); with_reducible (k_here; k_dflt (refine for_empty rfl (by k_asm) (by k_asm) (by k_mem) (fun Q' hq => ld (by k_asm) rfl hq) ?_ (by intro _; rfl)); intro q9h' q9tk' q9F' q9N')) | ((with_reducible show wpAny _ _ (execs (_ :: _) _) _ _ _); with_reducible (k_here; k_gentoks)) | ((with_reducible show wpAny _ _ (execs (_ :: _) _) _ _ _); with_reducible (k_here; refine execs_cons_H ?_; intro q9K q9hK q9hK2)) | ((with_reducible show Back ..); (k_here; first | refine Back.next (by with_reducible assumption) ?_ | refine Back.other (by with_reducible assumption) (fun h => Flow.noConfusion h) ?_)) | walk1 | (dsimp only; walk1) | (leave1; (try dsimp only)))
  rename ∀ p ∈ news, p.1 < _ => hl1
  rename _ ∧ _ ∧ AllLt _ news => hl2
  rename @LT.lt Nat _ _ _ => hl3
  rename Fr h₀ L _ m => kF; rename News h₀ L _ _ => kN
  exact hret _ _ _ _ ⟨_, _, _, _, _, _, rfl, rfl, hl3, hl2.1, hl1⟩ kF (news_rot kN)
end Mine
end
section
open PySem PySem.W PySem.Calls PyProof.Rows
set_option Elab.async false
set_option maxRecDepth 100000
set_option maxHeartbeats 4000000
namespace Mine
theorem anew_CatchX : True := by
  w_top off
  exact True.intro
noncomputable abbrev CtL (w : World) (p : Program) (loose : List Str) (mean : ExcName → Option Value) (mg mb : Str → Option Value) (f : Addr) (vs : List Value) (nd nu : Nat) (news : List (Addr × Obj)) (R : Value → List (Addr × Obj) → Prop) : Prop :=
  ∀ (dp un : Nat) (gd : Option (List Code)) (cn : Str) (nm : List (Str × NameKind)) (ig ic : Bool) (mr : List (Str × Const)) (a : Addr) (ccd : Value) (cl : List (Str × Addr)) (A₀ : Around) (h₀ : Heap) (L : Addr) (m : Str → Option Value) (s : Shared) (Q E : Value → Shared → Prop),
    Below A₀ h₀ [] h₀ → Fr h₀ L s.heap m → (hd.heap_39 w.params).In h₀ → News h₀ L s.heap news → Top p loose mean mg mb h₀ →
    dp + nd < recursionLimit → un + nu < cLine →
    (∀ v h' tk' news', R v news' → Fr h₀ L h' m → News h₀ L h' news' → Q v { s with heap := h', toks := tk' }) →
    wpAny (model Challenge.rw_pm0051_01.row.prog w) (ktrTop dp un gd cn { kind := .function, names := nm, isGenerator := ig, isCoroutine := ic, more := mr } L a ccd cl []) (call (.ref f) vs) Q E s
noncomputable abbrev CtP (w : World) (p : Program) (loose : List Str) (mean : ExcName → Option Value) (mg mb : Str → Option Value) (f : Addr) (vs : List Value) (nd nu : Nat) (news : List (Addr × Obj)) (R : Value → List (Addr × Obj) → Prop) : Prop :=
  ∀ (dp un : Nat) (gd : Option (List Code)) (cn : Str) (nm : List (Str × NameKind)) (ig ic : Bool) (mr : List (Str × Const)) (a : Addr) (ccd : Value) (cl : List (Str × Addr)) (outer : List Env) (A₀ : Around) (base h₀ : Heap) (L : Addr) (m : Str → Option Value) (s : Shared) (Q E : Value → Shared → Prop),
    Below A₀ base outer h₀ → Fr h₀ L s.heap m → (hd.heap_39 w.params).In h₀ → News h₀ L s.heap news → Top p loose mean mg mb h₀ → CodeHd base 246 242 →
    dp + nd < recursionLimit → un + nu < cLine →
    (∀ v h' tk' news', R v news' → Fr h₀ L h' m → News h₀ L h' news' → Q v { s with heap := h', toks := tk' }) →
    wpAny (model Challenge.rw_pm0051_01.row.prog w) (ktrTop dp un gd cn { kind := .function, names := nm, isGenerator := ig, isCoroutine := ic, more := mr } L a ccd cl outer) (call (.ref f) vs) Q E s
section
variable {prog : Program} {w : World} {A₀ A : Around} {s : Shared} {base h₀ : Heap} {env : Env} {L : Addr} {m : Str → Option Value} {news : List (Addr × Obj)} {K : Frag} {p : Program} {loose : List Str} {mean : ExcName → Option Value} {mg mb : Str → Option Value}
    {R : Result → Shared → Prop} {name qual : Str} {params : Arguments} {body : List Stmt} {scope : Scope} {dV kV doc pm cdv ct oc : Value} {an od : Option Addr} {osl : Array (Option Value)} {f : Addr} {args : Args} {binds : List (Str × Value)}
theorem ktsx_mem {b : Addr} (hf : env.frame = some L) (hm : b ∈ [env].filterMap (·.frame)) : b = L := by
  obtain ⟨env', he, hb⟩ := List.mem_filterMap.mp hm
  rw [List.mem_singleton.mp he, hf] at hb
  exact (Option.some.inj hb).symm
theorem ktsx_enter {outer : List Env} (B : Below A₀ base outer h₀) (F : Fr h₀ L s.heap m) (N : News h₀ L s.heap news) (hA : A.frames = some (env :: outer)) (hf : env.frame = some L) (hck : env.scope.kind = .function) :
    ∃ oL es ep, (hideAll s.heap (news.map (·.1))).get? L = some oL ∧ oL.data = .dict es ep ∧ (∀ h', h'.get? L = some oL → Heap.Ns h' L m) ∧ (∀ (sl : Array (Option Value)) h', h'.get? L = some { oL with slots := sl } → Heap.Ns h' L m) ∧
      h₀.StaysIn (hideAll s.heap (news.map (·.1))) ∧ Below A base (env :: outer) (hideAll s.heap (news.map (·.1))) := by
  obtain ⟨_, BG, st, _⟩ := groundX (R := fun _ _ => True) B F N hA hf hck
  obtain ⟨oL, es, ep, hL, hLd, hLk, hLf⟩ := F.ns
  have nL : L ∉ news.map (·.1) := fun q => by
    obtain ⟨p, hp, e⟩ := List.mem_map.mp q
    exact (N p hp).2.1 e
  have hLg := hideAll_get (news.map (·.1)) hL nL
  exact ⟨oL, es, ep, hLg, hLd, fun h' e => ⟨oL, es, ep, e, hLd, hLk, hLf⟩, fun sl h' e => ⟨_, es, ep, e, hLd, hLk, hLf⟩, st, BG⟩
theorem code_defSX (B : Below A₀ base [] h₀) (F : Fr h₀ L s.heap m) (X₀ : K.In h₀) (N : News h₀ L s.heap news) (T : Top p loose mean mg mb h₀) (hA : A.frames = some [env]) (hf : env.frame = some L) (hck : env.scope.kind = .function)
    (ho : K.lookup f = some ⟨oc, od, .func (fnOf name qual params body scope dV kV doc pm an cdv ct), osl⟩) (hcd : codeIn K cdv qual = true) (hroom : A.depth < recursionLimit)
    (hbind : BindsTo s (fnOf name qual params body scope dV kV doc pm an cdv ct) args binds) (hloc : ∀ y ∈ binds, scope.names.lookup y.1 = some .local)
    (h : ∀ g L' h₁, Fr h₀ L g m → Fr g L' h₁ (fun y => binds.reverse.lookup y) → News g L' h₁ news → Below A base [env] g → K.In g → Top p loose mean mg mb g → KtsDicts ([env].filterMap (·.frame)) g →
      wpAny (model prog w) (A.deeper (envOf qual scope L' f cdv)) (execs body (envOf qual scope L' f cdv))
        (fun fl s' => LeaveS0 ([env].filterMap (·.frame)) h₀ L m g R (match fl with | .ret v => v | _ => .none) s')
        (fun e s' => wpAny (model prog w) (A.deeper (envOf qual scope L' f cdv)) (leaving (envOf qual scope L' f cdv) e) (fun _ s'' => R (.error e) s'') (fun e' s'' => R (.error e') s'') s')
        { s with heap := h₁, toks := s.toks + binds.length })
    (hco : scope.isCoroutine = false) (hgen : scope.isGenerator = false) (hk : scope.kind = .function)
    (hcell : ∀ x ∈ scope.names, x.2 ≠ .cell) : codeAny (model prog w) A (.call (.ref f) args) R s := by
  have X := X₀.keeps F.keep
  refine codeAny_call_def (fd := fnOf name qual params body scope dV kV doc pm an cdv ct) (body := body) (binds := binds) hroom (X _ _ ho) rfl (T.nolimit.keeps F.keep) (codeRec_of X hcd) rfl hbind hcell hloc (fun h₁ hns hk₁ => ?_) hco hgen hk
  obtain ⟨oL, es, ep, hLg, hLd, hN, hNs, st, B₂⟩ := ktsx_enter B F N hA hf hck
  refine wpAny_mono (h _ s.heap.objs.size h₁ ⟨hN _ hLg, st, F.above⟩ ⟨hns, fun b o e => hk₁ b o (of_hideAll _ e), Nat.le_of_eq (hideAll_size _ _)⟩
    (fun p hp => ⟨hk₁ _ _ (N p hp).1, Nat.ne_of_lt (Heap.lt_size (N p hp).1), hideAll_none _ (List.mem_map_of_mem hp)⟩) B₂ (X₀.keeps st) (T.keeps st) (fun b hb => by
      rw [ktsx_mem hf hb]
      exact ⟨oL, es, ep, hLg, hLd⟩)) (fun fl s' hl => ?_) fun _ _ y => y
  obtain ⟨g', L', m', news', T', F', N', k⟩ := hl
  have nL₀ : h₀.get? L = none := kts_self F
  obtain ⟨sl, hs⟩ := T'.up hLg
  refine k ⟨hNs sl _ (F'.keep _ _ hs), fun b o e => F'.keep b o (T'.other b o (st b o e) (fun q => by
    rw [ktsx_mem hf q, nL₀] at e
    cases e)), F.above⟩ fun p hp => ⟨(N' p hp).1, fun q => ?_, ?_⟩
  · have := (N' p hp).2.2; rw [q, hs] at this; cases this
  · cases q : h₀.get? p.1 with
    | none => rfl
    | some o =>
      obtain ⟨sl', hs'⟩ := T'.up (st _ _ q)
      have := (N' p hp).2.2
      rw [hs'] at this
      cases this
end
end Mine
end
section
open PySem PySem.W PySem.Calls PyProof.Rows PySem.Spec PyProof.Rows.LCg PyProof.Rows.LCt
set_option Elab.async false
set_option maxRecDepth 100000
set_option maxHeartbeats 4000000
namespace Mine
theorem anew_CompS : True := by
  w_top off
  exact True.intro
section
variable {prog : Program} {w : World} {A : Around} {E : Value → Shared → Prop} {s : Shared} {h₀ : Heap} {L : Addr} {m : Str → Option Value} {env : Env}
theorem walks_own {I : Addr} {fp : List Addr} {n : Nat} {P : Nat → Value → Prop} {St : Nat → Heap → Prop} (W : Walks prog w A I fp [I] n P St) (own : List (Addr × Obj)) (hoff : ∀ p ∈ own, p.1 ≠ I) :
    Walks prog w A I (fp ++ own.map (·.1)) [I] n P (fun i h => St i h ∧ ∀ p ∈ own, h.get? p.1 = some p.2) where
  sub := fun b hb => List.mem_append_left _ (W.sub b hb)
  frame := fun i h h' st hk => ⟨W.frame i h h' st.1 fun b hb => hk b (List.mem_append_left _ hb), fun p hp => hk p.1 (List.mem_append_right _ (List.mem_map_of_mem hp)) _ (st.2 p hp)⟩
  item := fun i s Q E hi st hQ => W.item i s Q E hi st.1 fun v h' tk hP st' hk => hQ v h' tk hP ⟨st', fun p hp => hk _ _ (by simpa using hoff p hp) (st.2 p hp)⟩ hk
  done := fun s Q E st hQ => W.done s Q E st.1 hQ
  self := fun i s Q E st hQ => W.self i s Q E st.1 hQ
noncomputable def TurnU (prog : Program) (w : World) (A : Around) (h₀ : Heap) (L : Addr) (m : Str → Option Value) (env : Env) (elt : Expr) (x : Str) (scope : Scope) (cl : List (Str × Addr)) (s : Shared) (n : Nat) (P : Nat → Value → Prop) (Acc : Nat → List Value → Prop) (news : List (Addr × Obj)) : Prop :=
  ∀ i v I oI C oC D m₂ ys h tk (E' : Value → Shared → Prop), i < n → P i v → Acc i ys → NsObj oC m₂ → m₂ x = some v → Fr h₀ L h m → News h₀ L h ((I, oI) :: (C, oC) :: (D, lst ys) :: news) → Off3 I C D news → ((@Ne Nat I C) ∧ (@Ne Nat I D) ∧ (@Ne Nat C D)) →
    wpAny (model prog w) A (eval elt (compEnvC scope cl C env)) (InPost h₀ L m s ((I, oI) :: (C, oC) :: (D, lst ys) :: news) (fun y => Acc (i + 1) (ys ++ [y]))) E' { s with heap := h, toks := tk }
noncomputable def TurnT (prog : Program) (w : World) (A : Around) (h₀ : Heap) (L : Addr) (m : Str → Option Value) (env : Env) (ct elt : Expr) (x : Str) (scope : Scope) (cl : List (Str × Addr)) (s : Shared) (n : Nat) (P : Nat → Value → Prop) (Acc : Nat → List Value → Prop) (news : List (Addr × Obj)) : Prop :=
  ∀ i v I oI C oC D m₂ ys h tk (E' : Value → Shared → Prop), i < n → P i v → Acc i ys → NsObj oC m₂ → m₂ x = some v → Fr h₀ L h m → News h₀ L h ((I, oI) :: (C, oC) :: (D, lst ys) :: news) → Off3 I C D news → ((@Ne Nat I C) ∧ (@Ne Nat I D) ∧ (@Ne Nat C D)) →
    wpAny (model prog w) A (isTrue ct (compEnvC scope cl C env) (eval ct (compEnvC scope cl C env))) (fun ok s' => if ok = true then
        wpAny (model prog w) A (eval elt (compEnvC scope cl C env)) (InPost h₀ L m s ((I, oI) :: (C, oC) :: (D, lst ys) :: news) (fun y => Acc (i + 1) (ys ++ [y]))) E' s'
        else InPost h₀ L m s ((I, oI) :: (C, oC) :: (D, lst ys) :: news) (fun _ => Acc (i + 1) ys) Value.none s') E' { s with heap := h, toks := tk }
noncomputable def GenU (prog : Program) (w : World) (A : Around) (h₀ : Heap) (L : Addr) (m : Str → Option Value) (env : Env) (elt : Expr) (x : Str) (scope : Scope) (cl : List (Str × Addr)) (Fin : Shared → List Value → List (Addr × Obj) → Prop) (xv : Value) (s₁ : Shared) : Prop :=
  ∃ own n P news Acc, A.handled = none ∧ Fr h₀ L s₁.heap m ∧ News h₀ L s₁.heap news ∧ InSrc prog w A own xv n P s₁.heap ∧ (∀ p ∈ own, p ∈ news) ∧ n ≤ sizeLine ∧ Acc 0 [] ∧
    (∀ s₂ : Shared, (∃ h, s₂ = { s₁ with heap := h }) → TurnU prog w A h₀ L m env elt x scope cl s₂ n P Acc news) ∧ ∀ s₂ : Shared, (∃ h, s₂ = { s₁ with heap := h }) → ∀ ys, Acc n ys → Fin s₂ ys news
noncomputable def GenT (prog : Program) (w : World) (A : Around) (h₀ : Heap) (L : Addr) (m : Str → Option Value) (env : Env) (ct elt : Expr) (x : Str) (scope : Scope) (cl : List (Str × Addr)) (Fin : Shared → List Value → List (Addr × Obj) → Prop) (xv : Value) (s₁ : Shared) : Prop :=
  ∃ own n P news Acc, A.handled = none ∧ Fr h₀ L s₁.heap m ∧ News h₀ L s₁.heap news ∧ InSrc prog w A own xv n P s₁.heap ∧ (∀ p ∈ own, p ∈ news) ∧ n ≤ sizeLine ∧ Acc 0 [] ∧
    (∀ s₂ : Shared, (∃ h, s₂ = { s₁ with heap := h }) → TurnT prog w A h₀ L m env ct elt x scope cl s₂ n P Acc news) ∧ ∀ s₂ : Shared, (∃ h, s₂ = { s₁ with heap := h }) → ∀ ys, Acc n ys → Fin s₂ ys news
section
variable {ct elt : Expr} {x : Str} {scope : Scope} {cl : List (Str × Addr)} {P : Nat → Value → Prop} {Acc : Nat → List Value → Prop} {Fin : List Value → List (Addr × Obj) → Prop} {news : List (Addr × Obj)} {n : Nat} {S : List (Addr × Obj) → Prop}
theorem restOfU (hS : S news) (a0 : Acc 0 []) (turn : TurnU prog w A h₀ L m env elt x scope cl s n P Acc news) (fin : ∀ ys, Acc n ys → Fin ys news) : CompRest prog w A h₀ L m env elt x scope cl s S P Fin n 0 [] news := by
  refine restU Acc a0 ?_ fin
  intro i v I oI C oC D m₂ ys h tk E' hi hP hA hC hx F N off ne
  exact wpAny_mono (turn i v I oI C oC D m₂ ys h tk E' hi hP hA hC hx F N off ne) (fun y s₃ hq => hq.toEnd off hS fun k => ⟨rfl, k⟩) fun _ _ e => e
theorem restOfT (hS : S news) (a0 : Acc 0 []) (turn : TurnT prog w A h₀ L m env ct elt x scope cl s n P Acc news) (fin : ∀ ys, Acc n ys → Fin ys news) : CompRestT prog w A h₀ L m env ct elt x scope cl s S P Fin n 0 [] news := by
  refine restT Acc a0 ?_ fin
  intro i v I oI C oC D m₂ ys h tk E' hi hP hA hC hx F N off ne
  refine wpAny_mono (turn i v I oI C oC D m₂ ys h tk E' hi hP hA hC hx F N off ne) (fun ok s₃ hq => ?_) fun _ _ e => e
  cases ok with
  | true =>
    simp only [if_true] at hq ⊢
    exact wpAny_mono hq (fun y s₄ hq => hq.toEnd off hS fun k => ⟨rfl, k⟩) fun _ _ e => e
  | false =>
    simp only [Bool.false_eq_true, if_false] at hq ⊢
    exact hq.toEnd off hS fun k => ⟨rfl, k⟩
end
theorem own_st {I : Addr} {fp : List Addr} {n : Nat} {P : Nat → Value → Prop} {St : Nat → Heap → Prop} {own : List (Addr × Obj)} (W : Walks prog w A I fp [I] n P St) (hfp : ∀ b ∈ fp, b = I ∨ ∃ o, (b, o) ∈ own) :
    ∀ i (h h' : Heap) (o : Obj) (nw : List (Addr × Obj)), (St i h ∧ ∀ p ∈ own, h.get? p.1 = some p.2) → h.get? I = some o → h'.get? I = some o → (∀ b o, h₀.get? b = some o → h'.get? b = some o) → News h₀ L h' nw → (∀ p ∈ own, p ∈ nw) → (St i h' ∧ ∀ p ∈ own, h'.get? p.1 = some p.2) :=
  fun i h h' o nw st e e' _ N hS => ⟨W.frame i h h' st.1 fun b hb o' q => by
    rcases hfp b hb with rfl | ⟨o₂, ho⟩
    · rw [e] at q; rw [e', q]
    · have g1 := st.2 _ ho
      dsimp only at g1
      rw [g1] at q; rw [← q]; exact (N _ (hS _ ho)).1, fun p hp => (N _ (hS _ hp)).1⟩
theorem own_below {fp : List Addr} {own : List (Addr × Obj)} {h : Heap} {o : Obj} {b : Addr} (hfp : ∀ b ∈ fp, b = h.objs.size ∨ ∃ o, (b, o) ∈ own) (hlt : ∀ p ∈ own, p.1 < h.objs.size) (hb : b ∈ fp ++ own.map (·.1)) : b < (h.push o).objs.size := by
  rw [Heap.size_push]
  rcases List.mem_append.mp hb with hb | hb
  · rcases hfp b hb with rfl | ⟨o₂, ho⟩
    · exact Nat.lt_succ_self _
    · exact Nat.lt_succ_of_lt (hlt _ ho)
  · obtain ⟨p, hp, rfl⟩ := List.mem_map.mp hb
    exact Nat.lt_succ_of_lt (hlt _ hp)
theorem lcs_U {elt iter : Expr} {x : Str} {px : Pos} {scope : Scope} {cl : List (Str × Addr)} {pos : Pos} {Q : Value → Shared → Prop} (_F₀ : Fr h₀ L s.heap m)
    (hclos : closureFor scope env = pure cl) (hcell : ∀ y ∈ scope.names, y.2 ≠ .cell) (hkind : scope.kind = .function)
    (hnames : ∀ y ∈ scope.names, y.2 = .local → scope.names.lookup y.1 = some .local) (hx : scope.names.lookup x = some .local)
    (h : wpAny (model prog w) A (eval iter env) (GenU prog w A h₀ L m env elt x scope cl (fun s₂ => FinE h₀ L m s₂ Q)) E s)
    (hs : ∀ x, foldedSetIterable iter env x = pure x := by intro _; rfl) :
    wpAny (model prog w) A (eval (.ListComp elt [⟨.Name x px, iter, [], 0⟩] scope pos) env) Q E s := by
  rw [eval_ListComp]
  refine wpAny_comprehension_free (use := none) rfl hs hclos hkind hnames (wpAny_mono h (fun xv s₁ h₁ => ?_) fun _ _ e => e)
  refine park2 xv s₁ ?_; intro K hK
  obtain ⟨own, n, P, news, Acc, hh, F, N, hsrc, hown, hsz, a0, turn, fin⟩ := h₁
  refine hK _ _ ?_; clear hK K
  refine hsrc _ _ _ rfl fun o fp St hfree W st hfp hIo => ?_
  have hlt : ∀ p ∈ own, p.1 < s₁.heap.objs.size := fun p hp => Heap.lt_size (N _ (hown p hp)).1
  refine block_U (walks_own W own fun p hp => Nat.ne_of_lt (hlt p hp)) hsz (fun i h st => hIo i h st.1) (own_st W hfp) hcell hkind hx ⟨st, fun p hp => Heap.get?_push_of_some _ (N _ (hown p hp)).1⟩ (fun b hb => ?_)
    (F.keeps fun _ _ e => Heap.get?_push_of_some _ e) (N.grown fun _ _ e => Heap.get?_push_of_some _ e) (Nat.ne_of_lt F.ns.lt) (next_is_new F) (fun p hp => Nat.ne_of_lt (Heap.lt_size (N p hp).1)) hown
    (restOfU hown a0 (turn _ ⟨_, rfl⟩) (fin { s₁ with heap := s₁.heap.push o } ⟨_, rfl⟩)) ?_
  · exact own_below hfp hlt hb
  · intro D C h tk m' ys news' F' N' o1 hn hC₀ hD₀ hCL hDL hCD offC fin
    refine ⟨m', hn, fun h'' hs'' => fin D h'' tk (F'.change hs'' hCL hC₀) (fun p hp => ?_) o1⟩
    exact ⟨hs''.extBut _ _ (off_cons (Ne.symm hCD) offC p hp) (N' p hp).1, (N' p hp).2⟩
theorem lcs_T {ct elt iter : Expr} {x : Str} {px : Pos} {scope : Scope} {cl : List (Str × Addr)} {pos : Pos} {Q : Value → Shared → Prop} (_F₀ : Fr h₀ L s.heap m)
    (hclos : closureFor scope env = pure cl) (hcell : ∀ y ∈ scope.names, y.2 ≠ .cell) (hkind : scope.kind = .function)
    (hnames : ∀ y ∈ scope.names, y.2 = .local → scope.names.lookup y.1 = some .local) (hx : scope.names.lookup x = some .local)
    (h : wpAny (model prog w) A (eval iter env) (GenT prog w A h₀ L m env ct elt x scope cl (fun s₂ => FinE h₀ L m s₂ Q)) E s)
    (hs : ∀ x, foldedSetIterable iter env x = pure x := by intro _; rfl) :
    wpAny (model prog w) A (eval (.ListComp elt [⟨.Name x px, iter, [ct], 0⟩] scope pos) env) Q E s := by
  rw [eval_ListComp]
  refine wpAny_comprehension_free (use := none) rfl hs hclos hkind hnames (wpAny_mono h (fun xv s₁ h₁ => ?_) fun _ _ e => e)
  refine park2 xv s₁ ?_; intro K hK
  obtain ⟨own, n, P, news, Acc, hh, F, N, hsrc, hown, hsz, a0, turn, fin⟩ := h₁
  refine hK _ _ ?_; clear hK K
  refine hsrc _ _ _ rfl fun o fp St hfree W st hfp hIo => ?_
  have hlt : ∀ p ∈ own, p.1 < s₁.heap.objs.size := fun p hp => Heap.lt_size (N _ (hown p hp)).1
  refine block_T (walks_own W own fun p hp => Nat.ne_of_lt (hlt p hp)) hsz (fun i h st => hIo i h st.1) (own_st W hfp) hcell hkind hx ⟨st, fun p hp => Heap.get?_push_of_some _ (N _ (hown p hp)).1⟩ (fun b hb => ?_)
    (F.keeps fun _ _ e => Heap.get?_push_of_some _ e) (N.grown fun _ _ e => Heap.get?_push_of_some _ e) (Nat.ne_of_lt F.ns.lt) (next_is_new F) (fun p hp => Nat.ne_of_lt (Heap.lt_size (N p hp).1)) hown
    (restOfT hown a0 (turn _ ⟨_, rfl⟩) (fin { s₁ with heap := s₁.heap.push o } ⟨_, rfl⟩)) ?_
  · exact own_below hfp hlt hb
  · intro D C h tk m' ys news' F' N' o1 hn hC₀ hD₀ hCL hDL hCD offC fin
    refine ⟨m', hn, fun h'' hs'' => fin D h'' tk (F'.change hs'' hCL hC₀) (fun p hp => ?_) o1⟩
    exact ⟨hs''.extBut _ _ (off_cons (Ne.symm hCD) offC p hp) (N' p hp).1, (N' p hp).2⟩
theorem lcs_AU {elt iter : Expr} {x y : Str} {px py : Pos} {scope : Scope} {cl : List (Str × Addr)} {pos spos : Pos} {Q : Flow → Shared → Prop} (_F₀ : Fr h₀ L s.heap m) (hLe : env.locals = L)
    (hsw : swapsWith (.ListComp elt [⟨.Name x px, iter, [], 0⟩] scope pos) (some (.Name y py)) spos.line env = pure true)
    (hclos : closureFor scope env = pure cl) (hcell : ∀ z ∈ scope.names, z.2 ≠ .cell) (hkind : scope.kind = .function)
    (hnames : ∀ z ∈ scope.names, z.2 = .local → scope.names.lookup z.1 = some .local) (hx : scope.names.lookup x = some .local)
    (hy : env.kindOf y = some .local) (hp : (env.scope.kind == .class || (env.scope.kind == .module && env.locals != env.globals)) = false)
    (h : wpAny (model prog w) A (eval iter env) (GenU prog w A h₀ L m env elt x scope cl (fun s₂ => FinA h₀ L m s₂ y Q)) E s)
    (hs : ∀ x, foldedSetIterable iter env x = pure x := by intro _; rfl) :
    wpAny (model prog w) A (exec (.Assign [.Name y py] (.ListComp elt [⟨.Name x px, iter, [], 0⟩] scope pos) spos) env) Q E s := by
  subst hLe
  rw [exec_Assign_Name_used _ _ _ _ hsw]
  refine wpAny_bind (wpAny_standAt (wpAny_bind ?_))
  show wpAny _ A (do let _ ← comprehension (.ListComp elt [⟨.Name x px, iter, [], 0⟩] scope pos) scope env _ (newList []) false (eval iter env) (some (assign (.Name y py) env))) _ _ s
  refine wpAny_bind (wpAny_mono (wpAny_comprehension_free (use := some (assign (.Name y py) env)) (Q := fun _ s' => Q .next s') rfl hs hclos hkind hnames
    (wpAny_mono h (fun xv s₁ h₁ => ?_) fun _ _ e => e)) (fun _ s' hq => wpAny_pure (wpAny_pure hq)) fun _ _ e => e)
  refine park2 xv s₁ ?_; intro K hK
  obtain ⟨own, n, P, news, Acc, hh, F, N, hsrc, hown, hsz, a0, turn, fin⟩ := h₁
  refine hK _ _ ?_; clear hK K
  refine hsrc _ _ _ rfl fun o fp St hfree W st hfp hIo => ?_
  have hlt : ∀ p ∈ own, p.1 < s₁.heap.objs.size := fun p hp => Heap.lt_size (N _ (hown p hp)).1
  refine block_U (walks_own W own fun p hp => Nat.ne_of_lt (hlt p hp)) hsz (fun i h st => hIo i h st.1) (own_st W hfp) hcell hkind hx ⟨st, fun p hp => Heap.get?_push_of_some _ (N _ (hown p hp)).1⟩ (fun b hb => ?_)
    (F.keeps fun _ _ e => Heap.get?_push_of_some _ e) (N.grown fun _ _ e => Heap.get?_push_of_some _ e) (Nat.ne_of_lt F.ns.lt) (next_is_new F) (fun p hp => Nat.ne_of_lt (Heap.lt_size (N p hp).1)) hown
    (restOfU hown a0 (turn _ ⟨_, rfl⟩) (fin { s₁ with heap := s₁.heap.push o } ⟨_, rfl⟩)) ?_
  · exact own_below hfp hlt hb
  · intro D C h' tk m' ys news' F' N' o1 hn hC₀ hD₀ hCL hDL hCD offC fin
    show wpAny _ A (assign (.Name y py) env (.ref D)) _ _ _
    refine wpAny_assign_Name (wpAny_storeName_local hy F'.ns (fun h₂ hn₂ hs₂ => ?_) hp)
    have hL₀ : h₀.get? env.locals = none := Heap.get?_none_of_le F'.above
    have F₂ : Fr h₀ env.locals h₂ (fun z => if z = y then some (.ref D) else m z) := ⟨hn₂, fun b o e => hs₂.extBut b o (fun q => by rw [q, hL₀] at e; cases e) (F'.keep b o e), F'.above⟩
    refine ⟨m', hn.sameBut hs₂ hCL, fun h'' hs'' => fin D h'' _ (F₂.change hs'' hCL hC₀) (fun p hp => ?_) o1⟩
    have z : h₂.get? p.1 = some p.2 := hs₂.extBut _ _ (N' p hp).2.1 (N' p hp).1
    exact ⟨hs''.extBut _ _ (off_cons (Ne.symm hCD) offC p hp) z, (N' p hp).2⟩
theorem inSrc_range {r : Addr} {a b : Int} {t u v : Tok} {n : Nat} {h' : Heap} (hh : A.handled = none) (hr : IsRange h' r a b 1 t u v) (hsm : Builtin.Range.small a b 1 = true) (hn : Builtin.Range.rangeSize a b 1 = ((n : Nat) : Int)) :
    InSrc prog w A [] (.ref r) n (fun i v => ∃ t, v = .int (a + (i : Int)) t) h' := by
  rintro s Q E rfl hq
  refine wpAny_pyIter_range hr hsm (hq _ _ _ rfl (range_walks hh a n) (by show IsRangeIter _ _ _ _ _; rw [hn]; simpa using Heap.get?_push_size _ rfl) (fun b hb => .inl (List.mem_singleton.mp hb)) fun i h st => ⟨_, st⟩)
noncomputable def IsText (x : Str) (v : Value) : Prop := ∃ u, v = .str x u
theorem IsText.mk {x : Str} {u : Tok} : IsText x (.str x u) := ⟨u, rfl⟩
theorem strsAre_get : ∀ {vs : List Value} {xs : List Str}, StrsAre vs xs → ∀ {i : Nat} {v : Value}, vs[i]? = some v → ∃ z t, xs[i]? = some z ∧ v = .str z t
  | _, _, .nil, _, _, h => by simp at h
  | _, _, .cons y t r, 0, _, h => ⟨y, t, rfl, (Option.some.inj h).symm⟩
  | _, _, .cons y t r, i + 1, v, h => by
    obtain ⟨z, u, h1, h2⟩ := strsAre_get r (i := i) (v := v) (by simpa using h)
    exact ⟨z, u, by simpa using h1, h2⟩
section
variable {ct elt : Expr} {x : Str} {scope : Scope} {cl : List (Str × Addr)} {P : Nat → Value → Prop} {Fin : Shared → List Value → List (Addr × Obj) → Prop} {own news : List (Addr × Obj)} {n : Nat} {xv : Value} {its : List Str}
theorem genU_of (g : Str → Str) (hh : A.handled = none) (F : Fr h₀ L s.heap m) (N : News h₀ L s.heap news) (hsrc : InSrc prog w A own xv n P s.heap) (hown : ∀ p ∈ own, p ∈ news) (hP : ∀ i v, P i v → ∃ z t, its[i]? = some z ∧ v = .str z t) (hn : n = its.length) (hsz : its.length ≤ sizeLine)
    (turn : ∀ z t I oI C oC D m₂ ys h tk (E' : Value → Shared → Prop), z ∈ its → NsObj oC m₂ → m₂ x = some (.str z t) → Fr h₀ L h m → News h₀ L h ((I, oI) :: (C, oC) :: (D, lst ys) :: news) → Off3 I C D news → ((@Ne Nat I C) ∧ (@Ne Nat I D) ∧ (@Ne Nat C D)) →
      wpAny (model prog w) A (eval elt (compEnvC scope cl C env)) (InPost h₀ L m { s with heap := h, toks := tk } ((I, oI) :: (C, oC) :: (D, lst ys) :: news) (fun v => IsText (g z) v)) E' { s with heap := h, toks := tk })
    (fin : ∀ q ys, StrsAre ys (its.map g) → Fin { s with heap := q } ys news) : GenU prog w A h₀ L m env elt x scope cl Fin xv s := by
  subst hn
  refine ⟨own, _, P, news, fun i ys => StrsAre ys ((its.take i).map g), hh, F, N, hsrc, hown, hsz, .nil, ?_, fun s₂ h₂ ys hy => by
    obtain ⟨q, rfl⟩ := h₂
    dsimp only at hy
    rw [List.take_length] at hy
    exact fin q ys hy⟩
  rintro s₂ ⟨h₂, rfl⟩
  intro i v I oI C oC D m₂ ys h tk E' hi hp ha hC hx F N off ne
  obtain ⟨z, t, hz, rfl⟩ := hP i v hp
  refine wpAny_mono (turn z t I oI C oC D m₂ ys h tk E' (List.mem_of_getElem? hz) hC hx F N off ne) (fun y s₃ hq => ?_) fun _ _ e => e
  refine hq.imp ?_
  rintro ⟨u, rfl⟩
  rw [List.take_add_one, hz, List.map_append]
  exact strsAre_snoc ha
theorem genT_of (p : Str → Bool) (g : Str → Str) (hh : A.handled = none) (F : Fr h₀ L s.heap m) (N : News h₀ L s.heap news) (hsrc : InSrc prog w A own xv n P s.heap) (hown : ∀ p ∈ own, p ∈ news) (hP : ∀ i v, P i v → ∃ z t, its[i]? = some z ∧ v = .str z t) (hn : n = its.length) (hsz : its.length ≤ sizeLine)
    (turn : ∀ z t I oI C oC D m₂ ys h tk (E' : Value → Shared → Prop), z ∈ its → NsObj oC m₂ → m₂ x = some (.str z t) → Fr h₀ L h m → News h₀ L h ((I, oI) :: (C, oC) :: (D, lst ys) :: news) → Off3 I C D news → ((@Ne Nat I C) ∧ (@Ne Nat I D) ∧ (@Ne Nat C D)) →
      wpAny (model prog w) A (isTrue ct (compEnvC scope cl C env) (eval ct (compEnvC scope cl C env))) (fun ok s' => if ok = true then
        wpAny (model prog w) A (eval elt (compEnvC scope cl C env)) (InPost h₀ L m { s with heap := h, toks := tk } ((I, oI) :: (C, oC) :: (D, lst ys) :: news) (fun v => p z = true ∧ IsText (g z) v)) E' s'
        else InPost h₀ L m { s with heap := h, toks := tk } ((I, oI) :: (C, oC) :: (D, lst ys) :: news) (fun _ => p z = false) Value.none s') E' { s with heap := h, toks := tk })
    (fin : ∀ q ys, StrsAre ys ((its.filter p).map g) → Fin { s with heap := q } ys news) : GenT prog w A h₀ L m env ct elt x scope cl Fin xv s := by
  subst hn
  refine ⟨own, _, P, news, fun i ys => StrsAre ys (((its.take i).filter p).map g), hh, F, N, hsrc, hown, hsz, .nil, ?_, fun s₂ h₂ ys hy => by
    obtain ⟨q, rfl⟩ := h₂
    dsimp only at hy
    rw [List.take_length] at hy
    exact fin q ys hy⟩
  rintro s₂ ⟨h₂, rfl⟩
  intro i v I oI C oC D m₂ ys h tk E' hi hp ha hC hx F N off ne
  obtain ⟨z, t, hz, rfl⟩ := hP i v hp
  refine wpAny_mono (turn z t I oI C oC D m₂ ys h tk E' (List.mem_of_getElem? hz) hC hx F N off ne) (fun ok s₃ hq => ?_) fun _ _ e => e
  cases ok with
  | true =>
    simp only [if_true] at hq ⊢
    refine wpAny_mono hq (fun y s₄ hq => ?_) fun _ _ e => e
    refine hq.imp ?_
    rintro ⟨hpz, u, rfl⟩
    rw [List.take_add_one, hz, List.filter_append, List.map_append]
    show StrsAre _ (_ ++ List.map g (List.filter p [z]))
    rw [List.filter_cons_of_pos hpz]
    exact strsAre_snoc ha
  | false =>
    simp only [Bool.false_eq_true, if_false] at hq ⊢
    refine hq.imp fun hpz => ?_
    rw [List.take_add_one, hz, List.filter_append, List.map_append]
    show StrsAre _ (_ ++ List.map g (List.filter p [z]))
    rw [List.filter_cons_of_neg (by rw [hpz]; simp), List.filter_nil, List.map_nil, List.append_nil]
    exact ha
theorem strsAre_app : ∀ {vs ws : List Value} {xs ys : List Str}, StrsAre vs xs → StrsAre ws ys → StrsAre (vs ++ ws) (xs ++ ys)
  | _, _, _, _, .nil, h => h
  | _, _, _, _, .cons y t r, h => .cons y t (strsAre_app r h)
theorem genU_pick (vs : List Value) (xs : List Str) (hlen : xs.length = vs.length) (hh : A.handled = none) (F : Fr h₀ L s.heap m) (N : News h₀ L s.heap news) (hsrc : InSrc prog w A own xv n P s.heap) (hown : ∀ p ∈ own, p ∈ news) (hP : ∀ i v, P i v → vs[i]? = some v) (hn : n = vs.length) (hsz : vs.length ≤ sizeLine)
    (turn : ∀ (i : Nat) v z I oI C oC D m₂ ys h tk (E' : Value → Shared → Prop), vs[i]? = some v → xs[i]? = some z → NsObj oC m₂ → m₂ x = some v → Fr h₀ L h m → News h₀ L h ((I, oI) :: (C, oC) :: (D, lst ys) :: news) → Off3 I C D news → ((@Ne Nat I C) ∧ (@Ne Nat I D) ∧ (@Ne Nat C D)) →
      wpAny (model prog w) A (eval elt (compEnvC scope cl C env)) (InPost h₀ L m { s with heap := h, toks := tk } ((I, oI) :: (C, oC) :: (D, lst ys) :: news) (fun v => IsText z v)) E' { s with heap := h, toks := tk })
    (fin : ∀ q ys, StrsAre ys xs → Fin { s with heap := q } ys news) : GenU prog w A h₀ L m env elt x scope cl Fin xv s := by
  subst hn
  refine ⟨own, _, P, news, fun i ys => StrsAre ys (xs.take i), hh, F, N, hsrc, hown, hsz, .nil, ?_, fun s₂ h₂ ys hy => by
    obtain ⟨q, rfl⟩ := h₂
    dsimp only at hy
    rw [← hlen, List.take_length] at hy
    exact fin q ys hy⟩
  rintro s₂ ⟨h₂, rfl⟩
  intro i v I oI C oC D m₂ ys h tk E' hi hp ha hC hx F N off ne
  have hz : xs[i]? = some xs[i] := by simp [hlen, hi]
  refine wpAny_mono (turn i v _ I oI C oC D m₂ ys h tk E' (hP i v hp) hz hC hx F N off ne) (fun y s₃ hq => ?_) fun _ _ e => e
  refine hq.imp ?_
  rintro ⟨u, rfl⟩
  rw [List.take_add_one, hz]
  exact strsAre_snoc ha
theorem genU_range {r : Addr} {b : Int} {t u v : Tok} {n : Nat} (g : Nat → Str) (hh : A.handled = none) (F : Fr h₀ L s.heap m) (N : News h₀ L s.heap news) (hr : IsRange s.heap r 0 b 1 t u v) (hsm : Builtin.Range.small 0 b 1 = true) (hn : Builtin.Range.rangeSize 0 b 1 = ((n : Nat) : Int)) (hsz : n ≤ sizeLine)
    (turn : ∀ (k : Nat) t I oI C oC D m₂ ys h tk (E' : Value → Shared → Prop), k < n → NsObj oC m₂ → m₂ x = some (.int (k : Int) t) → Fr h₀ L h m → News h₀ L h ((I, oI) :: (C, oC) :: (D, lst ys) :: news) → Off3 I C D news → ((@Ne Nat I C) ∧ (@Ne Nat I D) ∧ (@Ne Nat C D)) →
      wpAny (model prog w) A (eval elt (compEnvC scope cl C env)) (InPost h₀ L m { s with heap := h, toks := tk } ((I, oI) :: (C, oC) :: (D, lst ys) :: news) (fun v => IsText (g k) v)) E' { s with heap := h, toks := tk })
    (fin : ∀ q ys, StrsAre ys ((List.range n).map g) → Fin { s with heap := q } ys news) : GenU prog w A h₀ L m env elt x scope cl Fin (.ref r) s := by
  refine ⟨[], n, _, news, fun i ys => StrsAre ys ((List.range i).map g), hh, F, N, inSrc_range hh hr hsm hn, (fun _ h => nomatch h), hsz, .nil, ?_, fun s₂ h₂ ys hy => by
    obtain ⟨q, rfl⟩ := h₂
    exact fin q ys hy⟩
  rintro s₂ ⟨h₂, rfl⟩
  intro i v I oI C oC D m₂ ys h tk E' hi hp ha hC hx F N off ne
  obtain ⟨t, rfl⟩ := hp
  rw [Int.zero_add] at hx
  refine wpAny_mono (turn i t I oI C oC D m₂ ys h tk E' hi hC hx F N off ne) (fun y s₃ hq => ?_) fun _ _ e => e
  refine hq.imp ?_
  rintro ⟨u, rfl⟩
  rw [List.range_succ, List.map_append]
  exact strsAre_snoc ha
end
noncomputable def signsOf (y : Str) : List Str := y.cps.toList.map fun c => { cps := #[c] }
theorem signsOf_length (y : Str) : (signsOf y).length = y.length := by simp [signsOf]; rfl
theorem signAt_of {y : Str} : ∀ i v, SignAt y i v → ∃ z t, (signsOf y)[i]? = some z ∧ v = .str z t := by
  rintro i v ⟨c, u, hc, rfl⟩
  exact ⟨_, u, by rw [signsOf, List.getElem?_map]; rw [← Array.getElem?_toList] at hc; rw [hc]; rfl, rfl⟩
theorem listAt_of {vs : List Value} {xs : List Str} (h : StrsAre vs xs) : ∀ (i : Nat) (v : Value), vs.toArray[i]? = some v → ∃ z t, xs[i]? = some z ∧ v = .str z t := by
  intro i v hv
  exact strsAre_get h (by rw [← hv]; simp)
theorem size_of_strs {vs : List Value} {xs : List Str} (h : StrsAre vs xs) : vs.toArray.size = xs.length := by
  rw [List.size_toArray]; exact h.length
end
end Mine
end
section
open PySem PySem.W PySem.Calls PyProof.Rows
set_option Elab.async false
set_option maxRecDepth 100000
set_option maxHeartbeats 4000000
namespace Mine
section
variable {prog : Program} {w : World} {A : Around} {E : Value → Shared → Prop} {s : Shared} {h₀ : Heap} {env : Env} {xk xv : Str} {body : List Stmt} {Q : Flow → Shared → Prop}
noncomputable def RetEnd (Q : Flow → Shared → Prop) (f : Flow) (s' : Shared) : Prop := ∃ v, f = .ret v ∧ Q (.ret v) s'
theorem RetEnd.mk {v : Value} {s' : Shared} (h : Q (.ret v) s') : RetEnd Q (.ret v) s' := ⟨v, rfl, h⟩
theorem iter_first {l T : Addr} {a b : Value} {vs : List Value} {n : Nat} {m : Str → Option Value} {news : List (Addr × Obj)}
    (hh : A.handled = none) (hxk : env.kindOf xk = some .local) (hxv : env.kindOf xv = some .local)
    (hp : (env.scope.kind == .class || (env.scope.kind == .module && env.locals != env.globals)) = false)
    (hl : (l, ({ cls := .type "list", data := .seq (.ref T :: vs).toArray n } : Obj)) ∈ news) (hT : (T, ({ cls := .type "tuple", data := .seq [a, b].toArray } : Obj)) ∈ news)
    (F : Fr h₀ env.locals s.heap m) (N : News h₀ env.locals s.heap news) (ht : 0 < s.toks) (hE : PassesOwn (model prog w) A env E)
    (h : ∀ h' tk, 0 < tk → Fr h₀ env.locals h' (fun y => if y = xv then some b else if y = xk then some a else m y) → News h₀ env.locals h' news → wpAny (model prog w) A (execs body env) (RetEnd Q) E { s with heap := h', toks := tk }) :
    wpAny (model prog w) A (pyIter (.ref l)) (fun it s₂ => PairLoopAt prog w A h₀ env xk xv body Q E it s₂) E s := by
  have hL : s.heap.IsList l (.ref T :: vs).toArray := ⟨_, (N _ hl).1, rfl, _, rfl⟩
  have hlt : l < s.heap.objs.size := Heap.lt_size (N _ hl).1
  refine wpAny_pyIter_list hL ?_
  intro pk pv pt x1
  have up : ∀ b x, s.heap.get? b = some x → (s.heap.push { cls := .type "list_iterator", data := .fields #[.ref l, .int 0 0] }).get? b = some x := fun b x e => Heap.get?_push_of_some _ e
  have hIL : s.heap.objs.size ≠ env.locals := Nat.ne_of_gt F.ns.lt
  have W := Walks.list (prog := prog) (w := w) hh s.heap.objs.size l (Nat.ne_of_lt hlt) (.ref T :: vs).toArray
  refine codeAny_forLoop_any (fun _ s' => s' = { s with heap := s.heap.push { cls := .type "list_iterator", data := .fields #[.ref l, .int 0 0] } }) (fun k s' hs' => ?_) 0 rfl
  subst hs'
  refine W.item 0 _ _ _ (by simp) ⟨⟨_, Heap.get?_push_size _ rfl, rfl, rfl⟩, hL.push _⟩ fun v h₁ tk₁ hv st₁ hk₁ => ?_
  have hv' : v = .ref T := by
    have : (Value.ref T :: vs).toArray[0]? = some v := hv
    simpa using this.symm
  subst hv'
  have F₁ : Fr h₀ env.locals h₁ m := LCg.fr_but (F.keeps up) hk₁ (Ne.symm hIL) (next_is_new F)
  have N₁ : News h₀ env.locals h₁ news := LCg.news_but (N.grown up) hk₁ fun p hp => Nat.ne_of_lt (Heap.lt_size (N p hp).1)
  refine wpAny_letOwnedTupleGo_listiter st₁.1 ?_
  have ht₁ : h₁.IsTuple T #[a, b] := ⟨_, (N₁ _ hT).1, rfl, _, rfl⟩
  refine wpAny_assign_Tuple hh ht₁ rfl rfl fun h₃ hx₃ => ?_
  have hx₃' : Heap.ExtBut h₁.objs.size h₁ h₃ := hx₃
  have up₃ : ∀ b o, h₁.get? b = some o → h₃.get? b = some o := fun b o e => hx₃' b o (Nat.ne_of_lt (Heap.lt_size e)) e
  have F₃ : Fr h₀ env.locals h₃ m := ⟨F₁.ns.at' fun o e => up₃ _ o e, fun b o e => up₃ b o (F₁.keep b o e), F₁.above⟩
  have N₃ : News h₀ env.locals h₃ news := fun p hp => ⟨up₃ _ _ (N₁ p hp).1, (N₁ p hp).2⟩
  show wpAny _ _ (do holding [b] (assign (.Name xk pk) env a); do holding [] (assign (.Name xv pv) env b); pure ()) _ _ _
  refine wpAny_bind (wpAny_holding (wpAny_assign_Name (wpAny_storeName_local hxk F₃.ns (fun h₄ hn₄ hs₄ => ?_) hp)))
  have hs₄' : Heap.SameBut env.locals h₃ h₄ := hs₄
  have F₄ := F₃.set hn₄ hs₄'
  refine wpAny_bind (wpAny_holding (wpAny_assign_Name (wpAny_storeName_local hxv F₄.ns (fun h₅ hn₅ hs₅ => wpAny_pure ?_) hp)))
  have hs₅' : Heap.SameBut env.locals h₄ h₅ := hs₅
  have F₅ := F₄.set hn₅ hs₅'
  have N₅ : News h₀ env.locals h₅ news := (N₃.set hs₄').set hs₅'
  refine wpAny_mono (wpAny_passesOwn hE (h h₅ _ ?pos F₅ N₅)) (fun f s₃ h₆ => ?_) fun e s' x => ?_
  case pos => exact Nat.succ_pos _
  · obtain ⟨v, rfl, h7⟩ := h₆
    exact h7
  · exact x
end
end Mine
end
section
open PySem PySem.W PySem.Calls PyProof.Rows
set_option Elab.async false
set_option maxRecDepth 100000
set_option maxHeartbeats 4000000
namespace Mine
section
variable {prog : Program} {w : World} {A : Around} {E : Value → Shared → Prop} {s : Shared}
theorem split_empty {x y : Str} {t u : Tok} {Q : Value → Shared → Prop} (hA : A.handled = none) (hy : y.length = 0) (hk : (decide (x.length < y.length) || decide (Builtin.Str.strKind x < Builtin.Str.strKind y)) = false)
    (hE : ∀ h' tk e, Heap.NewExc s.heap h' e "ValueError" → E (.ref e) { s with heap := h', toks := tk }) : wpAny (model prog w) A (call (.builtin "str.split") [.str x t, .str y u]) Q E s :=
  call_meets F.slot_str_split (typeIs_str _ _ _) F.entry_str_split (F.args_str_split_2 _ _) (raises_str_split_empty x y t u hk (by rw [hy]; rfl)) ⟨hA, hE⟩
theorem item_tup_out {value slice : PySem.Expr} {l : Addr} {vs : List Value} {k : Int} {u : Tok} {Q : Value → Shared → Prop} {h₀ : Heap} {L : Addr} {news : List (Addr × Obj)} (hA : A.handled = none) (N : News h₀ L s.heap news) (hm : (l, ({ cls := .type "tuple", data := .seq vs.toArray } : Obj)) ∈ news)
    (hout : seqIndex? k vs.toArray.size = none) (hlo : -2 ^ 63 ≤ k) (hhi : k < 2 ^ 63)
    (hE : ∀ h' tk e, Heap.NewExc s.heap h' e "IndexError" → E (.ref e) { s with heap := h', toks := tk })
    (hs : subscripted slice false (.ref l) (.int k u) = operate [.ref l, .int k u] (getItem (.ref l) (.int k u))) :
    wpAny (model prog w) A (subscriptTail value slice (.ref l) (.int k u)) Q E s :=
  tail_any (News.isTup N hm).typeIs slot_tuple_getitem.lookup (getItem_meets ⟨_, (N _ hm).1, rfl⟩ (by decide) F.slot_tuple_getitem F.entry_tuple_getitem (F.args_tuple_getitem_2 _ _) (MeetsSeq.tuple_getitem_out l vs.toArray 0 k u hlo hhi hout) ⟨(N _ hm).1, hA, hE⟩) hs
end
end Mine
end
section
open PySem PySem.W PySem.Calls PyProof.Rows PySem.Spec PyProof.Rows.LCg PyProof.Rows.LCt
set_option Elab.async false
set_option maxRecDepth 100000
set_option maxHeartbeats 4000000
namespace Mine
section
variable {M : Model} {A : Around} {E : Value → Shared → Prop} {env : Env}
noncomputable def GoesOn (I : Shared → Prop) (f : Flow) (s' : Shared) : Prop := f = .next ∧ I s'
theorem execs_append : ∀ (a b : List Stmt), execs (a ++ b) env = (execs a env >>= fun f => match f with | .next => execs b env | f => pure f)
  | [], b => by rw [execs_nil, pure_bind]; rfl
  | st :: a, b => by
    rw [List.cons_append, execs_cons, execs_cons, bind_assoc]
    congr 1
    funext f
    cases f with
    | next => exact execs_append a b
    | brk => rw [pure_bind]
    | cont => rw [pure_bind]
    | ret v => rw [pure_bind]
theorem execs_split (I : Shared → Prop) (a b : List Stmt) {Q : Flow → Shared → Prop} {s : Shared} (h1 : wpAny M A (execs a env) (GoesOn I) E s) (h2 : ∀ s', I s' → wpAny M A (execs b env) Q E s') : wpAny M A (execs (a ++ b) env) Q E s := by
  rw [execs_append]
  refine wpAny_bind (wpAny_mono h1 (fun f s' h' => ?_) fun _ _ y => y)
  obtain ⟨rfl, h3⟩ := h'
  exact h2 s' h3
theorem execs_cut (n : Nat) (I : Shared → Prop) (l : List Stmt) {Q : Flow → Shared → Prop} {s : Shared} (h1 : wpAny M A (execs (l.take n) env) (GoesOn I) E s) (h2 : ∀ s', I s' → wpAny M A (execs (l.drop n) env) Q E s') : wpAny M A (execs l env) Q E s := by
  have := execs_split I (l.take n) (l.drop n) h1 h2
  rwa [List.take_append_drop] at this
end
theorem intsAre_get : ∀ {vs : List Value} {xs : List Int}, IntsAre vs xs → ∀ {i : Nat} {v : Value}, vs[i]? = some v → ∃ z t, xs[i]? = some z ∧ v = .int z t
  | _, _, .nil, _, _, h => by simp at h
  | _, _, .cons y t r, 0, _, h => ⟨y, t, rfl, (Option.some.inj h).symm⟩
  | _, _, .cons y t r, i + 1, v, h => by
    obtain ⟨z, u, h1, h2⟩ := intsAre_get r (i := i) (v := v) (by simpa using h)
    exact ⟨z, u, by simpa using h1, h2⟩
theorem intsAre_len : ∀ {vs : List Value} {xs : List Int}, IntsAre vs xs → vs.length = xs.length
  | _, _, .nil => rfl
  | _, _, .cons _ _ r => by simp [intsAre_len r]
section
variable {prog : Program} {w : World} {A : Around} {s : Shared} {h₀ : Heap} {L : Addr} {m : Str → Option Value} {env : Env} {elt : Expr} {x : Str} {scope : Scope} {cl : List (Str × Addr)} {Fin : Shared → List Value → List (Addr × Obj) → Prop} {own news : List (Addr × Obj)} {xv : Value} {vs : List Value} {its : List Int}
theorem genU_ints (g : Int → Str) (hD : IntsAre vs its) (hh : A.handled = none) (F : Fr h₀ L s.heap m) (N : News h₀ L s.heap news) (hsrc : InSrc prog w A own xv vs.toArray.size (fun j u => vs.toArray[j]? = some u) s.heap) (hown : ∀ p ∈ own, p ∈ news) (hsz : its.length ≤ 1000)
    (turn : ∀ z t I oI C oC D m₂ ys h tk (E' : Value → Shared → Prop), z ∈ its → NsObj oC m₂ → m₂ x = some (.int z t) → Fr h₀ L h m → News h₀ L h ((I, oI) :: (C, oC) :: (D, lst ys) :: news) → Off3 I C D news → ((@Ne Nat I C) ∧ (@Ne Nat I D) ∧ (@Ne Nat C D)) →
      wpAny (model prog w) A (eval elt (compEnvC scope cl C env)) (InPost h₀ L m { s with heap := h, toks := tk } ((I, oI) :: (C, oC) :: (D, lst ys) :: news) (fun v => IsText (g z) v)) E' { s with heap := h, toks := tk })
    (fin : ∀ q ys, StrsAre ys (its.map g) → Fin { s with heap := q } ys news) : GenU prog w A h₀ L m env elt x scope cl Fin xv s := by
  have hlen := intsAre_len hD
  refine ⟨own, _, _, news, fun i ys => StrsAre ys ((its.take i).map g), hh, F, N, hsrc, hown, ?_, .nil, ?_, fun s₂ h₂ ys hy => by
    obtain ⟨q, rfl⟩ := h₂
    dsimp only at hy
    rw [List.size_toArray, hlen, List.take_length] at hy
    exact fin q ys hy⟩
  · rw [List.size_toArray, hlen, sizeLine_eq]; omega
  rintro s₂ ⟨h₂, rfl⟩
  intro i v I oI C oC D m₂ ys h tk E' hi hp ha hC hx F N off ne
  obtain ⟨z, t, hz, rfl⟩ := intsAre_get hD (i := i) (v := v) (by simpa using hp)
  refine wpAny_mono (turn z t I oI C oC D m₂ ys h tk E' (List.mem_of_getElem? hz) hC hx F N off ne) (fun y s₃ hq => ?_) fun _ _ e => e
  obtain ⟨h', tk', rfl, F', N', u, rfl⟩ := hq
  refine ⟨h', tk', rfl, F', N', ?_⟩
  dsimp only
  rw [List.take_add_one, hz, List.map_append]
  exact strsAre_snoc ha
end
end Mine
end
section
open PySem PySem.W PySem.Calls PyProof.Rows PySem.Spec PyProof.Rows.LCg PyProof.Rows.LCt
set_option Elab.async false
set_option maxRecDepth 100000
set_option maxHeartbeats 4000000
namespace Mine
section
variable {prog : Program} {w : World} {A : Around} {E : Value → Shared → Prop} {s : Shared} {h₀ : Heap} {L : Addr} {env : Env} {x : Str} {body : List Stmt} {Q : Flow → Shared → Prop}
theorem for_held {px pos : Pos} {iter : Expr} (hs : ∀ x, foldedSetIterable iter env x = pure x)
    (h : wpAny (model prog w) A (eval iter env) (fun xv s₁ => Hold (wpAny (model prog w) A (pyIter xv) (fun it s₂ => codeAny (model prog w) A (.forLoop (.Name x px) it body [] env) (fun r s' => match r with | .ok f => Q f s' | .error e => cameBackBy (model prog w) A env E e s') s₂) E s₁)) E s) :
    wpAny (model prog w) A (exec (.For (.Name x px) iter body [] pos) env) Q E s := wpAny_For h hs
theorem for_cell {px : Pos} {m : Str → Option Value} {news : List (Addr × Obj)} {n : Nat} {r : Addr} {a b : Int} {t u v : Tok} (J : Nat → (Str → Option Value) → List (Addr × Obj) → Prop)
    (hh : A.handled = none) (hE : PassesOwn (model prog w) A env E) (hr : IsRange s.heap r a b 1 t u v) (hsm : Builtin.Range.small a b 1 = true) (hn : Builtin.Range.rangeSize a b 1 = ((n : Nat) : Int))
    (F : Fr h₀ L s.heap m) (N : News h₀ L s.heap news) (hj : J 0 m news)
    (turn : ∀ i m₁ news₁ h tk t I oI, i < n → J i m₁ news₁ → (∀ p ∈ news₁, p.1 ≠ I) → Fr h₀ L h m₁ → News h₀ L h ((I, oI) :: news₁) →
      wpAny (model prog w) A (storeName env x (.int (a + (i : Int)) t)) (fun _ s₂ => wpAny (model prog w) A (execs body env) (TurnPost h₀ L { s with heap := h, toks := tk } I oI (J (i + 1)) Q) E s₂) E { s with heap := h, toks := tk })
    (done : ∀ m₁ news₁ h tk, J n m₁ news₁ → Fr h₀ L h m₁ → News h₀ L h news₁ → Q .next { s with heap := h, toks := tk }) :
    wpAny (model prog w) A (pyIter (.ref r)) (fun it s₂ => codeAny (model prog w) A (.forLoop (.Name x px) it body [] env) (fun r s' => match r with | .ok f => Q f s' | .error e => cameBackBy (model prog w) A env E e s') s₂) E s := by
  refine wpAny_pyIter_range hr hsm ?_
  have up : ∀ c x, s.heap.get? c = some x → (s.heap.push { cls := .type "range_iterator", data := .fields #[rawInt a, rawInt (Builtin.Range.rangeSize a b 1), rawInt 1] }).get? c = some x := fun c x e => Heap.get?_push_of_some _ e
  have hIL : s.heap.objs.size ≠ L := Nat.ne_of_gt F.ns.lt
  have hI₀ : h₀.get? s.heap.objs.size = none := next_is_new F
  have W := range_walks (prog := prog) (w := w) (I := s.heap.objs.size) hh a n
  refine codeAny_forLoop_any (fun k s' => ∃ i h tk m₁ news₁, k = n - i ∧ i ≤ n ∧ s' = { s with heap := h, toks := tk } ∧ J i m₁ news₁ ∧ IsRangeIter h s.heap.objs.size (a + (i : Nat) * 1) ((n : Int) - (i : Nat)) 1 ∧ Fr h₀ L h m₁ ∧ News h₀ L h news₁ ∧ ∀ p ∈ news₁, p.1 ≠ s.heap.objs.size) ?_ n
    ⟨0, _, _, m, news, rfl, Nat.zero_le _, rfl, hj, ?_, F.keeps up, N.grown up, fun p hp => Nat.ne_of_lt (Heap.lt_size (N p hp).1)⟩
  · intro k s' hI
    refine park2 k s' ?_; intro K hK
    obtain ⟨i, h, tk, m₁, news₁, rfl, hi, rfl, hJ, st, F₁, N₁, off⟩ := hI
    refine hK _ _ ?_; clear hK K
    by_cases hlt : i < n
    · refine W.item i _ _ _ hlt st fun v h' tk' hv st' hk => ?_
      refine park1 v ?_; intro K hK
      obtain ⟨tv, rfl⟩ := hv
      refine hK _ ?_; clear hK K
      have F₂ : Fr h₀ L h' m₁ := fr_but F₁ hk (Ne.symm hIL) hI₀
      have N₂ : News h₀ L h' news₁ := news_but N₁ hk off
      have hIo : ∃ oI, h'.get? s.heap.objs.size = some oI := ⟨_, st'⟩
      refine park0 ?_; intro K hK
      obtain ⟨oI, eI⟩ := hIo
      refine hK ?_; clear hK K
      have N₃ : News h₀ L h' ((s.heap.objs.size, oI) :: news₁) := news_put ⟨eI, hIL, hI₀⟩ N₂
      show wpAny _ A (letOwnedTupleGo (.Name x px) (.ref s.heap.objs.size) _) _ _ _
      refine wpAny_pure ?_
      refine wpAny_assign_Name ?_
      refine wpAny_mono (wpAny_passesOwn hE (turn i m₁ news₁ h' tk' tv s.heap.objs.size oI hlt hJ off F₂ N₃)) (fun _ s₂ h₂ => ?_) fun _ _ e => e
      refine wpAny_mono (wpAny_passesOwn hE h₂) (fun f s₃ p => ?_) fun _ _ e => e
      have fin : TurnEnd h₀ L { s with heap := h', toks := tk' } s.heap.objs.size oI (J (i + 1)) s₃ → ∃ m, m < n - i ∧ ∃ i h tk m₁ news₁, m = n - i ∧ i ≤ n ∧ s₃ = { s with heap := h, toks := tk } ∧ J i m₁ news₁ ∧ IsRangeIter h s.heap.objs.size (a + (i : Nat) * 1) ((n : Int) - (i : Nat)) 1 ∧ Fr h₀ L h m₁ ∧ News h₀ L h news₁ ∧ ∀ p ∈ news₁, p.1 ≠ s.heap.objs.size := by
        rintro ⟨h4, tk4, m4, news4, rfl, F4, N4, off4, hJ4⟩
        refine ⟨n - (i + 1), by omega, i + 1, h4, tk4, m4, news4, rfl, hlt, rfl, hJ4, ?_, F4, fun p hp => N4 p (List.mem_cons_of_mem _ hp), off4⟩
        refine W.frame (i + 1) h' h4 st' fun b hb o e => ?_
        rw [List.mem_singleton.mp hb] at e ⊢
        rw [eI] at e
        rw [← e]
        exact (N4 _ (List.mem_cons_self ..)).1
      cases f with
      | ret v => exact p
      | brk => exact p
      | next => exact fin p
      | cont => exact fin p
    · have e : i = n := Nat.le_antisymm hi (Nat.not_lt.mp hlt)
      rw [e] at st hJ
      refine W.done _ _ _ st fun h' tk' hk => ?_
      show wpAny _ A (execs [] env) _ _ _
      rw [execs_nil]
      exact wpAny_pure (done m₁ news₁ h' tk' hJ (fr_but F₁ hk (Ne.symm hIL) hI₀) (news_but N₁ hk off))
  · show IsRangeIter _ _ _ _ _
    rw [hn]
    simpa using Heap.get?_push_size _ rfl
end
end Mine
end
section
open PySem PySem.W PySem.Calls PyProof.Rows
set_option Elab.async false
set_option maxRecDepth 100000
set_option maxHeartbeats 8000000
namespace Mine
theorem anew_CAdd : True := by
  w_top off
  exact True.intro
local macro_rules | `(tactic| k_all) => `(tactic| exact rest_ne (by assumption))
local macro_rules | `(tactic| k_all) => `(tactic| assumption)
noncomputable abbrev tabled (x d l : Addr) (hs : Int) (tk : Tok) (k : Nat) (its : List Value) (n : Nat) (rest : List (Addr × Obj)) : List (Addr × Obj) :=
  (x, instObj 184 d) :: (d, dictOf [⟨hs, .str (Str.ofString "_headers") tk, .ref l⟩] k) :: (l, listOf its.toArray n) :: rest
theorem c_add1 {w : World} {p : Program} {loose : List Str} {mean : ExcName → Option Value} {mg mb : Str → Option Value} {rest : List (Addr × Obj)} (x d l : Addr) (hs : Int) (tk : Tok) (k : Nat) (its : List Value) (n : Nat) (nm v : Str) (tn tv tp : Tok)
    (hxl : x ≠ l) (hdl : d ≠ l) (hrl : ∀ q ∈ rest, q.1 ≠ l) (hi : its.length ≤ 10) (hv : v.length ≤ 300) (hv0 : v.length ≠ 0) (hg : goodV v) (hn : nm.length ≤ 10) (hgn : goodN nm) (hk1 : goodN (Str.ofString "k_1")) :
   CtK w p loose mean mg mb 181 [.ref x, .str nm tn, .none] [(Str.ofString "k_1", .str v tv)] 8 40 (tabled x d l hs tk k its n rest)
     (fun r n' => ∃ T t, r = .none ∧ n' = (T, tupObj [.str nm tn, .str (fmtF (Str.ofString "k-1") v) t]) :: tabled x d l hs tk k (its ++ [.ref T]) (n + 1) rest ∧ x < T ∧ d < T ∧ l < T ∧ ∀ q ∈ rest, q.1 < T) := by
  unfold CtK; k_fill
  intro dp un gd cn nm' ig ic mr a ccd cl outer A₀ base h₀ L m s Q E B F X N T hd hu hret
  refine wpAny_call ?_
  k_dflt k_enter
  have hfl : (fmtF (Txt.replace (Str.ofString "k_1") (Str.ofString "_") (Str.ofString "-")) v).length ≤ 10 + 9 * v.length := by
    have := fmtF_len (Txt.replace (Str.ofString "k_1") (Str.ofString "_") (Str.ofString "-")) v
    rw [show (Txt.replace (Str.ofString "k_1") (Str.ofString "_") (Str.ofString "-")).length = 3 from by decide +kernel] at this
    omega
  repeat' (first | (k_unfold; (try dsimp only)) | (k_end; kc_close) | ((with_reducible show wpAny _ _ (exec (Stmt.For (Expr.Tuple ..) (Expr.Call ..) ..) _) _ _ _); with_reducible (k_here; (with_reducible rename Obj.IsDictOf _ _ _ => q9dictLook); (rename Fr _ _ _ _ => q9F'); (rename News _ _ _ _ => q9N'); with_unfolding_all ((refine For_pair_unrF q9F' ?_ (by intro _; rfl)); (refine MethodCall_ ?_); (refine ld q9F' (by rfl) ?_); (refine getMethod_tab PySem.F.slot_dict_items PySem.F.type_dict_items (by exact TabAt.ofNews q9N' (by k_mem) (by assumption) q9dictLook (by assumption)) ?_); (refine callWith_method0 ?_); (refine call_items_tab (by exact TabAt.ofNews q9N' (by k_mem) (by assumption) q9dictLook (by assumption)) q9F' q9N' ?_)); intro _ _ q9hv5' q9F5' q9N5'; (refine iter_items (by rfl) (by rfl) (by rfl) (by rfl) q9hv5' (by k_mem) q9dictLook q9F5' (fun p hp => q9N5' p (List.mem_cons_of_mem _ hp)) (by first | assumption | exact Nat.succ_pos _) ?_ (by passes_own)))) | ((with_reducible show wpAny _ _ (call (Value.builtin "str.join") [Value.str _ _, Value.ref _]) _ _ _); with_reducible (k_dflt (refine' my_join (by exact News.isList (by k_asm) (by k_mem)) (by first | exact .cons _ _ .nil | exact .cons _ _ (.cons _ _ (.cons _ _ (.cons _ _ .nil)))) (by first | decide +kernel | ((simp only [List.map_cons, List.map_nil, List.sum_cons, List.sum_nil, List.length_cons, List.length_nil, show (Str.ofString "; ").length = 2 from by decide +kernel]); omega)) ?_); intro _ _ _)) | ((with_reducible show wpAny _ _ (call (Value.builtin "str.replace") [Value.str _ _, Value.str _ _, Value.str _ _]) _ _ _); with_reducible (refine my_replace (by first | omega | (dsimp only at *; omega)) (by first | omega | (dsimp only at *; omega)) (by first | omega | (dsimp only at *; omega)) (by decide +kernel) (by first | omega | decide +kernel | (simp only [show (Str.ofString "\\\\").length = 2 from by decide +kernel, show (Str.ofString "\\\"").length = 2 from by decide +kernel]; omega)) ?_; intro _ _ _)) | ((with_reducible show wpAny _ _ (call (Value.ref 61) [Value.str _ _, Value.str _ _]) _ _ _); with_reducible (k_dflt (refine' c_fmt _ _ _ _ (by assumption) (by first | omega | decide +kernel) (by first | omega | decide +kernel) _ _ _ _ _ _ _ _ _ _ _ _ _ _ _ _ _ _ _ _ (by k_asm) (by k_asm) (by k_in) (by k_asm) (by k_asm) (by k_room) (by k_room) ?_); intro q9rv q9h' q9tk' q9nw q9hr q9F'; refine park2 q9rv q9nw ?_; intro q9Kp q9hKp; obtain ⟨q9en, q9tt, q9er⟩ := q9hr; cases q9en; cases q9er; refine q9hKp _ _ ?_; clear q9hKp q9Kp; intro q9N')) | ((with_reducible show wpAny _ _ (call (Value.ref 83) [Value.ref _, Value.str _ _] _) _ _ _); with_reducible (k_dflt (refine' c_convN _ _ _ (by first | with_reducible assumption | omega | decide +kernel) (by with_reducible assumption) _ _ _ _ _ _ _ _ _ _ _ _ _ _ _ _ _ _ _ _ (by k_asm) (by k_asm) (by k_in) (by k_asm) (by k_asm) (by first | (simp only [depth_deeper]; omega) | (dsimp only [Around.deeper]; omega) | ktr_room) (by first | (simp only [Around.deeper]; omega) | (dsimp only [Around.deeper]; omega) | ktr_room) ?_); intro q9rv q9h' q9tk' q9nw q9hr q9F'; refine park2 q9rv q9nw ?_; intro q9Kp q9hKp; obtain ⟨q9en, q9er⟩ := q9hr; cases q9en; cases q9er; refine q9hKp _ _ ?_; clear q9hKp q9Kp; intro q9N')) | ((with_reducible show wpAny _ _ (call (Value.ref 83) [Value.ref _, Value.str _ _] _) _ _ _); with_reducible (k_dflt (refine' c_convV _ _ _ (by first | with_reducible assumption | omega | decide +kernel) (by with_reducible assumption) _ _ _ _ _ _ _ _ _ _ _ _ _ _ _ _ _ _ _ _ (by k_asm) (by k_asm) (by k_in) (by k_asm) (by k_asm) (by first | (simp only [depth_deeper]; omega) | (dsimp only [Around.deeper]; omega) | ktr_room) (by first | (simp only [Around.deeper]; omega) | (dsimp only [Around.deeper]; omega) | ktr_room) ?_); intro q9rv q9h' q9tk' q9nw q9hr q9F'; refine park2 q9rv q9nw ?_; intro q9Kp q9hKp; obtain ⟨q9en, q9er⟩ := q9hr; cases q9en; cases q9er; refine q9hKp _ _ ?_; clear q9hKp q9Kp; intro q9N')) | ((with_reducible show wpAny _ _ (execs (_ :: _) _) _ _ _); with_reducible (k_here; refine pos_toks (by first | exact Nat.succ_pos _ | exact Nat.add_pos_right _ (by decide) | assumption) ?_; (try (rename 0 < _ => hOld; clear hOld)); intro q9kT q9hT; refine execs_cons_H ?_; intro q9K q9hK q9hK2)) | ((with_reducible show wpAny _ _ (execs (_ :: _) _) _ _ _); with_reducible (k_here; refine execs_cons_H ?_; intro q9K q9hK q9hK2)) | ((with_reducible show wpAny _ _ (execs [] _) _ _ _); with_reducible (k_here; refine pos_toks (by first | exact Nat.succ_pos _ | exact Nat.add_pos_right _ (by decide) | assumption) ?_; (try (rename 0 < _ => hOld; clear hOld)); intro q9kT q9hT; refine wpAny_execs_nil ?_)) | ((with_reducible show Back ..); (k_here; first | refine Back.next (by with_reducible assumption) ?_ | refine Back.other (by with_reducible assumption) (fun h => Flow.noConfusion h) ?_)) | ((with_reducible show UnrEnd ..); (k_here; refine UnrEnd.mk (by assumption) (by assumption) (by (refine OffAll.to ?_); (simp only [OffAll]); assumption) (by k_mem) ?_)) | ((with_reducible show UnrL ..); with_reducible (k_here; first | (with_reducible refine UnrL.nil ?_; intro _ _ _ _ _) | (with_reducible refine UnrL.cons ?_; (try (rename _ ∧ _ ∧ _ ∧ _ ∧ _ ∧ OffAll _ _ => hOld; clear hOld)); intro _ _ _ _ _ _ q9hoff _ _; (have q9hoff' := OffAll.of q9hoff); (simp only [OffAll] at q9hoff')))) | walk1 | (dsimp only; walk1) | (leave1; (try dsimp only)))
  rename Fr h₀ L _ m => kF; rename News h₀ L _ _ => kN
  rw [join_single, k1_name] at kN
  rename _ ∧ _ ∧ _ ∧ _ ∧ _ ∧ AllLt _ rest => hl2
  exact hret _ _ _ _ ⟨_, _, rfl, rfl, hl2.2.2.1, hl2.2.2.2.1, hl2.2.2.2.2.1, allLt_mem hl2.2.2.2.2.2⟩ kF (cb_drop kN fun q hq => by
    simp only [tabled, List.mem_cons] at hq ⊢
    rcases hq with h | h | h | h | h
    · exact .inl h
    · exact .inr (.inr (.inr (.inl h)))
    · exact .inr (.inr (.inr (.inr (.inl h))))
    · exact .inr (.inr (.inr (.inr (.inr (.inl (h.trans (by rw [List.push_toArray])))))))
    · exact .inr (.inr (.inr (.inr (.inr (.inr h))))))
end Mine
end
section
open PySem PySem.W PySem.Calls PyProof.Rows
set_option Elab.async false
set_option maxRecDepth 100000
set_option maxHeartbeats 8000000
namespace Mine
theorem anew_CGoes : True := by
  w_top off
  exact True.intro
noncomputable def tstep (k : Int) (c : Nat) : Int := if c = 66 then Int.fdiv k 2 else k + 1
noncomputable def turnedF (cs : List Nat) : Int := cs.foldl tstep 1
noncomputable def goesF (row : Str) (d : Int) : Bool := decide (Txt.count row (Str.ofString "B") = d) && decide (turnedF row.cps.toList = 1)
theorem turned_take {row : Str} {i c : Nat} (hc : row.cps[i]? = some c) : turnedF (row.cps.toList.take (i + 1)) = tstep (turnedF (row.cps.toList.take i)) c := by
  have hc' : row.cps.toList[i]? = some c := by simpa using hc
  unfold turnedF
  rw [List.take_add_one, hc']
  simp
theorem c_goes {w : World} {p : Program} {loose : List Str} {mean : ExcName → Option Value} {mg mb : Str → Option Value} {news : List (Addr × Obj)} (row : Str) (t td : Tok) (d : Int) (hx : row.length ≤ 10) :
   Ct w p loose mean mg mb 254 [.str row t, .int d td] 4 20 news (fun v n => n = news ∧ v = .bool (goesF row d)) := by
  unfold Ct; k_fill
  intro dp un gd cn nm ig ic mr a ccd cl outer A₀ base h₀ L m s Q E B F X N T hd hu hret
  ((refine wpAny_call ?_; k_dflt (refine' code_def ?k1 ?k2 ?k3 ?k4 ?k5 ?kA ?kF ?kK ?k6 ?k7 ?k8 ?k9 ?kB ?_ ?c2 ?c3 ?c4 ?c5; (case kA => exact rfl); (case kF => exact rfl); (case kK => exact rfl); (case k1 => k_asm); (case k2 => k_asm); (case k3 => k_asm); (case k4 => k_asm); (case k5 => k_asm); (case k6 => k_is); (case k7 => k_is); (case k8 => ktr_room); (case k9 => first | exact BindsTo.of_eq rfl | exact binds_K (by k_in) rfl (by k_is) rfl rfl rfl); (case c5 => decide); (case kB => exact locs rfl); (case c2 => exact rfl); (case c3 => exact rfl); (case c4 => exact rfl); k_whole; intro g' L' h' FG' F' N' B' X' T'; (try dsimp only); (try k_lift B'); (try k_fold))))
  repeat' (first | (k_unfold; (try dsimp only)) | (k_end; kc_close) | ((with_reducible show wpAny _ _ (exec (Stmt.For (Expr.Name ..) (Expr.Name ..) (_ :: _) [] ..) _) _ _ _); with_reducible (k_here; k_dflt (refine for_hold (by k_asm) (by rfl) (by rfl) ?_ (by intro _; rfl) (by passes_own)); refine Hold.mk ?_)) | ((with_reducible show wpAny _ _ (execs (_ :: _) _) _ _ _); with_reducible (k_here; k_gentoks)) | ((with_reducible show wpAny _ _ (execs (_ :: _) _) _ _ _); with_reducible (k_here; refine execs_cons_H ?_; intro q9K q9hK q9hK2)) | ((with_reducible show Back ..); (k_here; first | refine Back.next (by with_reducible assumption) ?_ | refine Back.other (by with_reducible assumption) (fun h => Flow.noConfusion h) ?_)) | walk1 | (dsimp only; walk1) | (leave1; (try dsimp only)))
  unfold Hold
  refine ld (by assumption) rfl ?_
  rename Fr _ _ _ _ => F1; rename News _ _ _ _ => N1
  refine iter_S (σ := Int × Tok) (fun _ => news) (fun c => [(Str.ofString "turned", .int c.1 c.2)]) [Str.ofString "step"] (fun i c => c.1 = turnedF (row.cps.toList.take i)) (1, _) (inSrc_str rfl) F1 N1 (fun _ h => nomatch h) rfl (List.forall_mem_cons.mpr ⟨rfl, fun _ h => nomatch h⟩) ?turn ?done
  case turn =>
    rintro i v ⟨k, tk1⟩ u h tk I oI hi ⟨c, uc, hc, rfl⟩ hk1 _ hoff F2 N2
    dsimp only at hk1 F2 N2 hoff
    subst hk1
    repeat' (first | (k_unfold; (try dsimp only)) | (k_end; kc_close) | ((with_reducible show wpAny _ _ (exec (Stmt.For (Expr.Name ..) (Expr.Name ..) (_ :: _) [] ..) _) _ _ _); with_reducible (k_here; k_dflt (refine for_hold (by k_asm) (by rfl) (by rfl) ?_ (by intro _; rfl) (by passes_own)); refine Hold.mk ?_)) | ((with_reducible show wpAny _ _ (execs (_ :: _) _) _ _ _); with_reducible (k_here; k_gentoks)) | ((with_reducible show wpAny _ _ (execs (_ :: _) _) _ _ _); with_reducible (k_here; refine execs_cons_H ?_; intro q9K q9hK q9hK2)) | ((with_reducible show Back ..); (k_here; first | refine Back.next (by with_reducible assumption) ?_ | refine Back.other (by with_reducible assumption) (fun h => Flow.noConfusion h) ?_)) | walk1 | (dsimp only; walk1) | (leave1; (try dsimp only)))
    · rename (_ == _) = true => hb
      rename Fr _ _ _ _ => F9; rename News _ _ _ _ => N9
      refine ⟨(Int.fdiv (turnedF (row.cps.toList.take i)) 2, _), _, _, _, _, rfl, F9, N9, List.mem_cons_self, fun q hq => List.mem_cons_of_mem _ hq, hoff, (fun _ h => nomatch h), ?_, List.forall_mem_cons.mpr ⟨rfl, fun _ h => nomatch h⟩, ?_⟩
      · show _ = _
        rw [turned_take hc, tstep, if_pos (sign_B.mp hb)]
      · intro z h2 h3
        have e1 : z ≠ Str.ofString "turned" := h2 _ List.mem_cons_self
        have e2 : z ≠ Str.ofString "step" := by rintro rfl; exact absurd h3 (by decide)
        simp [kstB, e1, e2]
    · rename (_ == _) = false => hb
      rename Fr _ _ _ _ => F9; rename News _ _ _ _ => N9
      refine ⟨(turnedF (row.cps.toList.take i) + 1, _), _, _, _, _, rfl, F9, N9, List.mem_cons_self, fun q hq => List.mem_cons_of_mem _ hq, hoff, (fun _ h => nomatch h), ?_, List.forall_mem_cons.mpr ⟨rfl, fun _ h => nomatch h⟩, ?_⟩
      · show _ = _
        rw [turned_take hc, tstep, if_neg (fun e => by rw [sign_B.mpr e] at hb; cases hb)]
      · intro z h2 h3
        have e1 : z ≠ Str.ofString "turned" := h2 _ List.mem_cons_self
        have e2 : z ≠ Str.ofString "step" := by rintro rfl; exact absurd h3 (by decide)
        simp [kstB, e1, e2]
  case done =>
    rintro ⟨k, tk1⟩ u h tk hk1 F2 N2
    dsimp only at hk1 F2 N2
    have hk2 : k = turnedF row.cps.toList := by rw [hk1, List.take_of_length_le (by simp)]
    repeat' (first | (k_unfold; (try dsimp only)) | (k_end; kc_close) | ((with_reducible show wpAny _ _ (exec (Stmt.For (Expr.Name ..) (Expr.Name ..) (_ :: _) [] ..) _) _ _ _); with_reducible (k_here; k_dflt (refine for_hold (by k_asm) (by rfl) (by rfl) ?_ (by intro _; rfl) (by passes_own)); refine Hold.mk ?_)) | ((with_reducible show wpAny _ _ (execs (_ :: _) _) _ _ _); with_reducible (k_here; k_gentoks)) | ((with_reducible show wpAny _ _ (execs (_ :: _) _) _ _ _); with_reducible (k_here; refine execs_cons_H ?_; intro q9K q9hK q9hK2)) | ((with_reducible show Back ..); (k_here; first | refine Back.next (by with_reducible assumption) ?_ | refine Back.other (by with_reducible assumption) (fun h => Flow.noConfusion h) ?_)) | walk1 | (dsimp only; walk1) | (leave1; (try dsimp only)))
    · rename Txt.count _ _ = _ => hb
      refine hret _ _ _ _ ⟨rfl, ?_⟩ (by assumption) (by assumption)
      rw [goesF, ← hk2, decide_eq_true hb, Bool.true_and]
      rfl
    · rename Txt.count _ _ ≠ _ => hb
      refine hret _ _ _ _ ⟨rfl, ?_⟩ (by assumption) (by assumption)
      rw [goesF, decide_eq_false hb, Bool.false_and]
      exact congrArg Value.bool (decide_eq_false hb)
end Mine
end
section
open PySem PySem.W PySem.Calls PyProof.Rows PySem.Spec
set_option Elab.async false
set_option maxRecDepth 100000
namespace Mine
theorem halve_run (c : Nat) (r : List Nat) (hc : c ≠ 92) : ∀ n, repL [92, 92] [92] 0 (List.replicate n 92 ++ c :: r) = List.replicate ((n + 1) / 2) 92 ++ c :: repL [92, 92] [92] 0 r
  | 0 => by
    have : ([92, 92] : List Nat).isPrefixOf (c :: r) = false := by simp [List.isPrefixOf, Ne.symm hc]
    show repL [92, 92] [92] 0 (c :: r) = _
    rw [repL_cons, this]; simp
  | 1 => by
    have h0 : ([92, 92] : List Nat).isPrefixOf (c :: r) = false := by simp [List.isPrefixOf, Ne.symm hc]
    have h1 : ([92, 92] : List Nat).isPrefixOf (92 :: c :: r) = false := by simp [List.isPrefixOf, Ne.symm hc]
    show repL [92, 92] [92] 0 (92 :: c :: r) = _
    rw [repL_cons, h1]
    simp only [Bool.false_eq_true, if_false]
    rw [repL_cons, h0]; simp
  | n + 2 => by
    have ih := halve_run c r hc n
    show repL [92, 92] [92] 0 (92 :: 92 :: (List.replicate n 92 ++ c :: r)) = _
    have h1 : ([92, 92] : List Nat).isPrefixOf (92 :: 92 :: (List.replicate n 92 ++ c :: r)) = true := by simp [List.isPrefixOf]
    rw [repL_cons, if_pos h1]
    show [92] ++ repL [92, 92] [92] 1 (92 :: (List.replicate n 92 ++ c :: r)) = _
    show [92] ++ repL [92, 92] [92] 0 (List.replicate n 92 ++ c :: r) = _
    rw [ih, show (n + 2 + 1) / 2 = (n + 1) / 2 + 1 by omega, List.replicate_succ]
    simp
theorem drop_run (c : Nat) (r : List Nat) (hc : c ≠ 92) : ∀ n, repL [92, 34] [34] 0 (List.replicate n 92 ++ c :: r) = List.replicate (if c = 34 then n - 1 else n) 92 ++ c :: repL [92, 34] [34] 0 r
  | 0 => by
    have : ([92, 34] : List Nat).isPrefixOf (c :: r) = false := by simp [List.isPrefixOf, Ne.symm hc]
    show repL [92, 34] [34] 0 (c :: r) = _
    rw [repL_cons, this]; simp
  | 1 => by
    have h0 : ([92, 34] : List Nat).isPrefixOf (c :: r) = false := by simp [List.isPrefixOf, Ne.symm hc]
    show repL [92, 34] [34] 0 (92 :: c :: r) = _
    by_cases hq : c = 34
    · subst hq
      have h1 : ([92, 34] : List Nat).isPrefixOf (92 :: 34 :: r) = true := by simp [List.isPrefixOf]
      rw [repL_cons, if_pos h1]
      show [34] ++ repL [92, 34] [34] 1 (34 :: r) = _
      show [34] ++ repL [92, 34] [34] 0 r = _
      simp
    · have h1 : ([92, 34] : List Nat).isPrefixOf (92 :: c :: r) = false := by simp [List.isPrefixOf, Ne.symm hq]
      rw [repL_cons, h1]
      simp only [Bool.false_eq_true, if_false]
      rw [repL_cons, h0]; simp [hq]
  | n + 2 => by
    have ih := drop_run c r hc (n + 1)
    have h1 : ([92, 34] : List Nat).isPrefixOf (92 :: 92 :: (List.replicate n 92 ++ c :: r)) = false := by simp [List.isPrefixOf]
    show repL [92, 34] [34] 0 (92 :: 92 :: (List.replicate n 92 ++ c :: r)) = _
    rw [repL_cons, h1]
    simp only [Bool.false_eq_true, if_false]
    rw [List.replicate_succ, List.cons_append] at ih
    rw [ih]
    by_cases hq : c = 34
    · simp [hq, List.replicate_succ]
    · simp [hq, List.replicate_succ]
theorem dbl_run (c : Nat) (r : List Nat) (hc : c ≠ 92) : ∀ n, repL [92] [92, 92] 0 (List.replicate n 92 ++ c :: r) = List.replicate (2 * n) 92 ++ c :: repL [92] [92, 92] 0 r
  | 0 => by
    have : ([92] : List Nat).isPrefixOf (c :: r) = false := by simp [List.isPrefixOf, Ne.symm hc]
    show repL [92] [92, 92] 0 (c :: r) = _
    rw [repL_cons, this]; simp
  | n + 1 => by
    have h1 : ([92] : List Nat).isPrefixOf (92 :: (List.replicate n 92 ++ c :: r)) = true := by simp [List.isPrefixOf]
    show repL [92] [92, 92] 0 (92 :: (List.replicate n 92 ++ c :: r)) = _
    rw [repL_cons, if_pos h1]
    show [92, 92] ++ repL [92] [92, 92] 0 (List.replicate n 92 ++ c :: r) = _
    rw [dbl_run c r hc n, show 2 * (n + 1) = 2 * n + 1 + 1 by omega, List.replicate_succ, List.replicate_succ]
    simp
theorem quo_run (c : Nat) (r : List Nat) : ∀ n, repL [34] [92, 34] 0 (List.replicate n 92 ++ c :: r) = List.replicate (if c = 34 then n + 1 else n) 92 ++ c :: repL [34] [92, 34] 0 r
  | 0 => by
    show repL [34] [92, 34] 0 (c :: r) = _
    by_cases hq : c = 34
    · subst hq
      have h1 : ([34] : List Nat).isPrefixOf (34 :: r) = true := by simp [List.isPrefixOf]
      rw [repL_cons, if_pos h1]
      show [92, 34] ++ repL [34] [92, 34] 0 r = _
      simp
    · have h1 : ([34] : List Nat).isPrefixOf (c :: r) = false := by simp [List.isPrefixOf, Ne.symm hq]
      rw [repL_cons, h1]; simp [hq]
  | n + 1 => by
    have h1 : ([34] : List Nat).isPrefixOf (92 :: (List.replicate n 92 ++ c :: r)) = false := by simp [List.isPrefixOf]
    show repL [34] [92, 34] 0 (92 :: (List.replicate n 92 ++ c :: r)) = _
    rw [repL_cons, h1]
    simp only [Bool.false_eq_true, if_false]
    rw [quo_run c r n]
    by_cases hq : c = 34
    · simp [hq, List.replicate_succ]
    · simp [hq, List.replicate_succ]
theorem enc_map (a b : List Nat) (f : Nat × Nat → Nat) (h : ∀ c r n, c ≠ 92 → repL a b 0 (List.replicate n 92 ++ c :: r) = List.replicate (f (n, c)) 92 ++ c :: repL a b 0 r) :
    ∀ ts : List (Nat × Nat), Plain ts → repL a b 0 (enc ts) = enc (ts.map fun t => (f t, t.2))
  | [], _ => rfl
  | (n, c) :: r, hp => by
    rw [enc, h c _ n (hp _ List.mem_cons_self), enc_map a b f h r fun t ht => hp t (List.mem_cons_of_mem _ ht)]
    rfl
theorem halve_enc {ts : List (Nat × Nat)} (hp : Plain ts) : repL [92, 92] [92] 0 (enc ts) = enc (ts.map fun t => ((t.1 + 1) / 2, t.2)) := enc_map _ _ (fun t => (t.1 + 1) / 2) (fun c r n hc => halve_run c r hc n) ts hp
theorem drop_enc {ts : List (Nat × Nat)} (hp : Plain ts) : repL [92, 34] [34] 0 (enc ts) = enc (ts.map fun t => (if t.2 = 34 then t.1 - 1 else t.1, t.2)) := enc_map _ _ (fun t => if t.2 = 34 then t.1 - 1 else t.1) (fun c r n hc => drop_run c r hc n) ts hp
theorem dbl_enc {ts : List (Nat × Nat)} (hp : Plain ts) : repL [92] [92, 92] 0 (enc ts) = enc (ts.map fun t => (2 * t.1, t.2)) := enc_map _ _ (fun t => 2 * t.1) (fun c r n hc => dbl_run c r hc n) ts hp
theorem quo_enc {ts : List (Nat × Nat)} (hp : Plain ts) : repL [34] [92, 34] 0 (enc ts) = enc (ts.map fun t => (if t.2 = 34 then t.1 + 1 else t.1, t.2)) := enc_map _ _ (fun t => if t.2 = 34 then t.1 + 1 else t.1) (fun c r n _ => quo_run c r n) ts hp
theorem plain_map {ts : List (Nat × Nat)} (f : Nat × Nat → Nat) (hp : Plain ts) : Plain (ts.map fun t => (f t, t.2)) := by
  intro t ht
  obtain ⟨u, hu, rfl⟩ := List.mem_map.mp ht
  exact hp u hu
theorem pair_halve : pairOf 66 = (⟨#[92, 92]⟩, ⟨#[92]⟩) := by decide +kernel
theorem pair_drop {c : Nat} (h : c ≠ 66) : pairOf c = (⟨#[92, 34]⟩, ⟨#[34]⟩) := by
  rw [pairOf, if_neg h]; decide +kernel
theorem repl1_step {x : Str} {ts : List (Nat × Nat)} (c : Nat) (hx : x.cps.toList = enc ts) (hp : Plain ts) : (repl1 x (pairOf c)).cps.toList = enc (ts.map (runT [c])) := by
  unfold repl1
  by_cases hc : c = 66
  · subst hc
    rw [pair_halve, repl1_list _ _ _ (by decide) (by decide +kernel), hx]
    show repL [92, 92] [92] 0 (enc ts) = _
    rw [halve_enc hp]
    congr 1
  · rw [pair_drop hc, repl1_list _ _ _ (by decide) (by decide +kernel), hx]
    show repL [92, 34] [34] 0 (enc ts) = _
    rw [drop_enc hp]
    congr 1
    refine List.map_congr_left fun t _ => ?_
    unfold runT runN stepN
    by_cases hq : t.2 = 34
    · simp [hq, hc]
    · simp [hq, hc]
theorem replAll_row : ∀ (row : List Nat) (x : Str) (ts : List (Nat × Nat)), x.cps.toList = enc ts → Plain ts → (replAll x (row.map pairOf)).cps.toList = enc (ts.map (runT row))
  | [], x, ts, hx, _ => by
    show x.cps.toList = _
    rw [hx]
    congr 1
    exact (List.map_id' ts).symm
  | c :: row, x, ts, hx, hp => by
    show (replAll (repl1 x (pairOf c)) (row.map pairOf)).cps.toList = _
    rw [replAll_row row _ _ (repl1_step c hx hp) (plain_map (fun t => (runT [c] t).1) hp), List.map_map]
    rfl
end Mine
end
section
open PySem PySem.W PySem.Calls PyProof.Rows PySem.Spec
set_option Elab.async false
set_option maxRecDepth 100000
namespace Mine
noncomputable def escT (t : Nat × Nat) : Nat × Nat := (2 * t.1 + (if t.2 = 34 then 1 else 0), t.2)
theorem escF_enc {v : Str} {ts : List (Nat × Nat)} (hv : v.cps.toList = enc ts) (hp : Plain ts) : (escF v).cps.toList = enc (ts.map escT) := by
  unfold escF
  have e1 : Str.ofString "\\" = ⟨#[92]⟩ := by decide +kernel
  have e2 : Str.ofString "\\\\" = ⟨#[92, 92]⟩ := by decide +kernel
  have e3 : Str.ofString "\"" = ⟨#[34]⟩ := by decide +kernel
  have e4 : Str.ofString "\\\"" = ⟨#[92, 34]⟩ := by decide +kernel
  rw [e1, e2, e3, e4, StrLaws.replace_one, StrLaws.replace_one, ← join_eq, ← join_eq, repl1_list _ _ _ (by decide) (by decide +kernel), repl1_list _ _ _ (by decide) (by decide +kernel), hv]
  show repL [34] [92, 34] 0 (repL [92] [92, 92] 0 (enc ts)) = _
  rw [dbl_enc hp, quo_enc (plain_map (fun t => 2 * t.1) hp), List.map_map]
  congr 1
  refine List.map_congr_left fun t _ => ?_
  show (if t.2 = 34 then 2 * t.1 + 1 else 2 * t.1, t.2) = (2 * t.1 + (if t.2 = 34 then 1 else 0), t.2)
  split <;> rfl
noncomputable def textL : Nat → Str → Str
  | 0, v => v
  | d + 1, v => fmtF (Str.ofString "k-1") (textL d v)
noncomputable def kT : List (Nat × Nat) := [(0, 107), (0, 45), (0, 49), (0, 61)]
noncomputable def deepT : Nat → List (Nat × Nat) → List (Nat × Nat × Nat)
  | 0, T => T.map fun t => (0, t)
  | d + 1, T => kT.map (fun t => (0, t)) ++ (0, 0, 34) :: (deepT d T).map (fun t => (t.1 + 1, t.2)) ++ [(0, 0, 34)]
noncomputable def bareL : Nat → List Nat → List Nat
  | 0, l => l
  | d + 1, l => [107, 45, 49, 61, 34] ++ bareL d l ++ [34]
theorem lineT_succ (t : Nat × Nat × Nat) : lineT (t.1 + 1, t.2) = escT (lineT t) := by
  obtain ⟨k, n, c⟩ := t
  show (2 ^ (k + 1) * n + (if c = 34 then 2 ^ (k + 1) - 1 else 0), c) = (2 * (2 ^ k * n + (if c = 34 then 2 ^ k - 1 else 0)) + (if c = 34 then 1 else 0), c)
  have hp : 1 ≤ 2 ^ k := Nat.one_le_two_pow
  have e : 2 ^ (k + 1) * n = 2 * (2 ^ k * n) := by rw [Nat.pow_succ]; simp only [Nat.mul_comm, Nat.mul_left_comm]
  have e2 : 2 ^ (k + 1) = 2 * 2 ^ k := by rw [Nat.pow_succ, Nat.mul_comm]
  rw [e]
  split
  · rw [e2, Nat.mul_add, Nat.mul_sub]; congr 1; omega
  · simp
theorem lineT_zero (t : Nat × Nat) : lineT (0, t) = t := by
  obtain ⟨n, c⟩ := t
  show (2 ^ 0 * n + (if c = 34 then 2 ^ 0 - 1 else 0), c) = (n, c)
  simp
theorem fmt_toList (v : Str) : (fmtF (Str.ofString "k-1") v).cps.toList = [107, 45, 49, 61, 34] ++ (escF v).cps.toList ++ [34] := by
  have e1 : (Str.ofString "k-1").cps.toList = [107, 45, 49] := by decide +kernel
  have e2 : (Str.ofString "=\"").cps.toList = [61, 34] := by decide +kernel
  have e3 : (Str.ofString "\"").cps.toList = [34] := by decide +kernel
  simp only [fmtF, Str.cps_append, Array.toList_append, e1, e2, e3]
  simp [Str.empty]
theorem deep_plain {T : List (Nat × Nat)} (hp : Plain T) : ∀ d, ∀ t ∈ deepT d T, t.2.2 ≠ 92
  | 0, t, h => by
    obtain ⟨u, hu, rfl⟩ := List.mem_map.mp h
    exact hp u hu
  | d + 1, t, h => by
    rw [deepT] at h
    simp only [List.mem_append, List.mem_cons, List.not_mem_nil, or_false] at h
    rcases h with (h | h | h) | h
    · obtain ⟨u, hu, rfl⟩ := List.mem_map.mp h
      simp only [kT, List.mem_cons, List.not_mem_nil, or_false] at hu
      rcases hu with rfl | rfl | rfl | rfl <;> decide
    · rw [h]; decide
    · obtain ⟨u, hu, rfl⟩ := List.mem_map.mp h
      exact deep_plain hp d u hu
    · rw [h]; decide
theorem plain_line {P : List (Nat × Nat × Nat)} (h : ∀ t ∈ P, t.2.2 ≠ 92) : Plain (P.map lineT) := by
  intro t ht
  obtain ⟨u, hu, rfl⟩ := List.mem_map.mp ht
  exact h u hu
theorem plain_bare {P : List (Nat × Nat × Nat)} (h : ∀ t ∈ P, t.2.2 ≠ 92) : Plain (P.map bareT) := by
  intro t ht
  obtain ⟨u, hu, rfl⟩ := List.mem_map.mp ht
  exact h u hu
theorem text_enc {v : Str} {T : List (Nat × Nat)} (hv : v.cps.toList = enc T) (hp : Plain T) : ∀ d, (textL d v).cps.toList = enc ((deepT d T).map lineT)
  | 0 => by
    show v.cps.toList = _
    rw [hv, deepT, List.map_map]
    congr 1
    conv => lhs; rw [← List.map_id' T]
    exact List.map_congr_left fun t _ => (lineT_zero t).symm
  | d + 1 => by
    have ih := text_enc hv hp d
    show (fmtF (Str.ofString "k-1") (textL d v)).cps.toList = _
    rw [fmt_toList, escF_enc ih (plain_line (deep_plain hp d)), deepT]
    simp only [List.map_append, List.map_cons, List.map_map, List.map_nil, enc_append, enc, List.append_assoc, List.cons_append]
    have e : (lineT ∘ fun t : Nat × Nat × Nat => (t.1 + 1, t.2)) = escT ∘ lineT := funext lineT_succ
    rw [e]
    rfl
theorem bare_enc {l : List Nat} {T : List (Nat × Nat)} (hv : l = enc T) : ∀ d, bareL d l = enc ((deepT d T).map bareT)
  | 0 => by
    show l = _
    rw [hv, deepT, List.map_map]
    congr 1
    exact (List.map_id' T).symm
  | d + 1 => by
    have ih := bare_enc hv d
    rw [bareL, ih, deepT]
    simp only [List.map_append, List.map_cons, List.map_map, List.map_nil, enc_append, enc, List.append_assoc, List.cons_append]
    rfl
theorem deep_ok (T : List (Nat × Nat)) : ∀ d, Deep d (deepT d T)
  | 0, t, h => by
    obtain ⟨u, hu, rfl⟩ := List.mem_map.mp h
    exact ⟨Nat.le_refl _, .inl rfl⟩
  | d + 1, t, h => by
    rw [deepT] at h
    simp only [List.mem_append, List.mem_cons, List.not_mem_nil, or_false] at h
    rcases h with (h | h | h) | h
    · obtain ⟨u, hu, rfl⟩ := List.mem_map.mp h
      simp only [kT, List.mem_cons, List.not_mem_nil, or_false] at hu
      rcases hu with rfl | rfl | rfl | rfl <;> exact ⟨Nat.zero_le _, .inr rfl⟩
    · rw [h]; exact ⟨Nat.zero_le _, .inr rfl⟩
    · obtain ⟨u, hu, rfl⟩ := List.mem_map.mp h
      obtain ⟨h1, h2⟩ := deep_ok T d u hu
      refine ⟨Nat.succ_le_succ h1, ?_⟩
      rcases h2 with h2 | h2
      · left; show u.1 + 1 = d + 1; rw [h2]
      · exact .inr h2
    · rw [h]; exact ⟨Nat.zero_le _, .inr rfl⟩
theorem deep_mem {T : List (Nat × Nat)} {t : Nat × Nat} (ht : t ∈ T) : ∀ d, (d, t) ∈ deepT d T
  | 0 => List.mem_map.mpr ⟨t, ht, rfl⟩
  | d + 1 => by
    rw [deepT]
    refine List.mem_append_left _ (List.mem_append_right _ (List.mem_cons_of_mem _ ?_))
    exact List.mem_map.mpr ⟨(d, t), deep_mem ht d, rfl⟩
theorem enc_signs (l : List Nat) : enc (l.map fun c => (0, c)) = l := by
  induction l with
  | nil => rfl
  | cons c r ih => simp [enc, ih]
theorem row_lays {v : Str} {T : List (Nat × Nat)} (hv : v.cps.toList = enc T) (hp : Plain T) (ha : (2, 97) ∈ T) (hq : ∃ m, 3 ≤ m ∧ (m, 34) ∈ T) (d : Nat)
    {pre post : List Nat} (h1 : 92 ∉ pre) (h2 : 92 ∉ post) {line bare : Str} (hl : line.cps.toList = pre ++ (textL d v).cps.toList ++ post) (hb : bare.cps.toList = pre ++ bareL d v.cps.toList ++ post) (row : List Nat) :
    (replAll line (row.map pairOf) == bare) = goesN row d := by
  let P : List (Nat × Nat × Nat) := pre.map (fun c => (0, 0, c)) ++ deepT d T ++ post.map (fun c => (0, 0, c))
  have hP : ∀ t ∈ P, t.2.2 ≠ 92 := by
    intro t ht
    rcases List.mem_append.mp ht with ht | ht
    · rcases List.mem_append.mp ht with ht | ht
      · obtain ⟨c, hc, rfl⟩ := List.mem_map.mp ht
        exact fun e => h1 (e ▸ hc)
      · exact deep_plain hp d t ht
    · obtain ⟨c, hc, rfl⟩ := List.mem_map.mp ht
      exact fun e => h2 (e ▸ hc)
  have hD : Deep d P := by
    intro t ht
    rcases List.mem_append.mp ht with ht | ht
    · rcases List.mem_append.mp ht with ht | ht
      · obtain ⟨c, hc, rfl⟩ := List.mem_map.mp ht
        exact ⟨Nat.zero_le _, .inr rfl⟩
      · exact deep_ok T d t ht
    · obtain ⟨c, hc, rfl⟩ := List.mem_map.mp ht
      exact ⟨Nat.zero_le _, .inr rfl⟩
  have em : ∀ t ∈ deepT d T, t ∈ P := fun t ht => List.mem_append_left _ (List.mem_append_right _ ht)
  have z : ∀ l : List Nat, enc ((l.map fun c => ((0, 0, c) : Nat × Nat × Nat)).map lineT) = l := fun l => by
    rw [List.map_map]
    have : (lineT ∘ fun c => ((0, 0, c) : Nat × Nat × Nat)) = fun c => (0, c) := funext fun c => lineT_zero (0, c)
    rw [this, enc_signs]
  have z2 : ∀ l : List Nat, enc ((l.map fun c => ((0, 0, c) : Nat × Nat × Nat)).map bareT) = l := fun l => by
    rw [List.map_map]; exact enc_signs l
  have el : line.cps.toList = enc (P.map lineT) := by
    rw [hl, text_enc hv hp d]
    show _ = enc ((pre.map (fun c => (0, 0, c)) ++ deepT d T ++ post.map (fun c => (0, 0, c))).map lineT)
    rw [List.map_append, List.map_append, enc_append, enc_append, z, z]
  have eb : bare.cps.toList = enc (P.map bareT) := by
    rw [hb, bare_enc hv d]
    show _ = enc ((pre.map (fun c => (0, 0, c)) ++ deepT d T ++ post.map (fun c => (0, 0, c))).map bareT)
    rw [List.map_append, List.map_append, enc_append, enc_append, z2, z2]
  have key := good_iff (row := row) hD (em _ (deep_mem ha d)) (by obtain ⟨m, hm, hx⟩ := hq; exact ⟨m, hm, em _ (deep_mem hx d)⟩)
  have er := replAll_row row line _ el (plain_line hP)
  have hiff : replAll line (row.map pairOf) = bare ↔ goesN row d = true := by
    rw [← key]
    constructor
    · intro e
      rw [e, eb] at er
      exact (enc_inj (plain_bare hP) (plain_map (fun t => (runT row t).1) (plain_line hP)) er).symm
    · intro e
      rw [e, ← eb] at er
      exact Str.ext' (Array.toList_inj.mp er)
  by_cases hg : goesN row d = true
  · rw [hg]; exact beq_iff_eq.mpr (hiff.mpr hg)
  · rw [Bool.not_eq_true _ |>.mp hg]; exact beq_eq_false_iff_ne.mpr fun e => hg (hiff.mp e)
end Mine
end
section
open PySem PySem.W PySem.Calls PyProof.Rows PySem.Spec
set_option Elab.async false
set_option maxRecDepth 100000
namespace Mine
theorem cnt_countP (c : Nat) : ∀ l : List Nat, cnt c l = ((l.countP (· == c) : Nat) : Int)
  | [] => rfl
  | n :: r => by
    rw [cnt_cons, cnt_countP c r, List.countP_cons]
    by_cases h : n = c
    · simp [h]; omega
    · simp [h]
theorem turned_nat : ∀ (l : List Nat) (t : Nat), l.foldl tstep (t : Int) = ((tN l t : Nat) : Int)
  | [], _ => rfl
  | c :: l, t => by
    show l.foldl tstep (tstep (t : Int) c) = ((tN (c :: l) t : Nat) : Int)
    by_cases h : c = 66
    · have e : tstep (t : Int) c = ((t / 2 : Nat) : Int) := by
        rw [tstep, if_pos h]
        rw [Int.fdiv_eq_ediv_of_nonneg _ (by decide)]
        rfl
      have e2 : tN (c :: l) t = tN l (t / 2) := by simp [tN, h]
      rw [e, e2]
      exact turned_nat l _
    · have e : tstep (t : Int) c = ((t + 1 : Nat) : Int) := by
        rw [tstep, if_neg h]; rfl
      have e2 : tN (c :: l) t = tN l (t + 1) := by simp [tN, h]
      rw [e, e2]
      exact turned_nat l _
theorem goesF_nat (row : Str) (d : Nat) : goesF row (d : Int) = goesN row.cps.toList d := by
  have h1 : Txt.count row (Str.ofString "B") = ((bN row.cps.toList : Nat) : Int) := by
    rw [show Str.ofString "B" = ⟨#[66]⟩ from by decide +kernel, count_cnt, cnt_countP]; rfl
  have h2 : turnedF row.cps.toList = ((tN row.cps.toList 1 : Nat) : Int) := turned_nat _ 1
  unfold goesF goesN
  rw [h1, h2]
  congr 1
  · by_cases h : bN row.cps.toList = d
    · simp [h]
    · have : ((bN row.cps.toList : Nat) : Int) ≠ (d : Int) := by omega
      simp [h, this]
  · by_cases h : tN row.cps.toList 1 = 1
    · simp [h]
    · have : ((tN row.cps.toList 1 : Nat) : Int) ≠ 1 := by omega
      simp [h, this]
theorem row_lays' {v : Str} {T : List (Nat × Nat)} (hv : v.cps.toList = enc T) (hp : Plain T) (ha : (2, 97) ∈ T) (hq : ∃ m, 3 ≤ m ∧ (m, 34) ∈ T) (d : Nat)
    {pre post : List Nat} (h1 : 92 ∉ pre) (h2 : 92 ∉ post) {line bare : Str} (hl : line.cps.toList = pre ++ (textL d v).cps.toList ++ post) (hb : bare.cps.toList = pre ++ bareL d v.cps.toList ++ post) (row : Str) :
    (replAll line (pairsOf row) == bare) = goesF row (d : Int) := by
  rw [goesF_nat]
  exact row_lays hv hp ha hq d h1 h2 hl hb row.cps.toList
theorem tail_toks (l : List Nat) : ∃ T, l ++ [92, 92, 92, 34, 97, 92, 92, 97] = enc T ∧ Plain T ∧ (2, 97) ∈ T ∧ ∃ m, 3 ≤ m ∧ (m, 34) ∈ T := by
  refine ⟨dec 0 (l ++ [92, 92, 92, 34, 97, 92, 92, 97]), ?_, dec_plain _ _, ?_⟩
  · have := enc_dec 97 (by decide) (l ++ [92, 92, 92, 34, 97, 92, 92]) 0
    simp only [List.append_assoc, List.cons_append, List.nil_append] at this
    rw [this]; rfl
  · have key : ∀ (l : List Nat) (n : Nat), (2, 97) ∈ dec n (l ++ [92, 92, 92, 34, 97, 92, 92, 97]) ∧ ∃ m, 3 ≤ m ∧ (m, 34) ∈ dec n (l ++ [92, 92, 92, 34, 97, 92, 92, 97]) := by
      intro l
      induction l with
      | nil =>
        intro n
        have e : dec n ([] ++ [92, 92, 92, 34, 97, 92, 92, 97]) = [(n + 1 + 1 + 1, 34), (0, 97), (2, 97)] := rfl
        rw [e]
        exact ⟨by simp, n + 3, by omega, by simp⟩
      | cons c r ih =>
        intro n
        rw [List.cons_append, dec]
        split
        · exact ih (n + 1)
        · obtain ⟨h1, m, hm, h2⟩ := ih 0
          exact ⟨List.mem_cons_of_mem _ h1, m, hm, List.mem_cons_of_mem _ h2⟩
    exact key l 0
end Mine
end
section
open PySem PySem.W PySem.Calls PyProof.Rows
set_option Elab.async false
set_option maxRecDepth 100000
set_option maxHeartbeats 8000000
namespace Mine
theorem anew_CAddI : True := by
  w_top off
  exact True.intro
local macro_rules | `(tactic| k_all) => `(tactic| exact rest_ne (by assumption))
local macro_rules | `(tactic| k_all) => `(tactic| assumption)
theorem k2_name : Txt.replace (Str.ofString "k_2") (Str.ofString "_") (Str.ofString "-") = Str.ofString "k-2" := by decide +kernel
theorem c_addI {w : World} {p : Program} {loose : List Str} {mean : ExcName → Option Value} {mg mb : Str → Option Value} {rest : List (Addr × Obj)} (x d l : Addr) (hs : Int) (tk : Tok) (k : Nat) (its : List Value) (n : Nat) (v : Str) (tn ta tv t3 : Tok)
    (hxl : x ≠ l) (hdl : d ≠ l) (hrl : ∀ q ∈ rest, q.1 ≠ l) (hi : its.length ≤ 10) (hv : v.length ≤ 300) (hv0 : v.length ≠ 0) (hg : goodV v) :
   CtK w p loose mean mg mb 181 [.ref x, .str (Str.ofString "Nest") tn, .str (Str.ofString "a") ta] [(Str.ofString "k_2", .str v tv), (Str.ofString "k_3", .str (Str.ofString "") t3), (Str.ofString "k_4", .none)] 8 40 (tabled x d l hs tk k its n rest)
     (fun r n' => ∃ T t, r = .none ∧ n' = (T, tupObj [.str (Str.ofString "Nest") tn, .str (Txt.join (Str.ofString "; ") [Str.ofString "a", fmtF (Str.ofString "k-2") v, Str.ofString "k-3", Str.ofString "k-4"]) t]) :: tabled x d l hs tk k (its ++ [.ref T]) (n + 1) rest ∧ x < T ∧ d < T ∧ l < T ∧ ∀ q ∈ rest, q.1 < T) := by
  unfold CtK; k_fill
  intro dp un gd cn nm' ig ic mr a ccd cl outer A₀ base h₀ L m s Q E B F X N T hd hu hret
  refine wpAny_call ?_
  k_dflt k_enter
  have hfl : (fmtF (Txt.replace (Str.ofString "k_2") (Str.ofString "_") (Str.ofString "-")) v).length ≤ 10 + 9 * v.length := by
    have := fmtF_len (Txt.replace (Str.ofString "k_2") (Str.ofString "_") (Str.ofString "-")) v
    rw [show (Txt.replace (Str.ofString "k_2") (Str.ofString "_") (Str.ofString "-")).length = 3 from by decide +kernel] at this
    omega
  have hl3 : (Txt.replace (Str.ofString "k_3") (Str.ofString "_") (Str.ofString "-")).length = 3 := by decide +kernel
  have hl4 : (Txt.replace (Str.ofString "k_4") (Str.ofString "_") (Str.ofString "-")).length = 3 := by decide +kernel
  have hl3' : (Str.ofString "k-3").length = 3 := by decide +kernel
  have hl4' : (Str.ofString "k-4").length = 3 := by decide +kernel
  have hla : (Str.ofString "a").length = 1 := by decide +kernel
  have hk2 : goodN (Str.ofString "k_2") := by unfold goodN; decide +kernel
  have hk3 : goodN (Str.ofString "k_3") := by unfold goodN; decide +kernel
  have hk4 : goodN (Str.ofString "k_4") := by unfold goodN; decide +kernel
  have hkn : goodN (Str.ofString "Nest") := by unfold goodN; decide +kernel
  have hka : goodV (Str.ofString "a") := by unfold goodV; decide +kernel
  have hke : goodV (Str.ofString "") := by unfold goodV; decide +kernel
  repeat' (first | (k_unfold; (try dsimp only)) | (k_end; kc_close) | ((with_reducible show wpAny _ _ (exec (Stmt.For (Expr.Tuple ..) (Expr.Call ..) ..) _) _ _ _); with_reducible (k_here; (with_reducible rename Obj.IsDictOf _ _ _ => q9dictLook); (rename Fr _ _ _ _ => q9F'); (rename News _ _ _ _ => q9N'); with_unfolding_all ((refine For_pair_unrF q9F' ?_ (by intro _; rfl)); (refine MethodCall_ ?_); (refine ld q9F' (by rfl) ?_); (refine getMethod_tab PySem.F.slot_dict_items PySem.F.type_dict_items (by exact TabAt.ofNews q9N' (by k_mem) (by assumption) q9dictLook (by assumption)) ?_); (refine callWith_method0 ?_); (refine call_items_tab (by exact TabAt.ofNews q9N' (by k_mem) (by assumption) q9dictLook (by assumption)) q9F' q9N' ?_)); intro _ _ q9hv5' q9F5' q9N5'; (refine iter_items (by rfl) (by rfl) (by rfl) (by rfl) q9hv5' (by k_mem) q9dictLook q9F5' (fun p hp => q9N5' p (List.mem_cons_of_mem _ hp)) (by first | assumption | exact Nat.succ_pos _) ?_ (by passes_own)))) | ((with_reducible show wpAny _ _ (call (Value.builtin "str.join") [Value.str _ _, Value.ref _]) _ _ _); with_reducible (k_dflt (refine' my_join (by exact News.isList (by k_asm) (by k_mem)) (by first | exact .cons _ _ .nil | exact .cons _ _ (.cons _ _ (.cons _ _ (.cons _ _ .nil)))) (by first | decide +kernel | ((simp only [List.map_cons, List.map_nil, List.sum_cons, List.sum_nil, List.length_cons, List.length_nil, show (Str.ofString "; ").length = 2 from by decide +kernel]); omega)) ?_); intro _ _ _)) | ((with_reducible show wpAny _ _ (call (Value.builtin "str.replace") [Value.str _ _, Value.str _ _, Value.str _ _]) _ _ _); with_reducible (refine my_replace (by first | omega | (dsimp only at *; omega)) (by first | omega | (dsimp only at *; omega)) (by first | omega | (dsimp only at *; omega)) (by decide +kernel) (by first | omega | decide +kernel | (simp only [show (Str.ofString "\\\\").length = 2 from by decide +kernel, show (Str.ofString "\\\"").length = 2 from by decide +kernel]; omega)) ?_; intro _ _ _)) | ((with_reducible show wpAny _ _ (call (Value.ref 61) [Value.str _ _, Value.str (Str.ofString "") _]) _ _ _); with_reducible (k_dflt (refine' c_fmt0 _ _ _ _ (by decide +kernel) _ _ _ _ _ _ _ _ _ _ _ _ _ _ _ _ _ _ _ _ (by k_asm) (by k_asm) (by k_in) (by k_asm) (by k_asm) (by k_room) (by k_room) ?_); intro q9rv q9h' q9tk' q9nw q9hr q9F'; refine park2 q9rv q9nw ?_; intro q9Kp q9hKp; obtain ⟨q9en, q9tt, q9er⟩ := q9hr; cases q9en; cases q9er; refine q9hKp _ _ ?_; clear q9hKp q9Kp; intro q9N')) | ((with_reducible show wpAny _ _ (call (Value.ref 61) [Value.str _ _, Value.str _ _]) _ _ _); with_reducible (k_dflt (refine' c_fmt _ _ _ _ (by assumption) (by first | omega | decide +kernel) (by first | omega | decide +kernel) _ _ _ _ _ _ _ _ _ _ _ _ _ _ _ _ _ _ _ _ (by k_asm) (by k_asm) (by k_in) (by k_asm) (by k_asm) (by k_room) (by k_room) ?_); intro q9rv q9h' q9tk' q9nw q9hr q9F'; refine park2 q9rv q9nw ?_; intro q9Kp q9hKp; obtain ⟨q9en, q9tt, q9er⟩ := q9hr; cases q9en; cases q9er; refine q9hKp _ _ ?_; clear q9hKp q9Kp; intro q9N')) | ((with_reducible show wpAny _ _ (call (Value.ref 83) [Value.ref _, Value.str _ _] _) _ _ _); with_reducible (k_dflt (refine' c_convN _ _ _ (by first | with_reducible assumption | omega | decide +kernel) (by with_reducible assumption) _ _ _ _ _ _ _ _ _ _ _ _ _ _ _ _ _ _ _ _ (by k_asm) (by k_asm) (by k_in) (by k_asm) (by k_asm) (by first | (simp only [depth_deeper]; omega) | (dsimp only [Around.deeper]; omega) | ktr_room) (by first | (simp only [Around.deeper]; omega) | (dsimp only [Around.deeper]; omega) | ktr_room) ?_); intro q9rv q9h' q9tk' q9nw q9hr q9F'; refine park2 q9rv q9nw ?_; intro q9Kp q9hKp; obtain ⟨q9en, q9er⟩ := q9hr; cases q9en; cases q9er; refine q9hKp _ _ ?_; clear q9hKp q9Kp; intro q9N')) | ((with_reducible show wpAny _ _ (call (Value.ref 83) [Value.ref _, Value.str _ _] _) _ _ _); with_reducible (k_dflt (refine' c_convV _ _ _ (by first | with_reducible assumption | omega | decide +kernel) (by with_reducible assumption) _ _ _ _ _ _ _ _ _ _ _ _ _ _ _ _ _ _ _ _ (by k_asm) (by k_asm) (by k_in) (by k_asm) (by k_asm) (by first | (simp only [depth_deeper]; omega) | (dsimp only [Around.deeper]; omega) | ktr_room) (by first | (simp only [Around.deeper]; omega) | (dsimp only [Around.deeper]; omega) | ktr_room) ?_); intro q9rv q9h' q9tk' q9nw q9hr q9F'; refine park2 q9rv q9nw ?_; intro q9Kp q9hKp; obtain ⟨q9en, q9er⟩ := q9hr; cases q9en; cases q9er; refine q9hKp _ _ ?_; clear q9hKp q9Kp; intro q9N')) | ((with_reducible show wpAny _ _ (execs (_ :: _) _) _ _ _); with_reducible (k_here; refine pos_toks (by first | exact Nat.succ_pos _ | exact Nat.add_pos_right _ (by decide) | assumption) ?_; (try (rename 0 < _ => hOld; clear hOld)); intro q9kT q9hT; refine execs_cons_H ?_; intro q9K q9hK q9hK2)) | ((with_reducible show wpAny _ _ (execs (_ :: _) _) _ _ _); with_reducible (k_here; refine execs_cons_H ?_; intro q9K q9hK q9hK2)) | ((with_reducible show wpAny _ _ (execs [] _) _ _ _); with_reducible (k_here; refine pos_toks (by first | exact Nat.succ_pos _ | exact Nat.add_pos_right _ (by decide) | assumption) ?_; (try (rename 0 < _ => hOld; clear hOld)); intro q9kT q9hT; refine wpAny_execs_nil ?_)) | ((with_reducible show Back ..); (k_here; first | refine Back.next (by with_reducible assumption) ?_ | refine Back.other (by with_reducible assumption) (fun h => Flow.noConfusion h) ?_)) | ((with_reducible show UnrEnd ..); (k_here; refine UnrEnd.mk (by assumption) (by assumption) (by (refine OffAll.to ?_); (simp only [OffAll]); assumption) (by k_mem) ?_)) | ((with_reducible show UnrL ..); with_reducible (k_here; first | (with_reducible refine UnrL.nil ?_; intro _ _ _ _ _) | (with_reducible refine UnrL.cons ?_; (try (rename _ ∧ _ ∧ _ ∧ _ ∧ _ ∧ OffAll _ _ => hOld; clear hOld)); intro _ _ _ _ _ _ q9hoff _ _; (have q9hoff' := OffAll.of q9hoff); (simp only [OffAll] at q9hoff')))) | walk1 | (dsimp only; walk1) | (leave1; (try dsimp only)))
  rename Fr h₀ L _ m => kF; rename News h₀ L _ _ => kN
  rw [k2_name] at kN
  rename _ ∧ _ ∧ _ ∧ _ ∧ _ ∧ AllLt _ rest => hl2
  exact hret _ _ _ _ ⟨_, _, rfl, rfl, hl2.2.2.1, hl2.2.2.2.1, hl2.2.2.2.2.1, allLt_mem hl2.2.2.2.2.2⟩ kF (cb_drop kN fun q hq => by
    simp only [tabled, List.mem_cons] at hq ⊢
    rcases hq with h | h | h | h | h
    · exact .inl h
    · exact .inr (.inr (.inr (.inl h)))
    · exact .inr (.inr (.inr (.inr (.inl h))))
    · exact .inr (.inr (.inr (.inr (.inr (.inl (h.trans (by rw [List.push_toArray])))))))
    · exact .inr (.inr (.inr (.inr (.inr (.inr h))))))
end Mine
end
section
open PySem PySem.W PySem.Calls PyProof.Rows
set_option Elab.async false
set_option maxRecDepth 100000
set_option maxHeartbeats 8000000
namespace Mine
theorem anew_CRef : True := by
  w_top off
  exact True.intro
theorem c_refG {w : World} {p : Program} {loose : List Str} {mean : ExcName → Option Value} {mg mb : Str → Option Value} {rest : List (Addr × Obj)} (x d l : Addr) (hs : Int) (tk : Tok) (k : Nat) (its : List Value) (n : Nat) (nm v : Str) (tn tv : Tok)
    (hxl : x ≠ l) (hdl : d ≠ l) (hrl : ∀ q ∈ rest, q.1 ≠ l) (hi : its.length ≤ 10) (hv : v.length ≤ 300) (hv0 : v.length ≠ 0) (hg : goodV v) (hn : nm.length ≤ 10) (hgn : goodN nm) (hk1 : goodN (Str.ofString "k_1")) :
   Ct w p loose mean mg mb 216 [.ref x, .str nm tn, .str v tv] 12 60 (tabled x d l hs tk k its n rest)
     (fun r n' => ∃ T t tr, r = .str (Str.ofString "") tr ∧ n' = (T, tupObj [.str nm tn, .str (fmtF (Str.ofString "k-1") v) t]) :: tabled x d l hs tk k (its ++ [.ref T]) (n + 1) rest ∧ x < T ∧ d < T ∧ l < T ∧ ∀ q ∈ rest, q.1 < T) := by
  unfold Ct; k_fill
  intro dp un gd cn nm' ig ic mr a ccd cl outer A₀ base h₀ L m s Q E B F X N T hd hu hret
  ((refine wpAny_call ?_; k_dflt (refine' code_def ?k1 ?k2 ?k3 ?k4 ?k5 ?kA ?kF ?kK ?k6 ?k7 ?k8 ?k9 ?kB ?_ ?c2 ?c3 ?c4 ?c5; (case kA => exact rfl); (case kF => exact rfl); (case kK => exact rfl); (case k1 => k_asm); (case k2 => k_asm); (case k3 => k_asm); (case k4 => k_asm); (case k5 => k_asm); (case k6 => k_is); (case k7 => k_is); (case k8 => ktr_room); (case k9 => first | exact BindsTo.of_eq rfl | exact binds_K (by k_in) rfl (by k_is) rfl rfl rfl); (case c5 => decide); (case kB => exact locs rfl); (case c2 => exact rfl); (case c3 => exact rfl); (case c4 => exact rfl); k_whole; intro g' L' h' FG' F' N' B' X' T'; (try dsimp only); (try k_lift B'); (try k_fold))))
  repeat' (first | (k_unfold; (try dsimp only)) | (k_end; kc_close) | ((with_reducible show wpAny _ _ (call (Value.ref 181) [Value.ref _, Value.str _ _, Value.none] _) _ _ _); with_reducible (k_dflt (refine' c_add1 _ _ _ _ _ _ _ _ _ _ _ _ 0 (by assumption) (by assumption) (by assumption) ?_ (by first | assumption | omega) (by first | assumption | omega) (by assumption) (by first | assumption | omega) (by assumption) (by assumption) _ _ _ _ _ _ _ _ _ _ _ _ _ _ _ _ _ _ _ _ (by k_asm) (by k_asm) (by k_in) (by k_asm) (by k_asm) (by k_room) (by k_room) ?_; (try any_goals ((fail_if_success with_reducible show wpAny _ _ _ _ _ _); first | exact Nat.zero_le _ | assumption | omega))); intro q9rv q9h' q9tk' q9nw q9hr q9F'; refine park2 q9rv q9nw ?_; intro q9Kp q9hKp; obtain ⟨q9TT, q9tt, q9er, q9en, q9ho⟩ := q9hr; cases q9en; cases q9er; refine q9hKp _ _ ?_; clear q9hKp q9Kp; intro q9N')) | ((with_reducible show wpAny _ _ (execs (_ :: _) _) _ _ _); with_reducible (k_here; k_gentoks)) | ((with_reducible show wpAny _ _ (execs (_ :: _) _) _ _ _); with_reducible (k_here; refine execs_cons_H ?_; intro q9K q9hK q9hK2)) | ((with_reducible show Back ..); (k_here; first | refine Back.next (by with_reducible assumption) ?_ | refine Back.other (by with_reducible assumption) (fun h => Flow.noConfusion h) ?_)) | walk1 | (dsimp only; walk1) | (leave1; (try dsimp only)))
  rename x < _ ∧ _ ∧ _ ∧ _ => ho
  rename Fr h₀ L _ m => kF; rename News h₀ L _ _ => kN
  exact hret _ _ _ _ ⟨_, _, _, rfl, rfl, ho⟩ kF kN
end Mine
end
section
open PySem PySem.W PySem.Calls PyProof.Rows
set_option Elab.async false
set_option maxRecDepth 100000
set_option maxHeartbeats 8000000
namespace Mine
theorem anew_CRefB : True := by
  w_top off
  exact True.intro
local macro_rules | `(tactic| k_all) => `(tactic| exact rest_ne (by assumption))
theorem my_raise {prog : Program} {w : World} {A : Around} {E : Value → Shared → Prop} {s : Shared} {rest : List Value} (h : ∀ h' e, Heap.MadeExc s.heap h' e "ValueError" rest → E (.ref e) { s with heap := h' }) (hrest : rest.length ≤ sizeLine := by size_fits) : wpAny (model prog w) A (call (.type "ValueError") rest) (Raisable E) E s :=
  wpAny_call_exc PySem.F.excCall_ValueError (fun h' e hm => raisable_of_new excClass_ValueError hm.newExc (h h' e hm)) hrest
noncomputable def wordsF : Str := Str.ofString "Control characters not allowed in headers"
theorem c_refB {w : World} {p : Program} {loose : List Str} {mean : ExcName → Option Value} {mg mb : Str → Option Value} {rest : List (Addr × Obj)} (x d l : Addr) (hs : Int) (tk : Tok) (k : Nat) (its : List Value) (n : Nat) (nm v : Str) (tn tv : Tok)
    (hv : v.length ≤ 300) (hg : hasBadV v) (hk1 : goodN (Str.ofString "k_1")) :
   CtL w p loose mean mg mb 216 [.ref x, .str nm tn, .str v tv] 12 60 (tabled x d l hs tk k its n rest)
     (fun r n' => ∃ tr, r = .str wordsF tr ∧ n' = tabled x d l hs tk k its n rest) := by
  unfold CtL; k_fill
  intro dp un gd cn nm' ig ic mr a ccd cl A₀ h₀ L m s Q E B F X N T hd hu hret
  ((refine wpAny_call ?_; k_dflt (refine' code_defSX ?k1 ?k2 ?k3 ?k4 ?k5 ?kA ?kF ?kK ?k6 ?k7 ?k8 ?k9 ?kB ?_ ?c2 ?c3 ?c4 ?c5; (case kA => exact rfl); (case kF => exact rfl); (case kK => exact rfl); (case k1 => k_asm); (case k2 => k_asm); (case k3 => k_asm); (case k4 => k_asm); (case k5 => k_asm); (case k6 => k_is); (case k7 => k_is); (case k8 => ktr_room); (case k9 => first | exact BindsTo.of_eq rfl | exact binds_K (by k_in) rfl (by k_is) rfl rfl rfl); (case c5 => decide); (case kB => exact locs rfl); (case c2 => exact rfl); (case c3 => exact rfl); (case c4 => exact rfl); k_whole; intro g' L' h' FG' F' N' B' X' T' D'; (try dsimp only); (try k_lift B'); (try k_fold))))
  repeat' (first | (k_unfold; (try dsimp only)) | (k_end; kc_close) | ((with_reducible show wpAny _ _ (exec (Stmt.For (Expr.Tuple ..) (Expr.Call ..) ..) _) _ _ _); with_reducible (k_here; (with_reducible rename Obj.IsDictOf _ _ _ => q9dictLook); (rename Fr _ _ _ _ => q9F'); (rename News _ _ _ _ => q9N'); with_unfolding_all ((refine For_pair_unrF q9F' ?_ (by intro _; rfl)); (refine MethodCall_ ?_); (refine ld q9F' (by rfl) ?_); (refine getMethod_tab PySem.F.slot_dict_items PySem.F.type_dict_items (by exact TabAt.ofNews q9N' (by k_mem) (by assumption) q9dictLook (by assumption)) ?_); (refine callWith_method0 ?_); (refine call_items_tab (by exact TabAt.ofNews q9N' (by k_mem) (by assumption) q9dictLook (by assumption)) q9F' q9N' ?_)); intro _ _ q9hv5' q9F5' q9N5'; (refine iter_items (by rfl) (by rfl) (by rfl) (by rfl) q9hv5' (by k_mem) q9dictLook q9F5' (fun p hp => q9N5' p (List.mem_cons_of_mem _ hp)) (by first | assumption | exact Nat.succ_pos _) ?_ (by passes_own)))) | ((with_reducible show wpAny _ _ (call (Value.builtin "re.Pattern.search") _ _) _ _ _); with_reducible (k_here; first | ((with_reducible show wpAny _ _ (call _ [Value.ref 53, Value.str _ _]) _ _ _); first | refine sV_ok (by k_in) (by first | omega | decide +kernel) (by assumption) (by k_asm) (by k_asm) ?_ | (refine sV_bad (by k_in) (by first | omega | decide +kernel) (by assumption) (by k_asm) (by k_asm) ?_; intro q9a' q9o' q9h' q9hc' q9hd' q9F' q9N' q9l')) | ((with_reducible show wpAny _ _ (call _ [Value.ref 48, Value.str _ _]) _ _ _); first | refine sN_ok (by k_in) (by first | omega | decide +kernel) (by assumption) (by k_asm) (by k_asm) ?_ | (refine sN_bad (by k_in) (by first | omega | decide +kernel) (by assumption) (by k_asm) (by k_asm) ?_; intro q9a' q9o' q9h' q9hc' q9hd' q9F' q9N' q9l')))) | ((with_reducible show wpAny _ _ (call (Value.ref 83) [Value.ref _, Value.str _ _] _) _ _ _); with_reducible (k_dflt (refine' c_convN _ _ _ (by first | with_reducible assumption | omega | decide +kernel) (by with_reducible assumption) _ _ _ _ _ _ _ _ _ _ _ _ _ _ _ _ _ _ _ _ (by k_asm) (by k_asm) (by k_in) (by k_asm) (by k_asm) (by first | (simp only [depth_deeper]; omega) | (dsimp only [Around.deeper]; omega) | ktr_room) (by first | (simp only [Around.deeper]; omega) | (dsimp only [Around.deeper]; omega) | ktr_room) ?_); intro q9rv q9h' q9tk' q9nw q9hr q9F'; refine park2 q9rv q9nw ?_; intro q9Kp q9hKp; obtain ⟨q9en, q9er⟩ := q9hr; cases q9en; cases q9er; refine q9hKp _ _ ?_; clear q9hKp q9Kp; intro q9N')) | ((with_reducible show wpAny _ _ (call (Value.type "ValueError") _ _) _ _ _); with_reducible (k_here; refine my_raise ?_; intro _ _ _)) | ((with_reducible show wpAny _ _ (execs (_ :: _) _) _ _ _); with_reducible (k_here; refine pos_toks (by first | exact Nat.succ_pos _ | exact Nat.add_pos_right _ (by decide) | assumption) ?_; (try (rename 0 < _ => hOld; clear hOld)); intro q9kT q9hT; refine execs_cons_H ?_; intro q9K q9hK q9hK2)) | ((with_reducible show wpAny _ _ (execs (_ :: _) _) _ _ _); with_reducible (k_here; k_gentoks)) | ((with_reducible show wpAny _ _ (execs (_ :: _) _) _ _ _); with_reducible (k_here; refine execs_cons_H ?_; intro q9K q9hK q9hK2)) | ((with_reducible show wpAny _ _ (execs [] _) _ _ _); with_reducible (k_here; refine pos_toks (by first | exact Nat.succ_pos _ | exact Nat.add_pos_right _ (by decide) | assumption) ?_; (try (rename 0 < _ => hOld; clear hOld)); intro q9kT q9hT; refine wpAny_execs_nil ?_)) | ((with_reducible show wpAny _ _ (getMethod (Value.ref _) _ _) _ _ _); with_reducible (k_here; (try dsimp only); (with_reducible show wpAny _ _ (getMethod (Value.ref 53) (Str.ofString "search") _) _ _ _); refine meth_V (by k_in) ?_)) | ((with_reducible show wpAny _ _ (truthy (Value.ref _)) _ _ _); (k_here; (try dsimp only); (with_reducible rename Obj.cls _ = Value.type "re.Match" => q9hc9); refine truthy_match ⟨_, News.get (by k_asm) List.mem_cons_self, q9hc9⟩ ?_)) | ((with_reducible show Back ..); (k_here; first | refine Back.next (by with_reducible assumption) ?_ | refine Back.other (by with_reducible assumption) (fun h => Flow.noConfusion h) ?_)) | ((with_reducible show UnrL ..); with_reducible (k_here; first | (with_reducible refine UnrL.nil ?_; intro _ _ _ _ _) | (with_reducible refine UnrL.cons ?_; (try (rename _ ∧ _ ∧ _ ∧ _ ∧ _ ∧ OffAll _ _ => hOld; clear hOld)); intro _ _ _ _ _ _ q9hoff _ _; (have q9hoff' := OffAll.of q9hoff); (simp only [OffAll] at q9hoff')))) | walk1 | (dsimp only; walk1) | (leave1; (try dsimp only)))
  rename Fr h₀ L _ m => kF; rename News h₀ L _ _ => kN
  exact hret _ _ _ _ ⟨_, rfl, rfl⟩ kF (cb_drop kN fun q hq => by
    simp only [List.mem_cons, List.mem_append] at hq ⊢
    simp only [hq, or_true, true_or])
end Mine
end
section
open PySem PySem.W PySem.Calls PyProof.Rows
set_option Elab.async false
set_option maxRecDepth 100000
set_option maxHeartbeats 8000000
namespace Mine
theorem anew_CWrit : True := by
  w_top off
  exact True.intro
noncomputable def p2 (k : Nat) : Int := 2 ^ k
section
variable {prog : Program} {w : World} {A : Around} {E : Value → Shared → Prop} {s : Shared} {x : Str} {n : Int} {t u : Tok} {Q : Value → Shared → Prop}
theorem my_pow {k : Nat} (hk : k ≤ 3) (h : 1 ≤ p2 k → p2 k ≤ 8 → Q (.int (p2 k) s.toks) { s with toks := s.toks + 1 }) : wpAny (model prog w) A (binaryOp .Pow (.int 2 t) (.int (k : Int) u)) Q E s := by
  refine pow_int_small (by omega) (by omega) (by decide) ?_
  show Q (.int (2 ^ k) _) _
  have : 1 ≤ p2 k ∧ p2 k ≤ 8 := by
    rcases k with _ | _ | _ | _ | n
    · decide
    · decide
    · decide
    · decide
    · omega
  exact h this.1 this.2
theorem my_mul (hx : x.length ≤ 1) (h0 : n ≤ 16) (h1 : -16 ≤ n)
    (h : ∀ t' k, (Txt.mul x n).length ≤ 16 → Q (.str (Txt.mul x n) t') { s with toks := k }) : wpAny (model prog w) A (binaryOp .Mult (.str x t) (.int n u)) Q E s :=
  SB.mul (mulOk_of 1 16 hx h0 (by omega) (by decide) (by decide)) fun t' k => h t' k (len_mul_leN (L := 1) (N := 16) hx h0)
end
theorem lt_ne1 {news : List (Addr × Obj)} {a : Nat} (h : ∀ p ∈ news, @LT.lt Nat _ p.1 a) : ∀ p ∈ news, p.1 ≠ a + 1 := fun p hp => Nat.ne_of_lt (Nat.lt_succ_of_lt (h p hp))
local macro_rules | `(tactic| k_all) => `(tactic| exact lt_ne1 (by assumption))
noncomputable def endF (k : Nat) : Str := Txt.mul (Str.ofString "\\") (p2 k - 1) ++ Str.ofString "\""
noncomputable def signF (d : Nat) (z : Str) : Str := if z = Str.ofString "\\" then Txt.mul (Str.ofString "\\") (p2 d) else if z = Str.ofString "\"" then endF d else z
noncomputable def DepthIs (_ : Nat) : Prop := True
noncomputable abbrev depthOf {d : Nat} (_ : DepthIs d) : Nat := d
theorem range_n (d : Nat) : Builtin.Range.rangeSize 0 (d : Int) 1 = (d : Int) := by rw [rangeSize_nat]; simp
theorem sz_of {v : Str} (h : v.length ≤ 1000) : (signsOf v).length ≤ sizeLine := by rw [signsOf_length, sizeLine_eq]; omega
theorem list_sz {xs : List Str} (h : xs.length ≤ 1000) : xs.length ≤ sizeLine := by rw [sizeLine_eq]; omega
theorem p2_le {k : Nat} (h : k ≤ 3) : p2 k ≤ 8 := by
  rcases k with _ | _ | _ | _ | n
  · decide
  · decide
  · decide
  · decide
  · omega
theorem slash_len : (Str.ofString "\\").length ≤ 1 := by decide +kernel
theorem endF_len {k : Nat} (h : k ≤ 3) : (endF k).length ≤ 17 := by
  have h1 : (Txt.mul (Str.ofString "\\") (p2 k - 1)).length ≤ 1 * 16 := len_mul_leN slash_len (by have := p2_le h; omega)
  have h2 : (Str.ofString "\"").length = 1 := by decide +kernel
  rw [endF, app_len, h2]; omega
theorem signF_len {d : Nat} (h : d ≤ 3) (z : Str) (hz : z.length ≤ 17) : (signF d z).length ≤ 17 := by
  unfold signF
  split
  · have h1 : (Txt.mul (Str.ofString "\\") (p2 d)).length ≤ 1 * 16 := len_mul_leN slash_len (by have := p2_le h; omega)
    omega
  · split
    · exact endF_len h
    · exact hz
theorem ends_len {d : Nat} (h : d ≤ 3) {z : Str} (hz : z ∈ (List.range d).map endF) : z.length ≤ 17 := by
  obtain ⟨k, hk, rfl⟩ := List.mem_map.mp hz
  exact endF_len (by have := List.mem_range.mp hk; omega)
theorem signs_len {v z : Str} (h : z ∈ signsOf v) : z.length ≤ 17 := by
  obtain ⟨c, _, rfl⟩ := List.mem_map.mp h
  show 1 ≤ 17
  decide
theorem sum_le {B : Nat} : ∀ {xs : List Str}, (∀ x ∈ xs, x.length ≤ B) → (xs.map (·.length)).sum ≤ xs.length * B
  | [], _ => Nat.zero_le _
  | x :: r, h => by
    have h1 := h x (.head _)
    have h2 := sum_le fun y hy => h y (.tail _ hy)
    simp only [List.map_cons, List.sum_cons, List.length_cons, Nat.succ_mul]
    omega
theorem join0_len (xs : List Str) : (Txt.join (Str.ofString "") xs).length = (xs.map (·.length)).sum := by
  rw [join_eq]
  cases xs with
  | nil => rfl
  | cons x r =>
    have := join_len (Str.ofString "") (x :: r) (by simp)
    rw [show (Str.ofString "").length = 0 from by decide +kernel] at this
    omega
section
variable {prog : Program} {w : World} {A : Around} {E : Value → Shared → Prop} {s : Shared} {t : Tok} {Q : Value → Shared → Prop}
theorem join0 {D : Addr} {vs : List Value} {xs : List Str} (B n : Nat) (hs : StrsAre vs xs) (hl : s.heap.IsList D vs.toArray) (hb : ∀ x ∈ xs, x.length ≤ B) (hn : xs.length ≤ n) (hB : B * n ≤ 100000)
    (hq : ∀ t' k, s.toks ≤ k → (Txt.join (Str.ofString "") xs).length ≤ n * B → Q (.str (Txt.join (Str.ofString "") xs) t') { s with toks := k }) : wpAny (model prog w) A (call (.builtin "str.join") [.str (Str.ofString "") t, .ref D]) Q E s := by
  have h1 : (xs.map (·.length)).sum ≤ n * B := Nat.le_trans (sum_le hb) (Nat.mul_le_mul_right _ hn)
  have h2 : n * B ≤ 100000 := by rw [Nat.mul_comm]; exact hB
  refine my_join (its := vs.toArray) hl hs ?_ fun t' k hk => hq t' k hk ?_
  · rw [show (Str.ofString "").length = 0 from by decide +kernel]; omega
  · rw [join0_len]; exact h1
end
theorem map_len {g : Str → Str} {xs : List Str} {B : Nat} (h : ∀ x ∈ xs, (g x).length ≤ B) : ∀ y ∈ xs.map g, y.length ≤ B := by
  intro y hy
  obtain ⟨x, hx, rfl⟩ := List.mem_map.mp hy
  exact h x hx
theorem k1_len {z : Str} (h : z.length ≤ 17) : (Str.ofString "k-1=" ++ z).length ≤ 21 := by
  rw [app_len, show (Str.ofString "k-1=").length = 4 from by decide +kernel]; omega
theorem flat_sign {a b z : Str} {t1 t2 t3 t4 : Tok} {v : Value} (h : PyProof.V.Flat v ((PySem.Spec.lookup (.str z) (strData [(.str (Str.ofString "\\") t1, .str a t2), (.str (Str.ofString "\"") t3, .str b t4)])).getD (.str z))) :
    ∃ t, v = .str (if z = Str.ofString "\\" then a else if z = Str.ofString "\"" then b else z) t := by
  have e : (PySem.Spec.lookup (.str z) (strData [(.str (Str.ofString "\\") t1, .str a t2), (.str (Str.ofString "\"") t3, .str b t4)])).getD (.str z) = PyData.str (if z = Str.ofString "\\" then a else if z = Str.ofString "\"" then b else z) := by
    show (if (Str.ofString "\\" == z) = true then some (PyData.str a) else if (Str.ofString "\"" == z) = true then some (PyData.str b) else none).getD (.str z) = _
    by_cases h1 : z = Str.ofString "\\"
    · rw [if_pos h1, if_pos (by rw [h1]; exact beq_self_eq_true _)]; rfl
    · rw [if_neg h1, if_neg (fun q => h1 (beq_iff_eq.mp q).symm)]
      by_cases h2 : z = Str.ofString "\""
      · rw [if_pos h2, if_pos (by rw [h2]; exact beq_self_eq_true _)]; rfl
      · rw [if_neg h2, if_neg (fun q => h2 (beq_iff_eq.mp q).symm)]; rfl
  rw [e] at h
  exact h.str_inv
noncomputable def bodyF (d : Nat) (v : Str) : Str := Txt.join (Str.ofString "") ((signsOf v).map (signF d))
noncomputable def wrF (d : Nat) (v : Str) : Str := Txt.join (Str.ofString "") (((List.range d).map endF).map (fun z => Str.ofString "k-1=" ++ z)) ++ bodyF d v ++ Txt.join (Str.ofString "") ((List.range d).map endF).reverse
theorem strsAre_rev : ∀ {vs : List Value} {xs : List Str}, StrsAre vs xs → StrsAre vs.reverse xs.reverse
  | _, _, .nil => .nil
  | _, _, .cons y t h => by
    rw [List.reverse_cons, List.reverse_cons]
    exact strsAre_snoc (strsAre_rev h)
section
variable {prog : Program} {w : World} {A : Around} {E : Value → Shared → Prop} {s : Shared} {h₀ : Heap} {L l : Addr} {m : Str → Option Value} {news : List (Addr × Obj)} {value slice : PySem.Expr} {vs : List Value} {xs : List Str} {vk : Value} {ops : List Value} {Q : Value → Shared → Prop}
theorem rev_strs (hi : StrsAre vs xs) (hn : xs.length ≤ 1000) (F : Fr h₀ L s.heap m) (N : News h₀ L s.heap news) (hl : s.heap.IsList l vs.toArray) (pk : IsPart vk (some (-1)))
    (h : ∀ D ws h', Fr h₀ L h' m → News h₀ L h' ((D, listOf (List.toArray ws) 0) :: news) → (∀ p ∈ news, p.1 < D) → StrsAre ws xs.reverse → Q (.ref D) { s with heap := h' })
    (hs : subscripted slice false (.ref l) (.ref s.heap.objs.size) = operate ops (getItem (.ref l) (.ref s.heap.objs.size))) (ht : ∀ r, letTemporaryGo value (.ref l) r = pure ()) :
    wpAny (model prog w) A (subscriptTail value slice (.ref l) (.ref s.heap.objs.size)) Q E { s with heap := s.heap.push { cls := .type "slice", data := .fields #[.none, .none, vk] } } :=
  krv_lit (its := vs.toArray) (zs := vs.reverse) F N hl pk rfl (fun D h' F' N' l1 => h D vs.reverse h' F' N' l1 (strsAre_rev hi)) hs ht (by rw [size_of_strs hi, sizeLine_eq]; omega)
end
theorem c_written {w : World} {p : Program} {loose : List Str} {mean : ExcName → Option Value} {mg mb : Str → Option Value} {news : List (Addr × Obj)} (v : Str) (tv td : Tok) (d : Nat) (hd0 : 1 ≤ d) (hd3 : d ≤ 3) (hv : v.length ≤ 20) :
   Ct w p loose mean mg mb 221 [.str v tv, .int (d : Int) td] 4 20 news (fun r n => n = news ∧ ∃ t, r = .str (wrF d v) t) := by
  unfold Ct; k_fill
  intro dp un gd cn nm ig ic mr a ccd cl outer A₀ base h₀ L m s Q E B F X N T hd hu hret
  have hDep : DepthIs d := trivial
  repeat' (first | (k_unfold; (try dsimp only)) | (k_end; kc_close) | ((with_reducible show wpAny _ _ (binaryOp Operator.Mult (Value.str _ _) (Value.int _ _)) _ _ _); with_reducible (k_dflt (refine' my_mul (by decide +kernel) (by omega) (by omega) ?_); intro _ _ _)) | ((with_reducible show wpAny _ _ (binaryOp Operator.Pow (Value.int 2 _) (Value.int _ _)) _ _ _); with_reducible (k_dflt (refine' my_pow (by omega) ?_); intro _ _)) | ((with_reducible show wpAny _ _ (exec (Stmt.Assign (_ :: _) (Expr.ListComp ..) _) _) _ _ _); with_reducible (k_here; k_dflt (refine lcs_AU (_F₀ := by k_asm) (by rfl) (by with_unfolding_all rfl) (by with_unfolding_all rfl) (by decide) (by rfl) (by decide) (by rfl) (by rfl) (by rfl) ?_))) | ((with_reducible show wpAny _ _ (call (Value.builtin "str.join") [Value.str _ _, Value.ref _]) _ _ _); with_reducible (k_dflt (first | ((with_reducible rename StrsAre _ (List.map (signF _) _) => q9saY); refine' join0 17 20 q9saY (by exact News.isList (by k_asm) (by k_mem)) (by exact map_len fun x hx => signF_len (by assumption) _ (signs_len hx)) (by rw [List.length_map, signsOf_length]; assumption) (by decide) ?_; clear q9saY) | ((with_reducible rename StrsAre _ (List.map (fun z => Str.ofString "k-1=" ++ z) _) => q9saY); refine' join0 21 3 q9saY (by exact News.isList (by k_asm) (by k_mem)) (by exact map_len fun x hx => k1_len (ends_len (by assumption) hx)) (by rw [List.length_map, List.length_map, List.length_range]; assumption) (by decide) ?_; clear q9saY) | ((with_reducible rename StrsAre _ (List.reverse (List.map endF _)) => q9saY); refine' join0 17 3 q9saY (by exact News.isList (by k_asm) (by k_mem)) (by exact fun x hx => ends_len (by assumption) (List.mem_reverse.mp hx)) (by rw [List.length_reverse, List.length_map, List.length_range]; assumption) (by decide) ?_; clear q9saY)); intro _ _ _ _)) | ((with_reducible show wpAny _ _ (eval (Expr.ListComp ..) _) _ _ _); with_reducible (k_here; k_dflt (first | refine lcs_U (_F₀ := by k_asm) (by with_unfolding_all rfl) (by decide) (by rfl) (by decide) (by rfl) ?_ | refine lcs_T (_F₀ := by k_asm) (by with_unfolding_all rfl) (by decide) (by rfl) (by decide) (by rfl) ?_))) | ((with_reducible show GenU ..); with_reducible (k_here; first | (k_dflt ((with_reducible rename DepthIs _ => q9dpX); refine' genU_of (own := []) (its := signsOf _) (signF (depthOf q9dpX)) rfl (by k_asm) (by k_asm) (inSrc_str rfl) (fun _ h => nomatch h) signAt_of (signsOf_length _).symm (sz_of (by omega)) ?_ ?_); (rotate_left; (intro q9gh q9gys q9gyl); rotate_right; intro q9gz q9gt q9gI q9goI q9gC q9goC q9gD q9gm q9gys q9gh q9gtk q9gE q9ghk q9gx1 q9gx2 q9gF q9gN q9goff q9gne)) | (k_dflt ((with_reducible rename IsRange _ _ _ _ _ _ _ _ => q9rgX); refine' genU_range endF rfl (by k_asm) (by k_asm) q9rgX (by exact small_one (by omega) (by omega) (by omega) (by omega)) (by exact range_n _) (by rw [sizeLine_eq]; omega) ?_ ?_); clear q9rgX; (rotate_left; (intro q9gh q9gys q9gyl); rotate_right; intro q9gk q9gt q9gI q9goI q9gC q9goC q9gD q9gm q9gys q9gh q9gtk q9gE q9ghk q9gx1 q9gx2 q9gF q9gN q9goff q9gne)) | (k_dflt ((with_reducible rename StrsAre _ (List.map endF _) => q9saX); refine' genU_of (fun z => Str.ofString "k-1=" ++ z) rfl (by k_asm) (by k_asm) (inSrc_list rfl (by k_asm) (by k_mem)) (by intro q9p q9hp; rw [List.mem_singleton.mp q9hp]; k_mem) (listAt_of q9saX) (size_of_strs q9saX) (list_sz (by rw [List.length_map, List.length_range]; omega)) ?_ ?_); (rotate_left; (intro q9gh q9gys q9gyl); rotate_right; intro q9gz q9gt q9gI q9goI q9gC q9goC q9gD q9gm q9gys q9gh q9gtk q9gE q9ghk q9gx1 q9gx2 q9gF q9gN q9goff q9gne; have gzl := ends_len (by assumption) q9ghk)))) | ((with_reducible show InPost ..); with_reducible (k_here; k_dflt (refine' ⟨_, _, rfl, (by k_asm), cb_drop (by k_asm) (by kcj_all), ?_⟩))) | ((with_reducible show IsText ..); (k_here; (with_reducible rename PyProof.V.Flat _ _ => q9flX); exact flat_sign q9flX)) | ((with_reducible show IsText ..); with_reducible (k_here; exact IsText.mk)) | ((with_reducible show IsText ..); (k_here; exact IsText.mk)) | ((with_reducible show wpAny _ _ (subscriptTail _ (PySem.Expr.Slice none none (some _) _) (Value.ref _) (Value.ref _)) _ _ _); with_reducible ((with_reducible rename StrsAre _ (List.map endF _) => q9saX); k_dflt (refine' rev_strs q9saX (by rw [List.length_map, List.length_range]; omega) (by k_asm) (by k_asm) (by exact News.isList (by k_asm) (by k_mem)) (by exact IsPart.int _ _) ?_ (by with_unfolding_all rfl) (by kmk_pure)); intro q9D' q9ws' q9h' q9F' q9N' q9l1 q9hI')) | walk1 | (dsimp only; walk1) | (leave1; (try dsimp only)))
  rename Fr h₀ L _ m => kF; rename News h₀ L _ _ => kN
  exact hret _ _ _ _ ⟨rfl, _, rfl⟩ kF (cb_drop kN fun q hq => by
    repeat (first | exact hq | apply List.mem_cons_of_mem))
end Mine
end
section
open PySem PySem.W PySem.Calls PyProof.Rows
set_option Elab.async false
set_option maxRecDepth 100000
set_option maxHeartbeats 8000000
namespace Mine
theorem anew_CRefN : True := by
  w_top off
  exact True.intro
local macro_rules | `(tactic| k_all) => `(tactic| exact rest_ne (by assumption))
theorem c_refN {w : World} {p : Program} {loose : List Str} {mean : ExcName → Option Value} {mg mb : Str → Option Value} {rest : List (Addr × Obj)} (x d l : Addr) (hs : Int) (tk : Tok) (k : Nat) (its : List Value) (n : Nat) (nm v : Str) (tn tv : Tok)
    (hv : v.length ≤ 300) (hv0 : v.length ≠ 0) (hg : goodV v) (hn : nm.length ≤ 10) (hgn : hasBadN nm) (hk1 : goodN (Str.ofString "k_1")) :
   CtL w p loose mean mg mb 216 [.ref x, .str nm tn, .str v tv] 12 60 (tabled x d l hs tk k its n rest)
     (fun r n' => ∃ tr, r = .str wordsF tr ∧ n' = tabled x d l hs tk k its n rest) := by
  unfold CtL; k_fill
  intro dp un gd cn nm' ig ic mr a ccd cl A₀ h₀ L m s Q E B F X N T hd hu hret
  ((refine wpAny_call ?_; k_dflt (refine' code_defSX ?k1 ?k2 ?k3 ?k4 ?k5 ?kA ?kF ?kK ?k6 ?k7 ?k8 ?k9 ?kB ?_ ?c2 ?c3 ?c4 ?c5; (case kA => exact rfl); (case kF => exact rfl); (case kK => exact rfl); (case k1 => k_asm); (case k2 => k_asm); (case k3 => k_asm); (case k4 => k_asm); (case k5 => k_asm); (case k6 => k_is); (case k7 => k_is); (case k8 => ktr_room); (case k9 => first | exact BindsTo.of_eq rfl | exact binds_K (by k_in) rfl (by k_is) rfl rfl rfl); (case c5 => decide); (case kB => exact locs rfl); (case c2 => exact rfl); (case c3 => exact rfl); (case c4 => exact rfl); k_whole; intro g' L' h' FG' F' N' B' X' T' D'; (try dsimp only); (try k_lift B'); (try k_fold))))
  repeat' (first | (k_unfold; (try dsimp only)) | (k_end; kc_close) | ((with_reducible show wpAny _ _ (exec (Stmt.For (Expr.Tuple ..) (Expr.Call ..) ..) _) _ _ _); with_reducible (k_here; (with_reducible rename Obj.IsDictOf _ _ _ => q9dictLook); (rename Fr _ _ _ _ => q9F'); (rename News _ _ _ _ => q9N'); with_unfolding_all ((refine For_pair_unrF q9F' ?_ (by intro _; rfl)); (refine MethodCall_ ?_); (refine ld q9F' (by rfl) ?_); (refine getMethod_tab PySem.F.slot_dict_items PySem.F.type_dict_items (by exact TabAt.ofNews q9N' (by k_mem) (by assumption) q9dictLook (by assumption)) ?_); (refine callWith_method0 ?_); (refine call_items_tab (by exact TabAt.ofNews q9N' (by k_mem) (by assumption) q9dictLook (by assumption)) q9F' q9N' ?_)); intro _ _ q9hv5' q9F5' q9N5'; (refine iter_items (by rfl) (by rfl) (by rfl) (by rfl) q9hv5' (by k_mem) q9dictLook q9F5' (fun p hp => q9N5' p (List.mem_cons_of_mem _ hp)) (by first | assumption | exact Nat.succ_pos _) ?_ (by passes_own)))) | ((with_reducible show wpAny _ _ (call (Value.builtin "re.Pattern.search") _ _) _ _ _); with_reducible (k_here; first | ((with_reducible show wpAny _ _ (call _ [Value.ref 53, Value.str _ _]) _ _ _); first | refine sV_ok (by k_in) (by first | omega | decide +kernel) (by assumption) (by k_asm) (by k_asm) ?_ | (refine sV_bad (by k_in) (by first | omega | decide +kernel) (by assumption) (by k_asm) (by k_asm) ?_; intro q9a' q9o' q9h' q9hc' q9hd' q9F' q9N' q9l')) | ((with_reducible show wpAny _ _ (call _ [Value.ref 48, Value.str _ _]) _ _ _); first | refine sN_ok (by k_in) (by first | omega | decide +kernel) (by assumption) (by k_asm) (by k_asm) ?_ | (refine sN_bad (by k_in) (by first | omega | decide +kernel) (by assumption) (by k_asm) (by k_asm) ?_; intro q9a' q9o' q9h' q9hc' q9hd' q9F' q9N' q9l')))) | ((with_reducible show wpAny _ _ (call (Value.builtin "str.replace") [Value.str _ _, Value.str _ _, Value.str _ _]) _ _ _); with_reducible (refine my_replace (by first | omega | (dsimp only at *; omega)) (by first | omega | (dsimp only at *; omega)) (by first | omega | (dsimp only at *; omega)) (by decide +kernel) (by first | omega | decide +kernel | (simp only [show (Str.ofString "\\\\").length = 2 from by decide +kernel, show (Str.ofString "\\\"").length = 2 from by decide +kernel]; omega)) ?_; intro _ _ _)) | ((with_reducible show wpAny _ _ (call (Value.ref 61) [Value.str _ _, Value.str _ _]) _ _ _); with_reducible (k_dflt (refine' c_fmt _ _ _ _ (by assumption) (by first | omega | decide +kernel) (by first | omega | decide +kernel) _ _ _ _ _ _ _ _ _ _ _ _ _ _ _ _ _ _ _ _ (by k_asm) (by k_asm) (by k_in) (by k_asm) (by k_asm) (by k_room) (by k_room) ?_); intro q9rv q9h' q9tk' q9nw q9hr q9F'; refine park2 q9rv q9nw ?_; intro q9Kp q9hKp; obtain ⟨q9en, q9tt, q9er⟩ := q9hr; cases q9en; cases q9er; refine q9hKp _ _ ?_; clear q9hKp q9Kp; intro q9N')) | ((with_reducible show wpAny _ _ (call (Value.ref 83) [Value.ref _, Value.str _ _] _) _ _ _); with_reducible (k_dflt (refine' c_convN _ _ _ (by first | with_reducible assumption | omega | decide +kernel) (by with_reducible assumption) _ _ _ _ _ _ _ _ _ _ _ _ _ _ _ _ _ _ _ _ (by k_asm) (by k_asm) (by k_in) (by k_asm) (by k_asm) (by first | (simp only [depth_deeper]; omega) | (dsimp only [Around.deeper]; omega) | ktr_room) (by first | (simp only [Around.deeper]; omega) | (dsimp only [Around.deeper]; omega) | ktr_room) ?_); intro q9rv q9h' q9tk' q9nw q9hr q9F'; refine park2 q9rv q9nw ?_; intro q9Kp q9hKp; obtain ⟨q9en, q9er⟩ := q9hr; cases q9en; cases q9er; refine q9hKp _ _ ?_; clear q9hKp q9Kp; intro q9N')) | ((with_reducible show wpAny _ _ (call (Value.ref 83) [Value.ref _, Value.str _ _] _) _ _ _); with_reducible (k_dflt (refine' c_convV _ _ _ (by first | with_reducible assumption | omega | decide +kernel) (by with_reducible assumption) _ _ _ _ _ _ _ _ _ _ _ _ _ _ _ _ _ _ _ _ (by k_asm) (by k_asm) (by k_in) (by k_asm) (by k_asm) (by first | (simp only [depth_deeper]; omega) | (dsimp only [Around.deeper]; omega) | ktr_room) (by first | (simp only [Around.deeper]; omega) | (dsimp only [Around.deeper]; omega) | ktr_room) ?_); intro q9rv q9h' q9tk' q9nw q9hr q9F'; refine park2 q9rv q9nw ?_; intro q9Kp q9hKp; obtain ⟨q9en, q9er⟩ := q9hr; cases q9en; cases q9er; refine q9hKp _ _ ?_; clear q9hKp q9Kp; intro q9N')) | ((with_reducible show wpAny _ _ (call (Value.type "ValueError") _ _) _ _ _); with_reducible (k_here; refine my_raise ?_; intro _ _ _)) | ((with_reducible show wpAny _ _ (execs (_ :: _) _) _ _ _); with_reducible (k_here; refine pos_toks (by first | exact Nat.succ_pos _ | exact Nat.add_pos_right _ (by decide) | assumption) ?_; (try (rename 0 < _ => hOld; clear hOld)); intro q9kT q9hT; refine execs_cons_H ?_; intro q9K q9hK q9hK2)) | ((with_reducible show wpAny _ _ (execs (_ :: _) _) _ _ _); with_reducible (k_here; k_gentoks)) | ((with_reducible show wpAny _ _ (execs (_ :: _) _) _ _ _); with_reducible (k_here; refine execs_cons_H ?_; intro q9K q9hK q9hK2)) | ((with_reducible show wpAny _ _ (execs [] _) _ _ _); with_reducible (k_here; refine pos_toks (by first | exact Nat.succ_pos _ | exact Nat.add_pos_right _ (by decide) | assumption) ?_; (try (rename 0 < _ => hOld; clear hOld)); intro q9kT q9hT; refine wpAny_execs_nil ?_)) | ((with_reducible show wpAny _ _ (getMethod (Value.ref _) _ _) _ _ _); with_reducible (k_here; (try dsimp only); (with_reducible show wpAny _ _ (getMethod (Value.ref 48) (Str.ofString "search") _) _ _ _); refine meth_N (by k_in) ?_)) | ((with_reducible show wpAny _ _ (truthy (Value.ref _)) _ _ _); (k_here; (try dsimp only); (with_reducible rename Obj.cls _ = Value.type "re.Match" => q9hc9); refine truthy_match ⟨_, News.get (by k_asm) List.mem_cons_self, q9hc9⟩ ?_)) | ((with_reducible show Back ..); (k_here; first | refine Back.next (by with_reducible assumption) ?_ | refine Back.other (by with_reducible assumption) (fun h => Flow.noConfusion h) ?_)) | ((with_reducible show UnrEnd ..); (k_here; refine UnrEnd.mk (by assumption) (by assumption) (by (refine OffAll.to ?_); (simp only [OffAll]); assumption) (by k_mem) ?_)) | ((with_reducible show UnrL ..); with_reducible (k_here; first | (with_reducible refine UnrL.nil ?_; intro _ _ _ _ _) | (with_reducible refine UnrL.cons ?_; (try (rename _ ∧ _ ∧ _ ∧ _ ∧ _ ∧ OffAll _ _ => hOld; clear hOld)); intro _ _ _ _ _ _ q9hoff _ _; (have q9hoff' := OffAll.of q9hoff); (simp only [OffAll] at q9hoff')))) | walk1 | (dsimp only; walk1) | (leave1; (try dsimp only)))
  rename Fr h₀ L _ m => kF; rename News h₀ L _ _ => kN
  exact hret _ _ _ _ ⟨_, rfl, rfl⟩ kF (cb_drop kN fun q hq => by
    simp only [List.mem_cons, List.mem_append] at hq ⊢
    simp only [hq, or_true, true_or])
end Mine
end
section
open PySem PySem.W PySem.Calls PyProof.Rows
set_option Elab.async false
set_option maxRecDepth 100000
set_option maxHeartbeats 8000000
namespace Mine
theorem anew_CGet : True := by
  w_top off
  exact True.intro
theorem c_get {w : World} {p : Program} {loose : List Str} {mean : ExcName → Option Value} {mg mb : Str → Option Value} {rest : List (Addr × Obj)} (x d l T : Addr) (hs : Int) (tk : Tok) (k : Nat) (its : List Value) (n : Nat) (v : Str) (tn tv tq : Tok)
    (hi : its.length ≤ 10) (hgn : goodN (Str.ofString "nest")) :
   Ct w p loose mean mg mb 109 [.ref x, .str (Str.ofString "NEST") tq] 12 60 (tabled x d l hs tk k (.ref T :: its) n ((T, tupObj [.str (Str.ofString "Nest") tn, .str v tv]) :: rest))
     (fun r n' => r = .str v tv ∧ n' = tabled x d l hs tk k (.ref T :: its) n ((T, tupObj [.str (Str.ofString "Nest") tn, .str v tv]) :: rest)) := by
  unfold Ct; k_fill
  intro dp un gd cn nm ig ic mr a ccd cl outer A₀ base h₀ L m s Q E B F X N T' hd hu hret
  repeat' (first | (k_unfold; (try dsimp only)) | (k_end; kc_close) | ((with_reducible show wpAny _ _ (exec (Stmt.For (Expr.Tuple ..) (Expr.Attribute ..) ..) _) _ _ _); with_reducible (k_here; (rename Fr _ _ _ _ => q9F'); with_unfolding_all (refine For_pair_unrF q9F' ?_ (by intro _; rfl)))) | ((with_reducible show wpAny _ _ (call (Value.ref 83) [Value.ref _, Value.str _ _] _) _ _ _); with_reducible (k_dflt (refine' c_convN _ _ _ (by first | with_reducible assumption | omega | decide +kernel) (by with_reducible assumption) _ _ _ _ _ _ _ _ _ _ _ _ _ _ _ _ _ _ _ _ (by k_asm) (by k_asm) (by k_in) (by k_asm) (by k_asm) (by first | (simp only [depth_deeper]; omega) | (dsimp only [Around.deeper]; omega) | ktr_room) (by first | (simp only [Around.deeper]; omega) | (dsimp only [Around.deeper]; omega) | ktr_room) ?_); intro q9rv q9h' q9tk' q9nw q9hr q9F'; refine park2 q9rv q9nw ?_; intro q9Kp q9hKp; obtain ⟨q9en, q9er⟩ := q9hr; cases q9en; cases q9er; refine q9hKp _ _ ?_; clear q9hKp q9Kp; intro q9N')) | ((with_reducible show wpAny _ _ (execs (_ :: _) _) _ _ _); with_reducible (k_here; refine pos_toks (by first | exact Nat.succ_pos _ | exact Nat.add_pos_right _ (by decide) | assumption) ?_; (try (rename 0 < _ => hOld; clear hOld)); intro q9kT q9hT; refine execs_cons_H ?_; intro q9K q9hK q9hK2)) | ((with_reducible show wpAny _ _ (execs (_ :: _) _) _ _ _); with_reducible (k_here; k_gentoks)) | ((with_reducible show wpAny _ _ (execs (_ :: _) _) _ _ _); with_reducible (k_here; refine execs_cons_H ?_; intro q9K q9hK q9hK2)) | ((with_reducible show wpAny _ _ (pyIter (Value.ref _)) (fun it s₂ => PairLoopAt _ _ _ _ _ _ _ _ _ _ it s₂) _ _); with_reducible (k_dflt (refine' iter_first rfl rfl rfl rfl ?_ ?_ (by k_asm) (by k_asm) (by first | exact Nat.succ_pos _ | assumption | exact Nat.add_pos_right _ (by decide)) (by passes_own) ?_; (try any_goals ((fail_if_success with_reducible show wpAny _ _ _ _ _ _); k_mem)); (try any_goals ((fail_if_success with_reducible show wpAny _ _ _ _ _ _); k_mem))); intro q9h' q9tk' q9hT' q9F' q9N')) | ((with_reducible show Back ..); (k_here; first | refine Back.next (by with_reducible assumption) ?_ | refine Back.other (by with_reducible assumption) (fun h => Flow.noConfusion h) ?_)) | ((with_reducible show RetEnd ..); with_reducible (k_here; refine RetEnd.mk ?_)) | walk1 | (dsimp only; walk1) | (leave1; (try dsimp only)))
  rename Fr h₀ L _ m => kF; rename News h₀ L _ _ => kN
  exact hret _ _ _ _ ⟨rfl, rfl⟩ kF (cb_drop kN fun q hq => by repeat (first | exact hq | apply List.mem_cons_of_mem))
end Mine
end
section
open PySem PySem.W PySem.Calls PyProof.Rows
set_option Elab.async false
set_option maxRecDepth 100000
set_option maxHeartbeats 8000000
namespace Mine
theorem anew_CItems : True := by
  w_top off
  exact True.intro
theorem c_items {w : World} {p : Program} {loose : List Str} {mean : ExcName → Option Value} {mg mb : Str → Option Value} {rest : List (Addr × Obj)} (x d l : Addr) (hs : Int) (tky : Tok) (k : Nat) (its : List Value) (n : Nat)
    (hi : its.length ≤ 10) :
   Ct w p loose mean mg mb 148 [.ref x] 8 40 (tabled x d l hs tky k its n rest)
     (fun r n' => ∃ D, r = .ref D ∧ n' = (D, listOf its.toArray 0) :: tabled x d l hs tky k its n rest ∧ x < D ∧ d < D ∧ l < D ∧ ∀ q ∈ rest, q.1 < D) := by
  unfold Ct; k_fill
  intro dp un gd cn nm ig ic mr a ccd cl outer A₀ base h₀ L m s Q E B F X N T' hd hu hret
  repeat' (first | (k_unfold; (try dsimp only)) | (k_end; kc_close) | ((with_reducible show wpAny _ _ (binaryOp Operator.Add (Value.ref ..) (Value.ref ..)) _ _ _); with_reducible (k_here; (with_reducible rename StrsAre _ _ => q9saX); k_dflt (refine' add_strs q9saX (.cons _ _ (.cons _ _ .nil)) ?_ (by k_asm) (by k_asm) (by exact News.isList (by k_asm) (by k_mem)) (by exact News.isList (by k_asm) (by k_mem)) ?_; (try any_goals ((fail_if_success with_reducible show wpAny _ _ _ _ _ _); simp only [List.length_cons, List.length_nil]; omega))); intro q9aD q9ah q9aF q9aN q9aL q9aS)) | ((with_reducible show wpAny _ _ (eval (Expr.ListComp ..) _) _ _ _); with_reducible (k_here; k_dflt (first | refine lcs_U (_F₀ := by k_asm) (by with_unfolding_all rfl) (by decide) (by rfl) (by decide) (by rfl) ?_ | refine lcs_T (_F₀ := by k_asm) (by with_unfolding_all rfl) (by decide) (by rfl) (by decide) (by rfl) ?_))) | ((with_reducible show InPost ..); with_reducible (k_here; k_dflt (refine' ⟨_, _, rfl, (by k_asm), cb_drop (by k_asm) (by kcj_all), ?_⟩))) | walk1 | (dsimp only; walk1) | (leave1; (try dsimp only)))
  rename Fr h₀ L _ m => kF; rename News h₀ L _ _ => kN
  rw [slicePick_all] at kN
  have key : ∀ {hx h0a : Heap} {La : Addr}, News h0a La hx (tabled x d l hs tky k its n rest) → ∀ q ∈ tabled x d l hs tky k its n rest, q.1 < hx.objs.size + 1 := fun N q hq => Nat.lt_succ_of_lt (Heap.lt_size (N q hq).1)
  refine hret _ _ _ _ ⟨_, rfl, rfl, ?a, ?b, ?c, ?d⟩ kF kN
  case a => exact key (by assumption) (x, instObj 184 d) (.head _)
  case b => exact key (by assumption) (d, _) (.tail _ (.head _))
  case c => exact key (by assumption) (l, _) (.tail _ (.tail _ (.head _)))
  case d => exact fun q hq => key (by assumption) q (.tail _ (.tail _ (.tail _ hq)))
noncomputable def pairF (nm v : Str) : Str := nm ++ Str.ofString ": " ++ v
inductive HeadsAre (rest : List (Addr × Obj)) : List Value → List Str → Prop
  | nil : HeadsAre rest [] []
  | cons {T : Addr} {nm v : Str} {tn tv : Tok} {its : List Value} {xs : List Str} (hm : (T, tupObj [.str nm tn, .str v tv]) ∈ rest) (hn : nm.length ≤ 10) (hv : v.length ≤ 1000) (h : HeadsAre rest its xs) : HeadsAre rest (.ref T :: its) (pairF nm v :: xs)
theorem HeadsAre.get {rest : List (Addr × Obj)} : ∀ {its : List Value} {xs : List Str}, HeadsAre rest its xs → ∀ {i : Nat} {v : Value} {z : Str}, its[i]? = some v → xs[i]? = some z → ∃ T nm u tn tv, v = .ref T ∧ z = pairF nm u ∧ (T, tupObj [.str nm tn, .str u tv]) ∈ rest ∧ nm.length ≤ 10 ∧ u.length ≤ 1000
  | _, _, .nil, _, _, _, h, _ => by simp at h
  | _, _, .cons hm hn hv _, 0, _, _, h1, h2 => ⟨_, _, _, _, _, (Option.some.inj h1).symm, (Option.some.inj h2).symm, hm, hn, hv⟩
  | _, _, .cons hm hn hv h, i + 1, _, _, h1, h2 => h.get (i := i) (by simpa using h1) (by simpa using h2)
theorem pairF_len {nm v : Str} (hn : nm.length ≤ 10) (hv : v.length ≤ 1000) : (pairF nm v).length ≤ 1012 := by
  have h1 : (Str.ofString ": ").length = 2 := by decide +kernel
  simp only [pairF, app_len]
  omega
theorem HeadsAre.short {rest : List (Addr × Obj)} : ∀ {its : List Value} {xs : List Str}, HeadsAre rest its xs → ∀ z ∈ xs, z.length ≤ 1100
  | _, _, .nil, _, h => nomatch h
  | _, _, .cons _ hn hv h, z, hz => by
    rcases List.mem_cons.mp hz with rfl | hz
    · have := pairF_len hn hv; omega
    · exact h.short z hz
theorem HeadsAre.len {rest : List (Addr × Obj)} : ∀ {its : List Value} {xs : List Str}, HeadsAre rest its xs → xs.length = its.length
  | _, _, .nil => rfl
  | _, _, .cons _ _ _ h => by simp [h.len]
section
variable {prog : Program} {w : World} {A : Around} {E : Value → Shared → Prop} {s : Shared} {h₀ : Heap} {L l b : Addr} {m : Str → Option Value} {news : List (Addr × Obj)} {vs ws : List Value} {xs ys : List Str} {Q : Value → Shared → Prop}
theorem add_strs (hi : StrsAre vs xs) (hj : StrsAre ws ys) (hsz : xs.length + ys.length ≤ 1000) (F : Fr h₀ L s.heap m) (N : News h₀ L s.heap news) (hl : s.heap.IsList l vs.toArray) (hb : s.heap.IsList b ws.toArray)
    (h : ∀ D h', Fr h₀ L h' m → News h₀ L h' ((D, { cls := .type "list", data := .seq (vs ++ ws).toArray }) :: news) → (∀ p ∈ news, p.1 < D) → StrsAre (vs ++ ws) (xs ++ ys) → Q (.ref D) { s with heap := h' }) :
    wpAny (model prog w) A (binaryOp .Add (.ref l) (.ref b)) Q E s :=
  add_lists F N hl hb (fun h' F' N' => h _ h' F' N' (fun p hp => Heap.lt_size (N p hp).1) (strsAre_app hi hj)) (by rw [hi.length, hj.length, sizeLine_eq]; omega)
end
noncomputable def strF (xs : List Str) : Str := Txt.join (Str.ofString "\r\n") (xs ++ [Str.ofString "", Str.ofString ""])
theorem strF_sum {rest : List (Addr × Obj)} {its : List Value} {xs : List Str} (hH : HeadsAre rest its xs) (hi : its.length ≤ 2) : ((xs ++ [Str.ofString "", Str.ofString ""]).map (·.length)).sum + (xs ++ [Str.ofString "", Str.ofString ""]).length * (Str.ofString "\r\n").length ≤ 4408 := by
  have hx2 : xs.length ≤ 2 := by rw [hH.len]; exact hi
  have h1 : ((xs ++ [Str.ofString "", Str.ofString ""]).map (·.length)).sum ≤ (xs ++ [Str.ofString "", Str.ofString ""]).length * 1100 := sum_le fun z hz => by
    rcases List.mem_append.mp hz with hz | hz
    · exact hH.short z hz
    · rcases List.mem_cons.mp hz with rfl | hz
      · decide +kernel
      · rw [List.mem_singleton.mp hz]; decide +kernel
  have h2 : (xs ++ [Str.ofString "", Str.ofString ""]).length ≤ 4 := by rw [List.length_append]; simp; omega
  have h3 : (Str.ofString "\r\n").length = 2 := by decide +kernel
  rw [h3]; omega
theorem strF_len {rest : List (Addr × Obj)} {its : List Value} {xs : List Str} (hH : HeadsAre rest its xs) (hi : its.length ≤ 2) : (strF xs).length ≤ 5000 := by
  have h1 := strF_sum hH hi
  have h2 := join_len (Str.ofString "\r\n") (xs ++ [Str.ofString "", Str.ofString ""]) (by simp)
  rw [strF, join_eq]
  omega
theorem c_str {w : World} {p : Program} {loose : List Str} {mean : ExcName → Option Value} {mg mb : Str → Option Value} {rest : List (Addr × Obj)} (x d l : Addr) (hs : Int) (tky : Tok) (k : Nat) (n : Nat) (its : List Value) (xs : List Str) (hi : its.length ≤ 2) (hH : HeadsAre rest its xs) :
   Ct w p loose mean mg mb 160 [.ref x] 8 40 (tabled x d l hs tky k its n rest)
     (fun r n' => ∃ t, r = .str (strF xs) t ∧ (strF xs).length ≤ 5000 ∧ n' = tabled x d l hs tky k its n rest) := by
  unfold Ct; k_fill
  intro dp un gd cn nm ig ic mr a ccd cl outer A₀ base h₀ L m s Q E B F X N T' hd hu hret
  have hx2 : xs.length ≤ 2 := by rw [hH.len]; exact hi
  repeat' (first | (k_unfold; (try dsimp only)) | (k_end; kc_close) | ((with_reducible show wpAny _ _ (binaryOp Operator.Add (Value.ref ..) (Value.ref ..)) _ _ _); with_reducible (k_here; (with_reducible rename StrsAre _ _ => q9saX); k_dflt (refine' add_strs q9saX (.cons _ _ (.cons _ _ .nil)) ?_ (by k_asm) (by k_asm) (by exact News.isList (by k_asm) (by k_mem)) (by exact News.isList (by k_asm) (by k_mem)) ?_; (try any_goals ((fail_if_success with_reducible show wpAny _ _ _ _ _ _); simp only [List.length_cons, List.length_nil]; omega))); intro q9aD q9ah q9aF q9aN q9aL q9aS)) | ((with_reducible show wpAny _ _ (eval (Expr.ListComp ..) _) _ _ _); with_reducible (k_here; k_dflt (first | refine lcs_U (_F₀ := by k_asm) (by with_unfolding_all rfl) (by decide) (by rfl) (by decide) (by rfl) ?_ | refine lcs_T (_F₀ := by k_asm) (by with_unfolding_all rfl) (by decide) (by rfl) (by decide) (by rfl) ?_))) | ((with_reducible show InPost ..); with_reducible (k_here; k_dflt (refine' ⟨_, _, rfl, (by k_asm), cb_drop (by k_asm) (by kcj_all), ?_⟩))) | walk1 | (dsimp only; walk1) | (leave1; (try dsimp only)))
  rename Fr _ _ _ _ => F1; rename News _ _ _ _ => N1
  refine genU_pick its xs hH.len rfl F1 N1 (inSrc_list rfl N1 (.tail _ (.tail _ (.head _)))) (fun p hp => by rw [List.mem_singleton.mp hp]; exact .tail _ (.tail _ (.head _))) (fun i v h => by rw [← h]; simp) (by rw [List.size_toArray]) (by rw [sizeLine_eq]; omega) ?turn ?fin
  case turn =>
    intro i v z I oI C oC D m₂ ys h tk' E' hv hz hC hx F2 N2 off ne
    obtain ⟨T, nm1, u, tn, tu, rfl, rfl, hm, hn1, hu1⟩ := hH.get hv hz
    have N4 : News _ _ h ((T, tupObj [.str nm1 tn, .str u tu]) :: (I, oI) :: (C, oC) :: (D, LCg.lst ys) :: tabled x d l hs tky k its n rest) := fun q hq => by
      rcases List.mem_cons.mp hq with rfl | hq
      · exact N2 _ (.tail _ (.tail _ (.tail _ (.tail _ (.tail _ (.tail _ hm))))))
      · exact N2 _ hq
    clear N2
    repeat' (first | (k_unfold; (try dsimp only)) | (k_end; kc_close) | ((with_reducible show wpAny _ _ (binaryOp Operator.Add (Value.ref ..) (Value.ref ..)) _ _ _); with_reducible (k_here; (with_reducible rename StrsAre _ _ => q9saX); k_dflt (refine' add_strs q9saX (.cons _ _ (.cons _ _ .nil)) ?_ (by k_asm) (by k_asm) (by exact News.isList (by k_asm) (by k_mem)) (by exact News.isList (by k_asm) (by k_mem)) ?_; (try any_goals ((fail_if_success with_reducible show wpAny _ _ _ _ _ _); simp only [List.length_cons, List.length_nil]; omega))); intro q9aD q9ah q9aF q9aN q9aL q9aS)) | ((with_reducible show wpAny _ _ (eval (Expr.ListComp ..) _) _ _ _); with_reducible (k_here; k_dflt (first | refine lcs_U (_F₀ := by k_asm) (by with_unfolding_all rfl) (by decide) (by rfl) (by decide) (by rfl) ?_ | refine lcs_T (_F₀ := by k_asm) (by with_unfolding_all rfl) (by decide) (by rfl) (by decide) (by rfl) ?_))) | ((with_reducible show InPost ..); with_reducible (k_here; k_dflt (refine' ⟨_, _, rfl, (by k_asm), cb_drop (by k_asm) (by kcj_all), ?_⟩))) | walk1 | (dsimp only; walk1) | (leave1; (try dsimp only)))
    exact IsText.mk
  case fin =>
    intro q ys hy
    repeat' (first | (k_unfold; (try dsimp only)) | (k_end; kc_close) | ((with_reducible show wpAny _ _ (binaryOp Operator.Add (Value.ref ..) (Value.ref ..)) _ _ _); with_reducible (k_here; (with_reducible rename StrsAre _ _ => q9saX); k_dflt (refine' add_strs q9saX (.cons _ _ (.cons _ _ .nil)) ?_ (by k_asm) (by k_asm) (by exact News.isList (by k_asm) (by k_mem)) (by exact News.isList (by k_asm) (by k_mem)) ?_; (try any_goals ((fail_if_success with_reducible show wpAny _ _ _ _ _ _); simp only [List.length_cons, List.length_nil]; omega))); intro q9aD q9ah q9aF q9aN q9aL q9aS)) | ((with_reducible show wpAny _ _ (eval (Expr.ListComp ..) _) _ _ _); with_reducible (k_here; k_dflt (first | refine lcs_U (_F₀ := by k_asm) (by with_unfolding_all rfl) (by decide) (by rfl) (by decide) (by rfl) ?_ | refine lcs_T (_F₀ := by k_asm) (by with_unfolding_all rfl) (by decide) (by rfl) (by decide) (by rfl) ?_))) | ((with_reducible show InPost ..); with_reducible (k_here; k_dflt (refine' ⟨_, _, rfl, (by k_asm), cb_drop (by k_asm) (by kcj_all), ?_⟩))) | walk1 | (dsimp only; walk1) | (leave1; (try dsimp only)))
    rename News _ _ _ _ => N7
    rename StrsAre _ (xs ++ _) => hs7
    refine my_join (News.isList N7 (.head _)) (xs := xs ++ [Str.ofString "", Str.ofString ""]) hs7 ?_ ?_
    · have := strF_sum hH hi
      omega
    · intro t' k' hk'
      repeat' (first | (k_unfold; (try dsimp only)) | (k_end; kc_close) | ((with_reducible show wpAny _ _ (binaryOp Operator.Add (Value.ref ..) (Value.ref ..)) _ _ _); with_reducible (k_here; (with_reducible rename StrsAre _ _ => q9saX); k_dflt (refine' add_strs q9saX (.cons _ _ (.cons _ _ .nil)) ?_ (by k_asm) (by k_asm) (by exact News.isList (by k_asm) (by k_mem)) (by exact News.isList (by k_asm) (by k_mem)) ?_; (try any_goals ((fail_if_success with_reducible show wpAny _ _ _ _ _ _); simp only [List.length_cons, List.length_nil]; omega))); intro q9aD q9ah q9aF q9aN q9aL q9aS)) | ((with_reducible show wpAny _ _ (eval (Expr.ListComp ..) _) _ _ _); with_reducible (k_here; k_dflt (first | refine lcs_U (_F₀ := by k_asm) (by with_unfolding_all rfl) (by decide) (by rfl) (by decide) (by rfl) ?_ | refine lcs_T (_F₀ := by k_asm) (by with_unfolding_all rfl) (by decide) (by rfl) (by decide) (by rfl) ?_))) | ((with_reducible show InPost ..); with_reducible (k_here; k_dflt (refine' ⟨_, _, rfl, (by k_asm), cb_drop (by k_asm) (by kcj_all), ?_⟩))) | walk1 | (dsimp only; walk1) | (leave1; (try dsimp only)))
      rename Fr h₀ L _ m => kF; rename News h₀ L _ _ => kN
      exact hret _ _ _ _ ⟨_, rfl, strF_len hH hi, rfl⟩ kF (cb_drop kN fun q hq => by repeat (first | exact hq | apply List.mem_cons_of_mem))
end Mine
end
section
open PySem PySem.W PySem.Calls PyProof.Rows
set_option Elab.async false
set_option maxRecDepth 100000
set_option maxHeartbeats 8000000
namespace Mine
theorem anew_CKind : True := by
  w_top off
  exact True.intro
theorem kind_min (x : Str) : (decide (x.length < (Str.ofString "").length) || decide (Builtin.Str.strKind x < Builtin.Str.strKind (Str.ofString ""))) = false := by
  have h1 : (Str.ofString "").length = 0 := by decide +kernel
  have h2 : Builtin.Str.strKind (Str.ofString "") = 1 := by decide +kernel
  have h3 : 1 ≤ Builtin.Str.strKind x := by unfold Builtin.Str.strKind; split <;> first | decide | (split <;> decide)
  rw [h1, h2, Bool.or_eq_false_iff]
  exact ⟨decide_eq_false (by omega), decide_eq_false (by omega)⟩
theorem c_kindE {w : World} {p : Program} {loose : List Str} {mean : ExcName → Option Value} {mg mb : Str → Option Value} {rest : List (Addr × Obj)} (P : Addr) (kP : Nat) (line : Str) (tl t1 t2 : Tok) (hline : line.length ≤ 1000) :
   CtL w p loose mean mg mb 240 [.str line tl, .ref P] 12 60 ((P, { cls := .type "list", data := .seq #[.str (Str.ofString "") t1, .str (Str.ofString "a") t2] kP }) :: rest)
     (fun r n' => ∃ t, r = .str (Str.ofString "empty") t ∧ n' = rest) := by
  unfold CtL; k_fill
  intro dp un gd cn nm ig ic mr a ccd cl A₀ h₀ L m s Q E B F X N T' hd hu hret
  ((refine wpAny_call ?_; k_dflt (refine' code_defSX (by k_asm) (by k_asm) (by k_asm) (by k_asm) (by k_asm) (by exact rfl) (by exact rfl) (by exact rfl) (by k_is) (by k_is) (by ktr_room) (by first | exact BindsTo.of_eq rfl | exact binds_K (by k_in) rfl (by k_is) rfl rfl rfl) (by exact locs rfl) ?_ (by exact rfl) (by exact rfl) (by exact rfl) (by decide); k_whole; intro q9g' q9L' q9h' q9FG' q9F' q9N' q9B' q9X' q9T' q9D'; (try dsimp only); (try k_lift q9B'); (try k_fold))))
  repeat' (first | (k_unfold; (try dsimp only)) | (k_end; kc_close) | ((with_reducible show wpAny _ _ (subscriptTail (Expr.Name ..) (Expr.Slice ..) (Value.ref ..) (Value.ref ..)) _ _ _); with_reducible (k_here; (with_unfolding_all refine slice_tuple_from (a := 2) (items := List.toArray _) (by k_asm) (by k_asm) (News.isTup (by k_asm) (by k_mem)) (by decide) (by simp only [List.size_toArray, List.length_cons]; omega) ?_ (by with_unfolding_all rfl) (by intro _; with_unfolding_all rfl) (by simp only [List.size_toArray]; rw [sizeLine_eq]; omega)); intro q9h' q9F' q9N')) | ((with_reducible show StarOf ..); with_reducible (k_here; k_dflt (refine' star_seq (by k_asm) (by k_asm) (by k_mem) (by exact rfl) (by exact rfl) (by first | exact .inl rfl | exact .inr rfl) (by exact rfl) (by rw [sizeLine_eq]; simp only [List.size_toArray]; omega) ?_; k_whole); intro q9h' q9F' q9N'; (try dsimp only [List.nil_append, List.cons_append]))) | ((with_reducible show wpAny _ _ (call (Value.builtin "str.join") [Value.str _ _, Value.ref _]) _ _ _); (refine SC.join (News.isList (by k_asm) (by k_mem)) (by assumption) (joinOk_split _ _ _ (by first | assumption | exact Nat.le_refl _) (by first | omega | ((try simp only [Str.length] at *); (show _ + 1 ≤ _); omega))) ?_; intro _ _)) | ((with_reducible show wpAny _ _ (call (Value.builtin "str.split") [Value.str _ _, Value.str (Str.ofString "") _]) _ _ _); with_reducible (refine split_empty rfl (by decide +kernel) (kind_min _) ?_; intro q9h' q9tk' q9e' q9x')) | ((with_reducible show wpAny _ _ (call (Value.builtin "str.split") [Value.str _ _, Value.str _ _]) _ _ _); with_reducible (refine KSpl.split1 (by k_asm) (by k_asm) (by first | decide | (simp only [beq_eq_false_iff_ne]; assumption)) ?_ (by rw [sizeLine_eq]; omega); intro q9D' q9l' q9h' q9k' q9e' q9a' q9F' q9N' q9l1; (try k_lt q9l1))) | ((with_reducible show wpAny _ _ (call (Value.ref 202) (_ :: (_ ++ []))) _ _ _); with_reducible (simp only [List.append_nil])) | ((with_reducible show wpAny _ _ (exec (Stmt.While ..) _) _ _ _); with_reducible (k_here; refine Hold.mk ?_)) | ((with_reducible show wpAny _ _ (execs (_ :: _) _) _ _ _); with_reducible (k_here; k_gentoks)) | ((with_reducible show wpAny _ _ (execs (_ :: _) _) _ _ _); with_reducible (k_here; refine execs_cons_H ?_; intro q9K q9hK q9hK2)) | ((with_reducible show wpAny _ _ (truthy (Value.ref _)) _ _ _); with_reducible (k_here; (try dsimp only); (with_reducible show wpAny _ _ (truthy (Value.ref _)) _ _ _); (k_dflt (refine' truthy_tuple (items := List.toArray _) (by exact News.isTup (by k_asm) (by k_mem)) (by simp only [List.size_toArray]; omega) ?_)); (try simp only [List.isEmpty_toArray, List.isEmpty_cons, List.isEmpty_nil, Bool.not_false, Bool.not_true]))) | ((with_reducible show Back ..); (k_here; first | refine Back.next (by with_reducible assumption) ?_ | refine Back.other (by with_reducible assumption) (fun h => Flow.noConfusion h) ?_)) | ((with_reducible show wpAny _ _ (subscriptTail _ _ _ _) _ _ _); with_reducible (k_here; (try dsimp only); (with_reducible show wpAny _ _ (subscriptTail _ _ (Value.ref _) (Value.int 1 _)) _ _ _); k_dflt (refine item_tup_out (vs := [_]) rfl (by k_asm) (by k_mem) rfl (by decide) (by decide) ?_ (by with_unfolding_all rfl)); intro q9h' q9tk' q9e' q9x')) | ((with_reducible show wpAny _ _ (subscriptTail _ _ _ _) _ _ _); with_reducible (k_here; (try dsimp only); (with_reducible show wpAny _ _ (subscriptTail _ _ (Value.ref _) (Value.int 1 _)) _ _ _); k_dflt (refine item_tup1 (News.isTup (by k_asm) (by k_mem)) ?_ (by with_unfolding_all rfl)))) | ((with_reducible show wpAny _ _ (subscriptTail _ _ _ _) _ _ _); with_reducible (k_here; (try dsimp only); (with_reducible show wpAny _ _ (subscriptTail _ _ (Value.ref _) (Value.int 0 _)) _ _ _); k_dflt (refine item_tup0 (News.isTup (by k_asm) (by k_mem)) ?_ (by with_unfolding_all rfl)))) | walk1 | (dsimp only; walk1) | (leave1; (try dsimp only)))
  unfold Hold
  rename Fr _ _ _ _ => F1; rename News _ _ _ _ => N1
  with_unfolding_all refine' ksw_while (fun c : Unit => _) (fun _ => []) (fun _ => True) [] (fun _ => True) (fun _ => 0) () F1 N1 trivial (fun _ h => nomatch h) trivial ?turn
  rintro ⟨⟩ u h tk' - - F2 N2
  clear F1 N1
  dsimp only at F2 N2
  repeat' (first | (k_unfold; (try dsimp only)) | (k_end; kc_close) | ((with_reducible show wpAny _ _ (subscriptTail (Expr.Name ..) (Expr.Slice ..) (Value.ref ..) (Value.ref ..)) _ _ _); with_reducible (k_here; (with_unfolding_all refine slice_tuple_from (a := 2) (items := List.toArray _) (by k_asm) (by k_asm) (News.isTup (by k_asm) (by k_mem)) (by decide) (by simp only [List.size_toArray, List.length_cons]; omega) ?_ (by with_unfolding_all rfl) (by intro _; with_unfolding_all rfl) (by simp only [List.size_toArray]; rw [sizeLine_eq]; omega)); intro q9h' q9F' q9N')) | ((with_reducible show StarOf ..); with_reducible (k_here; k_dflt (refine' star_seq (by k_asm) (by k_asm) (by k_mem) (by exact rfl) (by exact rfl) (by first | exact .inl rfl | exact .inr rfl) (by exact rfl) (by rw [sizeLine_eq]; simp only [List.size_toArray]; omega) ?_; k_whole); intro q9h' q9F' q9N'; (try dsimp only [List.nil_append, List.cons_append]))) | ((with_reducible show wpAny _ _ (call (Value.builtin "str.join") [Value.str _ _, Value.ref _]) _ _ _); (refine SC.join (News.isList (by k_asm) (by k_mem)) (by assumption) (joinOk_split _ _ _ (by first | assumption | exact Nat.le_refl _) (by first | omega | ((try simp only [Str.length] at *); (show _ + 1 ≤ _); omega))) ?_; intro _ _)) | ((with_reducible show wpAny _ _ (call (Value.builtin "str.split") [Value.str _ _, Value.str (Str.ofString "") _]) _ _ _); with_reducible (refine split_empty rfl (by decide +kernel) (kind_min _) ?_; intro q9h' q9tk' q9e' q9x')) | ((with_reducible show wpAny _ _ (call (Value.builtin "str.split") [Value.str _ _, Value.str _ _]) _ _ _); with_reducible (refine KSpl.split1 (by k_asm) (by k_asm) (by first | decide | (simp only [beq_eq_false_iff_ne]; assumption)) ?_ (by rw [sizeLine_eq]; omega); intro q9D' q9l' q9h' q9k' q9e' q9a' q9F' q9N' q9l1; (try k_lt q9l1))) | ((with_reducible show wpAny _ _ (call (Value.ref 202) (_ :: (_ ++ []))) _ _ _); with_reducible (simp only [List.append_nil])) | ((with_reducible show wpAny _ _ (exec (Stmt.While ..) _) _ _ _); with_reducible (k_here; refine Hold.mk ?_)) | ((with_reducible show wpAny _ _ (execs (_ :: _) _) _ _ _); with_reducible (k_here; k_gentoks)) | ((with_reducible show wpAny _ _ (execs (_ :: _) _) _ _ _); with_reducible (k_here; refine execs_cons_H ?_; intro q9K q9hK q9hK2)) | ((with_reducible show wpAny _ _ (truthy (Value.ref _)) _ _ _); with_reducible (k_here; (try dsimp only); (with_reducible show wpAny _ _ (truthy (Value.ref _)) _ _ _); (k_dflt (refine' truthy_tuple (items := List.toArray _) (by exact News.isTup (by k_asm) (by k_mem)) (by simp only [List.size_toArray]; omega) ?_)); (try simp only [List.isEmpty_toArray, List.isEmpty_cons, List.isEmpty_nil, Bool.not_false, Bool.not_true]))) | ((with_reducible show Back ..); (k_here; first | refine Back.next (by with_reducible assumption) ?_ | refine Back.other (by with_reducible assumption) (fun h => Flow.noConfusion h) ?_)) | ((with_reducible show wpAny _ _ (subscriptTail _ _ _ _) _ _ _); with_reducible (k_here; (try dsimp only); (with_reducible show wpAny _ _ (subscriptTail _ _ (Value.ref _) (Value.int 1 _)) _ _ _); k_dflt (refine item_tup_out (vs := [_]) rfl (by k_asm) (by k_mem) rfl (by decide) (by decide) ?_ (by with_unfolding_all rfl)); intro q9h' q9tk' q9e' q9x')) | ((with_reducible show wpAny _ _ (subscriptTail _ _ _ _) _ _ _); with_reducible (k_here; (try dsimp only); (with_reducible show wpAny _ _ (subscriptTail _ _ (Value.ref _) (Value.int 1 _)) _ _ _); k_dflt (refine item_tup1 (News.isTup (by k_asm) (by k_mem)) ?_ (by with_unfolding_all rfl)))) | ((with_reducible show wpAny _ _ (subscriptTail _ _ _ _) _ _ _); with_reducible (k_here; (try dsimp only); (with_reducible show wpAny _ _ (subscriptTail _ _ (Value.ref _) (Value.int 0 _)) _ _ _); k_dflt (refine item_tup0 (News.isTup (by k_asm) (by k_mem)) ?_ (by with_unfolding_all rfl)))) | walk1 | (dsimp only; walk1) | (leave1; (try dsimp only)))
  rename Fr h₀ L _ m => kF; rename News h₀ L _ _ => kN
  exact hret _ _ _ _ ⟨_, rfl, rfl⟩ kF (cb_drop kN fun q hq => by repeat (first | exact hq | apply List.mem_cons_of_mem))
structure SSt where
  x : Str
  t : Tok
  D : Addr
  ps : List (Str × Str)
  vals : List Value
section
variable {prog : Program} {w : World} {A : Around} {E : Value → Shared → Prop} {s : Shared} {h₀ : Heap} {L : Addr} {env : Env} {Q : Flow → Shared → Prop}
noncomputable def SFacts (z : Str) (c : SSt) : Prop := StrsAre c.vals (flat2 c.ps ++ [z]) ∧ c.vals.length ≤ 12 ∧ (∀ ab ∈ c.ps, okPair ab) ∧ c.x.length ≤ 1000
theorem short_while {test : Expr} {body : List Stmt} {pos : Pos} {m₀ : Str → Option Value} {D : Addr} {tail : List (Addr × Obj)} {vals : List Value} {x : Str} {t : Tok} (ps : List (Str × Str)) (z : Str)
    (F : Fr h₀ L s.heap m₀) (N : News h₀ L s.heap ((D, tupObj vals) :: tail)) (hv : StrsAre vals (flat2 ps ++ [z])) (hl : vals.length ≤ 12) (hok : ∀ ab ∈ ps, okPair ab) (hx : x.length ≤ 1000)
    (h1 : m₀ (Str.ofString "text") = some (.str x t)) (h2 : m₀ (Str.ofString "pairs") = some (.ref D))
    (turn : ∀ (c : SSt) (u : Str → Option Value) h tk, SFacts z c → Fr h₀ L h (kstB (fun z => if ([] : List Str).contains z then u z else m₀ z) [(Str.ofString "text", .str c.x c.t), (Str.ofString "pairs", .ref c.D)]) → News h₀ L h ((c.D, tupObj c.vals) :: tail) →
      wpAny (model prog w) A (isTrue test env (eval test env)) (fun b s₂ =>
        if b = true then wpAny (model prog w) A (execs body env) (KswPost h₀ L s (fun c : SSt => (c.D, tupObj c.vals) :: tail) (fun c => [(Str.ofString "text", .str c.x c.t), (Str.ofString "pairs", .ref c.D)]) (SFacts z) [] m₀ (fun _ => True) (fun c => c.ps.length) Q c) E s₂ else Q .next s₂) E { s with heap := h, toks := tk })
    (hE : PassesOwn (model prog w) A env E) :
    wpAny (model prog w) A (exec (.While test body [] pos) env) Q E s := by
  refine ksw_while (fun c : SSt => (c.D, tupObj c.vals) :: tail) (fun c => [(Str.ofString "text", .str c.x c.t), (Str.ofString "pairs", .ref c.D)]) (SFacts z) [] (fun _ => True) (fun c => c.ps.length) ⟨x, t, D, ps, vals⟩ F N ⟨hv, hl, hok, hx⟩ ?_ trivial (fun c u h tk f _ F N => turn c u h tk f F N) hE
  exact List.forall_mem_cons.mpr ⟨h1, List.forall_mem_cons.mpr ⟨h2, fun _ h => nomatch h⟩⟩
end
theorem c_kindS {w : World} {p : Program} {loose : List Str} {mean : ExcName → Option Value} {mg mb : Str → Option Value} {rest : List (Addr × Obj)} (P : Addr) (kP : Nat) (line z : Str) (ps : List (Str × Str)) (vals : List Value) (tl : Tok) (hline : line.length ≤ 1000) (hv : StrsAre vals (flat2 ps ++ [z])) (hl : vals.length ≤ 12) (hok : ∀ ab ∈ ps, okPair ab) :
   CtL w p loose mean mg mb 240 [.str line tl, .ref P] 12 60 ((P, { cls := .type "list", data := .seq vals.toArray kP }) :: rest)
     (fun r n' => ∃ t, r = .str (Str.ofString "short") t ∧ n' = rest) := by
  unfold CtL; k_fill
  intro dp un gd cn nm ig ic mr a ccd cl A₀ h₀ L m s Q E B F X N T' hd hu hret
  ((refine wpAny_call ?_; k_dflt (refine' code_defSX (by k_asm) (by k_asm) (by k_asm) (by k_asm) (by k_asm) (by exact rfl) (by exact rfl) (by exact rfl) (by k_is) (by k_is) (by ktr_room) (by first | exact BindsTo.of_eq rfl | exact binds_K (by k_in) rfl (by k_is) rfl rfl rfl) (by exact locs rfl) ?_ (by exact rfl) (by exact rfl) (by exact rfl) (by decide); k_whole; intro q9g' q9L' q9h' q9FG' q9F' q9N' q9B' q9X' q9T' q9D'; (try dsimp only); (try k_lift q9B'); (try k_fold))))
  repeat' (first | (k_unfold; (try dsimp only)) | (k_end; kc_close) | ((with_reducible show wpAny _ _ (subscriptTail (Expr.Name ..) (Expr.Slice ..) (Value.ref ..) (Value.ref ..)) _ _ _); with_reducible (k_here; (with_unfolding_all refine slice_tuple_from (a := 2) (items := List.toArray _) (by k_asm) (by k_asm) (News.isTup (by k_asm) (by k_mem)) (by decide) (by simp only [List.size_toArray, List.length_cons]; omega) ?_ (by with_unfolding_all rfl) (by intro _; with_unfolding_all rfl) (by simp only [List.size_toArray]; rw [sizeLine_eq]; omega)); intro q9h' q9F' q9N')) | ((with_reducible show StarOf ..); with_reducible (k_here; k_dflt (refine' star_seq (by k_asm) (by k_asm) (by k_mem) (by exact rfl) (by exact rfl) (by first | exact .inl rfl | exact .inr rfl) (by exact rfl) (by rw [sizeLine_eq]; simp only [List.size_toArray]; omega) ?_; k_whole); intro q9h' q9F' q9N'; (try dsimp only [List.nil_append, List.cons_append]))) | ((with_reducible show wpAny _ _ (call (Value.builtin "str.join") [Value.str _ _, Value.ref _]) _ _ _); (refine SC.join (News.isList (by k_asm) (by k_mem)) (by assumption) (joinOk_split _ _ _ (by first | assumption | exact Nat.le_refl _) (by first | omega | ((try simp only [Str.length] at *); (show _ + 1 ≤ _); omega))) ?_; intro _ _)) | ((with_reducible show wpAny _ _ (call (Value.builtin "str.split") [Value.str _ _, Value.str (Str.ofString "") _]) _ _ _); with_reducible (refine split_empty rfl (by decide +kernel) (kind_min _) ?_; intro q9h' q9tk' q9e' q9x')) | ((with_reducible show wpAny _ _ (call (Value.builtin "str.split") [Value.str _ _, Value.str _ _]) _ _ _); with_reducible (refine KSpl.split1 (by k_asm) (by k_asm) (by first | decide | (simp only [beq_eq_false_iff_ne]; assumption)) ?_ (by rw [sizeLine_eq]; omega); intro q9D' q9l' q9h' q9k' q9e' q9a' q9F' q9N' q9l1; (try k_lt q9l1))) | ((with_reducible show wpAny _ _ (call (Value.ref 202) (_ :: (_ ++ []))) _ _ _); with_reducible (simp only [List.append_nil])) | ((with_reducible show wpAny _ _ (exec (Stmt.While ..) _) _ _ _); with_reducible (k_here; refine Hold.mk ?_)) | ((with_reducible show wpAny _ _ (execs (_ :: _) _) _ _ _); with_reducible (k_here; k_gentoks)) | ((with_reducible show wpAny _ _ (execs (_ :: _) _) _ _ _); with_reducible (k_here; refine execs_cons_H ?_; intro q9K q9hK q9hK2)) | ((with_reducible show wpAny _ _ (truthy (Value.ref _)) _ _ _); with_reducible (k_here; (try dsimp only); (with_reducible show wpAny _ _ (truthy (Value.ref _)) _ _ _); (k_dflt (refine' truthy_tuple (items := List.toArray _) (by exact News.isTup (by k_asm) (by k_mem)) (by simp only [List.size_toArray]; omega) ?_)); (try simp only [List.isEmpty_toArray, List.isEmpty_cons, List.isEmpty_nil, Bool.not_false, Bool.not_true]))) | ((with_reducible show Back ..); (k_here; first | refine Back.next (by with_reducible assumption) ?_ | refine Back.other (by with_reducible assumption) (fun h => Flow.noConfusion h) ?_)) | ((with_reducible show wpAny _ _ (subscriptTail _ _ _ _) _ _ _); with_reducible (k_here; (try dsimp only); (with_reducible show wpAny _ _ (subscriptTail _ _ (Value.ref _) (Value.int 1 _)) _ _ _); k_dflt (refine item_tup_out (vs := [_]) rfl (by k_asm) (by k_mem) rfl (by decide) (by decide) ?_ (by with_unfolding_all rfl)); intro q9h' q9tk' q9e' q9x')) | ((with_reducible show wpAny _ _ (subscriptTail _ _ _ _) _ _ _); with_reducible (k_here; (try dsimp only); (with_reducible show wpAny _ _ (subscriptTail _ _ (Value.ref _) (Value.int 1 _)) _ _ _); k_dflt (refine item_tup1 (News.isTup (by k_asm) (by k_mem)) ?_ (by with_unfolding_all rfl)))) | ((with_reducible show wpAny _ _ (subscriptTail _ _ _ _) _ _ _); with_reducible (k_here; (try dsimp only); (with_reducible show wpAny _ _ (subscriptTail _ _ (Value.ref _) (Value.int 0 _)) _ _ _); k_dflt (refine item_tup0 (News.isTup (by k_asm) (by k_mem)) ?_ (by with_unfolding_all rfl)))) | walk1 | (dsimp only; walk1) | (leave1; (try dsimp only)))
  refine wpAny_call ?_
  with_unfolding_all refine' kp_rest (g₁ := fun D => some [(Str.ofString "text", Value.str line tl), (Str.ofString "pairs", Value.ref D)]) ?k1 ?k2 ?k3 ?k4 ?k5 ?kA ?kF ?kK ?k6 ?k7 ?k8 ?kV ?kP ?kG ?kB ?_ ?c2 ?c3 ?c4 ?c5
  case kA => exact rfl
  case kF => exact rfl
  case kK => exact rfl
  case k1 => k_asm
  case k2 => k_asm
  case k3 => k_asm
  case k4 => k_asm
  case k5 => k_asm
  case k6 => k_is
  case k7 => k_is
  case k8 => ktr_room
  case kV => exact rfl
  case kP =>
    clear hv hret hok
    cases vals <;> with_unfolding_all exact peek1_tup (f := fun v => pure [(Str.ofString "text", Value.str line tl), (Str.ofString "pairs", v)]) hl
  case kG => exact fun _ => rfl
  case kB => exact fun _ => locs rfl
  case c5 => decide
  case c2 => exact rfl
  case c3 => exact rfl
  case c4 => exact rfl
  intro D' g' L' h' l1 FG' F' N' B' X' T'
  (try k_lt l1); (try dsimp only); (try k_lift B'); (try k_fold)
  repeat' (first | (k_unfold; (try dsimp only)) | (k_end; kc_close) | ((with_reducible show wpAny _ _ (subscriptTail (Expr.Name ..) (Expr.Slice ..) (Value.ref ..) (Value.ref ..)) _ _ _); with_reducible (k_here; (with_unfolding_all refine slice_tuple_from (a := 2) (items := List.toArray _) (by k_asm) (by k_asm) (News.isTup (by k_asm) (by k_mem)) (by decide) (by simp only [List.size_toArray, List.length_cons]; omega) ?_ (by with_unfolding_all rfl) (by intro _; with_unfolding_all rfl) (by simp only [List.size_toArray]; rw [sizeLine_eq]; omega)); intro q9h' q9F' q9N')) | ((with_reducible show StarOf ..); with_reducible (k_here; k_dflt (refine' star_seq (by k_asm) (by k_asm) (by k_mem) (by exact rfl) (by exact rfl) (by first | exact .inl rfl | exact .inr rfl) (by exact rfl) (by rw [sizeLine_eq]; simp only [List.size_toArray]; omega) ?_; k_whole); intro q9h' q9F' q9N'; (try dsimp only [List.nil_append, List.cons_append]))) | ((with_reducible show wpAny _ _ (call (Value.builtin "str.join") [Value.str _ _, Value.ref _]) _ _ _); (refine SC.join (News.isList (by k_asm) (by k_mem)) (by assumption) (joinOk_split _ _ _ (by first | assumption | exact Nat.le_refl _) (by first | omega | ((try simp only [Str.length] at *); (show _ + 1 ≤ _); omega))) ?_; intro _ _)) | ((with_reducible show wpAny _ _ (call (Value.builtin "str.split") [Value.str _ _, Value.str (Str.ofString "") _]) _ _ _); with_reducible (refine split_empty rfl (by decide +kernel) (kind_min _) ?_; intro q9h' q9tk' q9e' q9x')) | ((with_reducible show wpAny _ _ (call (Value.builtin "str.split") [Value.str _ _, Value.str _ _]) _ _ _); with_reducible (refine KSpl.split1 (by k_asm) (by k_asm) (by first | decide | (simp only [beq_eq_false_iff_ne]; assumption)) ?_ (by rw [sizeLine_eq]; omega); intro q9D' q9l' q9h' q9k' q9e' q9a' q9F' q9N' q9l1; (try k_lt q9l1))) | ((with_reducible show wpAny _ _ (call (Value.ref 202) (_ :: (_ ++ []))) _ _ _); with_reducible (simp only [List.append_nil])) | ((with_reducible show wpAny _ _ (exec (Stmt.While ..) _) _ _ _); with_reducible (k_here; refine Hold.mk ?_)) | ((with_reducible show wpAny _ _ (execs (_ :: _) _) _ _ _); with_reducible (k_here; k_gentoks)) | ((with_reducible show wpAny _ _ (execs (_ :: _) _) _ _ _); with_reducible (k_here; refine execs_cons_H ?_; intro q9K q9hK q9hK2)) | ((with_reducible show wpAny _ _ (truthy (Value.ref _)) _ _ _); with_reducible (k_here; (try dsimp only); (with_reducible show wpAny _ _ (truthy (Value.ref _)) _ _ _); (k_dflt (refine' truthy_tuple (items := List.toArray _) (by exact News.isTup (by k_asm) (by k_mem)) (by simp only [List.size_toArray]; omega) ?_)); (try simp only [List.isEmpty_toArray, List.isEmpty_cons, List.isEmpty_nil, Bool.not_false, Bool.not_true]))) | ((with_reducible show Back ..); (k_here; first | refine Back.next (by with_reducible assumption) ?_ | refine Back.other (by with_reducible assumption) (fun h => Flow.noConfusion h) ?_)) | ((with_reducible show wpAny _ _ (subscriptTail _ _ _ _) _ _ _); with_reducible (k_here; (try dsimp only); (with_reducible show wpAny _ _ (subscriptTail _ _ (Value.ref _) (Value.int 1 _)) _ _ _); k_dflt (refine item_tup_out (vs := [_]) rfl (by k_asm) (by k_mem) rfl (by decide) (by decide) ?_ (by with_unfolding_all rfl)); intro q9h' q9tk' q9e' q9x')) | ((with_reducible show wpAny _ _ (subscriptTail _ _ _ _) _ _ _); with_reducible (k_here; (try dsimp only); (with_reducible show wpAny _ _ (subscriptTail _ _ (Value.ref _) (Value.int 1 _)) _ _ _); k_dflt (refine item_tup1 (News.isTup (by k_asm) (by k_mem)) ?_ (by with_unfolding_all rfl)))) | ((with_reducible show wpAny _ _ (subscriptTail _ _ _ _) _ _ _); with_reducible (k_here; (try dsimp only); (with_reducible show wpAny _ _ (subscriptTail _ _ (Value.ref _) (Value.int 0 _)) _ _ _); k_dflt (refine item_tup0 (News.isTup (by k_asm) (by k_mem)) ?_ (by with_unfolding_all rfl)))) | walk1 | (dsimp only; walk1) | (leave1; (try dsimp only)))
  unfold Hold
  rename Fr _ _ _ _ => F1; rename News _ _ _ _ => N1
  refine short_while ps z F1 N1 hv hl hok hline rfl rfl ?turn (by passes_own)
  rintro ⟨x1, t1, D1, ps1, vals1⟩ u h tk' hc F2 N2
  have hv1 := hc.1
  have hl1 := hc.2.1
  have hok1 := hc.2.2.1
  have hx1 := hc.2.2.2
  clear hc F1 N1
  dsimp only at hv1 hl1 hok1 hx1 F2 N2
  cases ps1 with
  | nil =>
    refine park1 vals1 ?_; intro K hK
    obtain ⟨tz, _, rfl, hv2⟩ := strs_inv hv1
    clear hv1
    have e := strs_nil hv2
    subst e
    refine hK _ ?_; clear hK K hv2
    repeat' (first | (k_unfold; (try dsimp only)) | (k_end; kc_close) | ((with_reducible show wpAny _ _ (subscriptTail (Expr.Name ..) (Expr.Slice ..) (Value.ref ..) (Value.ref ..)) _ _ _); with_reducible (k_here; (with_unfolding_all refine slice_tuple_from (a := 2) (items := List.toArray _) (by k_asm) (by k_asm) (News.isTup (by k_asm) (by k_mem)) (by decide) (by simp only [List.size_toArray, List.length_cons]; omega) ?_ (by with_unfolding_all rfl) (by intro _; with_unfolding_all rfl) (by simp only [List.size_toArray]; rw [sizeLine_eq]; omega)); intro q9h' q9F' q9N')) | ((with_reducible show StarOf ..); with_reducible (k_here; k_dflt (refine' star_seq (by k_asm) (by k_asm) (by k_mem) (by exact rfl) (by exact rfl) (by first | exact .inl rfl | exact .inr rfl) (by exact rfl) (by rw [sizeLine_eq]; simp only [List.size_toArray]; omega) ?_; k_whole); intro q9h' q9F' q9N'; (try dsimp only [List.nil_append, List.cons_append]))) | ((with_reducible show wpAny _ _ (call (Value.builtin "str.join") [Value.str _ _, Value.ref _]) _ _ _); (refine SC.join (News.isList (by k_asm) (by k_mem)) (by assumption) (joinOk_split _ _ _ (by first | assumption | exact Nat.le_refl _) (by first | omega | ((try simp only [Str.length] at *); (show _ + 1 ≤ _); omega))) ?_; intro _ _)) | ((with_reducible show wpAny _ _ (call (Value.builtin "str.split") [Value.str _ _, Value.str (Str.ofString "") _]) _ _ _); with_reducible (refine split_empty rfl (by decide +kernel) (kind_min _) ?_; intro q9h' q9tk' q9e' q9x')) | ((with_reducible show wpAny _ _ (call (Value.builtin "str.split") [Value.str _ _, Value.str _ _]) _ _ _); with_reducible (refine KSpl.split1 (by k_asm) (by k_asm) (by first | decide | (simp only [beq_eq_false_iff_ne]; assumption)) ?_ (by rw [sizeLine_eq]; omega); intro q9D' q9l' q9h' q9k' q9e' q9a' q9F' q9N' q9l1; (try k_lt q9l1))) | ((with_reducible show wpAny _ _ (call (Value.ref 202) (_ :: (_ ++ []))) _ _ _); with_reducible (simp only [List.append_nil])) | ((with_reducible show wpAny _ _ (exec (Stmt.While ..) _) _ _ _); with_reducible (k_here; refine Hold.mk ?_)) | ((with_reducible show wpAny _ _ (execs (_ :: _) _) _ _ _); with_reducible (k_here; k_gentoks)) | ((with_reducible show wpAny _ _ (execs (_ :: _) _) _ _ _); with_reducible (k_here; refine execs_cons_H ?_; intro q9K q9hK q9hK2)) | ((with_reducible show wpAny _ _ (truthy (Value.ref _)) _ _ _); with_reducible (k_here; (try dsimp only); (with_reducible show wpAny _ _ (truthy (Value.ref _)) _ _ _); (k_dflt (refine' truthy_tuple (items := List.toArray _) (by exact News.isTup (by k_asm) (by k_mem)) (by simp only [List.size_toArray]; omega) ?_)); (try simp only [List.isEmpty_toArray, List.isEmpty_cons, List.isEmpty_nil, Bool.not_false, Bool.not_true]))) | ((with_reducible show Back ..); (k_here; first | refine Back.next (by with_reducible assumption) ?_ | refine Back.other (by with_reducible assumption) (fun h => Flow.noConfusion h) ?_)) | ((with_reducible show wpAny _ _ (subscriptTail _ _ _ _) _ _ _); with_reducible (k_here; (try dsimp only); (with_reducible show wpAny _ _ (subscriptTail _ _ (Value.ref _) (Value.int 1 _)) _ _ _); k_dflt (refine item_tup_out (vs := [_]) rfl (by k_asm) (by k_mem) rfl (by decide) (by decide) ?_ (by with_unfolding_all rfl)); intro q9h' q9tk' q9e' q9x')) | ((with_reducible show wpAny _ _ (subscriptTail _ _ _ _) _ _ _); with_reducible (k_here; (try dsimp only); (with_reducible show wpAny _ _ (subscriptTail _ _ (Value.ref _) (Value.int 1 _)) _ _ _); k_dflt (refine item_tup1 (News.isTup (by k_asm) (by k_mem)) ?_ (by with_unfolding_all rfl)))) | ((with_reducible show wpAny _ _ (subscriptTail _ _ _ _) _ _ _); with_reducible (k_here; (try dsimp only); (with_reducible show wpAny _ _ (subscriptTail _ _ (Value.ref _) (Value.int 0 _)) _ _ _); k_dflt (refine item_tup0 (News.isTup (by k_asm) (by k_mem)) ?_ (by with_unfolding_all rfl)))) | walk1 | (dsimp only; walk1) | (leave1; (try dsimp only)))
    rename Fr h₀ L _ m => kF; rename News h₀ L _ _ => kN
    exact hret _ _ _ _ ⟨_, rfl, rfl⟩ kF (cb_drop kN fun q hq => by repeat (first | exact hq | apply List.mem_cons_of_mem))
  | cons ab ps1 =>
    have hab := hok1 ab List.mem_cons_self
    have hab1 : ab.1.length ≠ 0 := hab.1
    have hab2 : ab.2.length ≤ ab.1.length := hab.2.1
    have hab3 : ab.1.length ≤ 1000 := hab.2.2
    refine park1 vals1 ?_; intro K hK
    obtain ⟨ta, _, rfl, hv2⟩ := strs_inv (x := ab.1) (xs := ab.2 :: (flat2 ps1 ++ [z])) hv1
    clear hv1
    obtain ⟨tb, vs1, rfl, hv1⟩ := strs_inv hv2
    refine hK _ ?_; clear hK K hv2
    repeat' (first | (k_unfold; (try dsimp only)) | (k_end; kc_close) | ((with_reducible show wpAny _ _ (subscriptTail (Expr.Name ..) (Expr.Slice ..) (Value.ref ..) (Value.ref ..)) _ _ _); with_reducible (k_here; (with_unfolding_all refine slice_tuple_from (a := 2) (items := List.toArray _) (by k_asm) (by k_asm) (News.isTup (by k_asm) (by k_mem)) (by decide) (by simp only [List.size_toArray, List.length_cons]; omega) ?_ (by with_unfolding_all rfl) (by intro _; with_unfolding_all rfl) (by simp only [List.size_toArray]; rw [sizeLine_eq]; omega)); intro q9h' q9F' q9N')) | ((with_reducible show StarOf ..); with_reducible (k_here; k_dflt (refine' star_seq (by k_asm) (by k_asm) (by k_mem) (by exact rfl) (by exact rfl) (by first | exact .inl rfl | exact .inr rfl) (by exact rfl) (by rw [sizeLine_eq]; simp only [List.size_toArray]; omega) ?_; k_whole); intro q9h' q9F' q9N'; (try dsimp only [List.nil_append, List.cons_append]))) | ((with_reducible show wpAny _ _ (call (Value.builtin "str.join") [Value.str _ _, Value.ref _]) _ _ _); (refine SC.join (News.isList (by k_asm) (by k_mem)) (by assumption) (joinOk_split _ _ _ (by first | assumption | exact Nat.le_refl _) (by first | omega | ((try simp only [Str.length] at *); (show _ + 1 ≤ _); omega))) ?_; intro _ _)) | ((with_reducible show wpAny _ _ (call (Value.builtin "str.split") [Value.str _ _, Value.str (Str.ofString "") _]) _ _ _); with_reducible (refine split_empty rfl (by decide +kernel) (kind_min _) ?_; intro q9h' q9tk' q9e' q9x')) | ((with_reducible show wpAny _ _ (call (Value.builtin "str.split") [Value.str _ _, Value.str _ _]) _ _ _); with_reducible (refine KSpl.split1 (by k_asm) (by k_asm) (by first | decide | (simp only [beq_eq_false_iff_ne]; assumption)) ?_ (by rw [sizeLine_eq]; omega); intro q9D' q9l' q9h' q9k' q9e' q9a' q9F' q9N' q9l1; (try k_lt q9l1))) | ((with_reducible show wpAny _ _ (call (Value.ref 202) (_ :: (_ ++ []))) _ _ _); with_reducible (simp only [List.append_nil])) | ((with_reducible show wpAny _ _ (exec (Stmt.While ..) _) _ _ _); with_reducible (k_here; refine Hold.mk ?_)) | ((with_reducible show wpAny _ _ (execs (_ :: _) _) _ _ _); with_reducible (k_here; k_gentoks)) | ((with_reducible show wpAny _ _ (execs (_ :: _) _) _ _ _); with_reducible (k_here; refine execs_cons_H ?_; intro q9K q9hK q9hK2)) | ((with_reducible show wpAny _ _ (truthy (Value.ref _)) _ _ _); with_reducible (k_here; (try dsimp only); (with_reducible show wpAny _ _ (truthy (Value.ref _)) _ _ _); (k_dflt (refine' truthy_tuple (items := List.toArray _) (by exact News.isTup (by k_asm) (by k_mem)) (by simp only [List.size_toArray]; omega) ?_)); (try simp only [List.isEmpty_toArray, List.isEmpty_cons, List.isEmpty_nil, Bool.not_false, Bool.not_true]))) | ((with_reducible show Back ..); (k_here; first | refine Back.next (by with_reducible assumption) ?_ | refine Back.other (by with_reducible assumption) (fun h => Flow.noConfusion h) ?_)) | ((with_reducible show wpAny _ _ (subscriptTail _ _ _ _) _ _ _); with_reducible (k_here; (try dsimp only); (with_reducible show wpAny _ _ (subscriptTail _ _ (Value.ref _) (Value.int 1 _)) _ _ _); k_dflt (refine item_tup_out (vs := [_]) rfl (by k_asm) (by k_mem) rfl (by decide) (by decide) ?_ (by with_unfolding_all rfl)); intro q9h' q9tk' q9e' q9x')) | ((with_reducible show wpAny _ _ (subscriptTail _ _ _ _) _ _ _); with_reducible (k_here; (try dsimp only); (with_reducible show wpAny _ _ (subscriptTail _ _ (Value.ref _) (Value.int 1 _)) _ _ _); k_dflt (refine item_tup1 (News.isTup (by k_asm) (by k_mem)) ?_ (by with_unfolding_all rfl)))) | ((with_reducible show wpAny _ _ (subscriptTail _ _ _ _) _ _ _); with_reducible (k_here; (try dsimp only); (with_reducible show wpAny _ _ (subscriptTail _ _ (Value.ref _) (Value.int 0 _)) _ _ _); k_dflt (refine item_tup0 (News.isTup (by k_asm) (by k_mem)) ?_ (by with_unfolding_all rfl)))) | walk1 | (dsimp only; walk1) | (leave1; (try dsimp only)))
    rename Fr _ _ _ _ => F9
    rename News _ _ _ _ => N9
    exact ksw_end (SSt.mk (repl1 x1 ab) _ _ ps1 vs1) F9 N9
      (List.forall_mem_cons.mpr ⟨List.mem_cons_self, fun q hq => by repeat (first | exact hq | apply List.mem_cons_of_mem)⟩)
      ⟨hv1, by simp only [List.length_cons] at hl1 ⊢; omega, fun ab hm => hok1 ab (List.mem_cons_of_mem _ hm), Nat.le_trans (repl1_len _ _ hab2) hx1⟩
      (List.forall_mem_cons.mpr ⟨rfl, List.forall_mem_cons.mpr ⟨rfl, fun q hq => nomatch hq⟩⟩) (by
        intro y h2 _
        have e1 : y ≠ Str.ofString "text" := h2 _ List.mem_cons_self
        have e2 : y ≠ Str.ofString "pairs" := h2 _ (List.mem_cons_of_mem _ List.mem_cons_self)
        show (if y = _ then _ else if y = _ then _ else kstB _ _ y) = _
        rw [if_neg e2, if_neg e1]
        simp [kstB, e1, e2]) trivial (Nat.lt_succ_self _)
theorem c_kindS1 {w : World} {p : Program} {loose : List Str} {mean : ExcName → Option Value} {mg mb : Str → Option Value} {rest : List (Addr × Obj)} (P : Addr) (kP : Nat) (line a1 b1 z : Str) (tl u0 u1 u2 : Tok) (hline : line.length ≤ 1000) (hok1 : okPair (a1, b1)) :
   CtL w p loose mean mg mb 240 [.str line tl, .ref P] 12 60 ((P, { cls := .type "list", data := .seq #[.str a1 u0, .str b1 u1, .str z u2] kP }) :: rest)
     (fun r n' => ∃ t, r = .str (Str.ofString "short") t ∧ n' = rest) :=
  c_kindS P kP line z [(a1, b1)] [.str a1 u0, .str b1 u1, .str z u2] tl hline (.cons _ _ (.cons _ _ (.cons _ _ .nil))) (by simp only [List.length_cons, List.length_nil]; omega) (List.forall_mem_cons.mpr ⟨hok1, (fun _ h => nomatch h)⟩)
theorem c_kindS2 {w : World} {p : Program} {loose : List Str} {mean : ExcName → Option Value} {mg mb : Str → Option Value} {rest : List (Addr × Obj)} (P : Addr) (kP : Nat) (line a1 b1 a2 b2 z : Str) (tl u0 u1 u2 u3 u4 : Tok) (hline : line.length ≤ 1000) (hok1 : okPair (a1, b1)) (hok2 : okPair (a2, b2)) :
   CtL w p loose mean mg mb 240 [.str line tl, .ref P] 12 60 ((P, { cls := .type "list", data := .seq #[.str a1 u0, .str b1 u1, .str a2 u2, .str b2 u3, .str z u4] kP }) :: rest)
     (fun r n' => ∃ t, r = .str (Str.ofString "short") t ∧ n' = rest) :=
  c_kindS P kP line z [(a1, b1), (a2, b2)] [.str a1 u0, .str b1 u1, .str a2 u2, .str b2 u3, .str z u4] tl hline (.cons _ _ (.cons _ _ (.cons _ _ (.cons _ _ (.cons _ _ .nil))))) (by simp only [List.length_cons, List.length_nil]; omega) (List.forall_mem_cons.mpr ⟨hok1, (List.forall_mem_cons.mpr ⟨hok2, (fun _ h => nomatch h)⟩)⟩)
theorem c_kindS3 {w : World} {p : Program} {loose : List Str} {mean : ExcName → Option Value} {mg mb : Str → Option Value} {rest : List (Addr × Obj)} (P : Addr) (kP : Nat) (line a1 b1 a2 b2 a3 b3 z : Str) (tl u0 u1 u2 u3 u4 u5 u6 : Tok) (hline : line.length ≤ 1000) (hok1 : okPair (a1, b1)) (hok2 : okPair (a2, b2)) (hok3 : okPair (a3, b3)) :
   CtL w p loose mean mg mb 240 [.str line tl, .ref P] 12 60 ((P, { cls := .type "list", data := .seq #[.str a1 u0, .str b1 u1, .str a2 u2, .str b2 u3, .str a3 u4, .str b3 u5, .str z u6] kP }) :: rest)
     (fun r n' => ∃ t, r = .str (Str.ofString "short") t ∧ n' = rest) :=
  c_kindS P kP line z [(a1, b1), (a2, b2), (a3, b3)] [.str a1 u0, .str b1 u1, .str a2 u2, .str b2 u3, .str a3 u4, .str b3 u5, .str z u6] tl hline (.cons _ _ (.cons _ _ (.cons _ _ (.cons _ _ (.cons _ _ (.cons _ _ (.cons _ _ .nil))))))) (by simp only [List.length_cons, List.length_nil]; omega) (List.forall_mem_cons.mpr ⟨hok1, (List.forall_mem_cons.mpr ⟨hok2, (List.forall_mem_cons.mpr ⟨hok3, (fun _ h => nomatch h)⟩)⟩)⟩)
end Mine
end
section
open PySem PySem.W PySem.Calls PyProof.Rows
set_option Elab.async false
set_option maxRecDepth 100000
set_option maxHeartbeats 8000000
namespace Mine
theorem anew_CPart : True := by
  w_top off
  exact True.intro
theorem pairs_len {row : Str} {vals : List Value} (h : StrsAre vals (flat2 (pairsOf row))) (hr : row.length ≤ 5) : vals.length ≤ 12 := by
  have h1 := h.length
  rw [flat2_len] at h1
  have h2 : (pairsOf row).length = row.length := by simp [pairsOf]; rfl
  omega
theorem pairs_sz {row : Str} {vals : List Value} (h : StrsAre vals (flat2 (pairsOf row))) (hr : row.length ≤ 5) : vals.toArray.size ≤ sizeLine := by
  have := pairs_len h hr
  rw [List.size_toArray, sizeLine_eq]; omega
theorem pairs_ok (row : Str) : ∀ ab ∈ pairsOf row, okPair ab := by
  intro ab h
  obtain ⟨c, _, rfl⟩ := List.mem_map.mp h
  unfold pairOf
  split
  · exact ⟨by decide +kernel, by decide +kernel, by decide +kernel⟩
  · exact ⟨by decide +kernel, by decide +kernel, by decide +kernel⟩
theorem lt_neP {news : List (Addr × Obj)} {a : Nat} (h : ∀ p ∈ news, @LT.lt Nat _ p.1 a) : ∀ p ∈ news, p.1 ≠ a + 1 := fun p hp => Nat.ne_of_lt (Nat.lt_succ_of_lt (h p hp))
section
variable {prog : Program} {w : World} {A : Around} {E : Value → Shared → Prop} {s : Shared} {h₀ : Heap} {env : Env} {x : Str} {body : List Stmt} {Q : Flow → Shared → Prop}
structure Two where
  ys : List Value
  ky : Nat
  ns : List Value
  kn : Nat
noncomputable abbrev twoLed (no yes : Addr) (tail : List (Addr × Obj)) (c : Two) : List (Addr × Obj) := (no, listOf c.ns.toArray c.kn) :: (yes, listOf c.ys.toArray c.ky) :: tail
noncomputable def TwoAt (p : Str → Bool) (rows : List Str) (i : Nat) (c : Two) : Prop := StrsAre c.ys ((rows.take i).filter p) ∧ StrsAre c.ns ((rows.take i).filter fun r => !p r)
theorem TwoAt.yes {p : Str → Bool} {rows : List Str} {i : Nat} {c : Two} {row : Str} {t : Tok} (h : TwoAt p rows i c) (hr : rows[i]? = some row) (hp : p row = true) : TwoAt p rows (i + 1) ⟨c.ys ++ [.str row t], c.ky + 1, c.ns, c.kn⟩ := by
  constructor
  · show StrsAre (c.ys ++ [.str row t]) _
    rw [List.take_add_one, hr, List.filter_append]
    show StrsAre _ (_ ++ List.filter p [row])
    rw [List.filter_cons_of_pos hp]
    exact strsAre_snoc h.1
  · show StrsAre c.ns _
    rw [List.take_add_one, hr, List.filter_append]
    show StrsAre _ (_ ++ List.filter (fun r => !p r) [row])
    rw [List.filter_cons_of_neg (by simp [hp]), List.filter_nil, List.append_nil]
    exact h.2
theorem TwoAt.no {p : Str → Bool} {rows : List Str} {i : Nat} {c : Two} {row : Str} {t : Tok} (h : TwoAt p rows i c) (hr : rows[i]? = some row) (hp : p row = false) : TwoAt p rows (i + 1) ⟨c.ys, c.ky, c.ns ++ [.str row t], c.kn + 1⟩ := by
  constructor
  · show StrsAre c.ys _
    rw [List.take_add_one, hr, List.filter_append]
    show StrsAre _ (_ ++ List.filter p [row])
    rw [List.filter_cons_of_neg (by simp [hp]), List.filter_nil, List.append_nil]
    exact h.1
  · show StrsAre (c.ns ++ [.str row t]) _
    rw [List.take_add_one, hr, List.filter_append]
    show StrsAre _ (_ ++ List.filter (fun r => !p r) [row])
    rw [List.filter_cons_of_pos (by simp [hp])]
    exact strsAre_snoc h.2
theorem iter_two {no yes R : Addr} {tail : List (Addr × Obj)} {vs : List Value} {k : Nat} {rows : List Str} {m₀ : Str → Option Value} (p : Str → Bool) (hR : StrsAre vs rows) (hh : A.handled = none) (F : Fr h₀ env.locals s.heap m₀) (N : News h₀ env.locals s.heap ((no, listOf #[] 0) :: (yes, listOf #[] 0) :: tail))
    (hm : (R, ({ cls := .type "list", data := .seq vs.toArray k } : Obj)) ∈ tail)
    (turn : ∀ i row t (c : Two) (u : Str → Option Value) h tk I oI, rows[i]? = some row → TwoAt p rows i c → (∀ q ∈ twoLed no yes tail c, q.1 ≠ I) → Fr h₀ env.locals h (fun y => if y = x then some (.str row t) else kstB (fun z => if [x].contains z then u z else m₀ z) [] y) → News h₀ env.locals h ((I, oI) :: twoLed no yes tail c) →
      wpAny (model prog w) A (execs body env) (StPost h₀ env.locals { s with heap := h, toks := tk } I oI [(R, { cls := .type "list", data := .seq vs.toArray k })] (twoLed no yes tail) (fun _ => []) [x] m₀ (TwoAt p rows (i + 1)) Q) E { s with heap := h, toks := tk })
    (done : ∀ c (u : Str → Option Value) h tk, StrsAre c.ys (rows.filter p) → StrsAre c.ns (rows.filter fun r => !p r) → Fr h₀ env.locals h (kstB (fun z => if [x].contains z then u z else m₀ z) []) → News h₀ env.locals h (twoLed no yes tail c) → Q .next { s with heap := h, toks := tk }) :
    wpAny (model prog w) A (pyIter (.ref R)) (fun it s₂ => LoopAtV prog w A h₀ env x body Q E it s₂) E s := by
  refine iter_S (twoLed no yes tail) (fun _ => []) [x] (TwoAt p rows) ⟨[], 0, [], 0⟩ (inSrc_list hh N (.tail _ (.tail _ hm))) F N (fun q hq => by rw [List.mem_singleton.mp hq]; exact .tail _ (.tail _ hm)) ⟨.nil, .nil⟩ (fun _ h => nomatch h) ?_ ?_
  · intro i v c u h tk I oI hi hP hK _ hoff F2 N2
    obtain ⟨row, t, hr, rfl⟩ := listAt_of hR i v hP
    exact turn i row t c u h tk I oI hr hK hoff F2 N2
  · intro c u h tk hK F2 N2
    have e : vs.toArray.size = rows.length := size_of_strs hR
    rw [e] at hK
    unfold TwoAt at hK
    rw [List.take_length] at hK
    exact done c u h tk hK.1 hK.2 F2 N2
theorem app_yes {no yes I : Addr} {oI : Obj} {tail all : List (Addr × Obj)} {c : Two} {v : Value} {L : Addr} {m : Str → Option Value} {Q : Value → Shared → Prop} (F : Fr h₀ L s.heap m) (N : News h₀ L s.heap all) (hsub : ∀ q ∈ (I, oI) :: twoLed no yes tail c, q ∈ all)
    (hI : I ≠ yes) (hyn : @LT.lt Nat _ yes no) (ht : ∀ q ∈ tail, @LT.lt Nat _ q.1 yes) (hsz : c.ys.length ≤ 1000)
    (h : ∀ h', Fr h₀ L h' m → News h₀ L h' ((I, oI) :: twoLed no yes tail ⟨c.ys ++ [v], c.ky + 1, c.ns, c.kn⟩) → Q .none { s with heap := h' }) : wpAny (model prog w) A (call (.builtin "list.append") [.ref yes, v]) Q E s := by
  have hm := N _ (hsub (yes, listOf c.ys.toArray c.ky) (.tail _ (.tail _ (.head _))))
  refine append_at (hsz := by rw [List.size_toArray, sizeLine_eq]; omega) hm.1 fun h' hs hD => h h' (F.change hs hm.2.1 hm.2.2) fun q hq => ?_
  have old : ∀ q ∈ all, q.1 ≠ yes → h'.get? q.1 = some q.2 ∧ q.1 ≠ L ∧ h₀.get? q.1 = none := fun q hq hne => ⟨hs.extBut _ _ hne (N q hq).1, (N q hq).2⟩
  simp only [List.mem_cons] at hq
  rcases hq with rfl | rfl | rfl | hq
  · exact old _ (hsub _ (.head _)) hI
  · exact old _ (hsub _ (.tail _ (.head _))) (Nat.ne_of_gt hyn)
  · refine ⟨hD.trans ?_, hm.2⟩
    show some (listOf _ _) = _
    rw [List.push_toArray]
  · exact old _ (hsub _ (.tail _ (.tail _ (.tail _ hq)))) (Nat.ne_of_lt (ht q hq))
theorem app_no {no yes I : Addr} {oI : Obj} {tail all : List (Addr × Obj)} {c : Two} {v : Value} {L : Addr} {m : Str → Option Value} {Q : Value → Shared → Prop} (F : Fr h₀ L s.heap m) (N : News h₀ L s.heap all) (hsub : ∀ q ∈ (I, oI) :: twoLed no yes tail c, q ∈ all)
    (hI : I ≠ no) (hyn : @LT.lt Nat _ yes no) (ht : ∀ q ∈ tail, @LT.lt Nat _ q.1 no) (hsz : c.ns.length ≤ 1000)
    (h : ∀ h', Fr h₀ L h' m → News h₀ L h' ((I, oI) :: twoLed no yes tail ⟨c.ys, c.ky, c.ns ++ [v], c.kn + 1⟩) → Q .none { s with heap := h' }) : wpAny (model prog w) A (call (.builtin "list.append") [.ref no, v]) Q E s := by
  have hm := N _ (hsub (no, listOf c.ns.toArray c.kn) (.tail _ (.head _)))
  refine append_at (hsz := by rw [List.size_toArray, sizeLine_eq]; omega) hm.1 fun h' hs hD => h h' (F.change hs hm.2.1 hm.2.2) fun q hq => ?_
  have old : ∀ q ∈ all, q.1 ≠ no → h'.get? q.1 = some q.2 ∧ q.1 ≠ L ∧ h₀.get? q.1 = none := fun q hq hne => ⟨hs.extBut _ _ hne (N q hq).1, (N q hq).2⟩
  simp only [List.mem_cons] at hq
  rcases hq with rfl | rfl | rfl | hq
  · exact old _ (hsub _ (.head _)) hI
  · refine ⟨hD.trans ?_, hm.2⟩
    show some (listOf _ _) = _
    rw [List.push_toArray]
  · exact old _ (hsub _ (.tail _ (.tail _ (.head _)))) (Nat.ne_of_lt hyn)
  · exact old _ (hsub _ (.tail _ (.tail _ (.tail _ hq)))) (Nat.ne_of_lt (ht q hq))
theorem tail_lt {h : Heap} {L no : Addr} {a b : Addr × Obj} {tail : List (Addr × Obj)} (_N : News h₀ L h (a :: b :: tail)) (x : AllLt no tail) : ∀ q ∈ tail, @LT.lt Nat _ q.1 no := allLt_mem x
theorem TwoAt.len {p : Str → Bool} {rows : List Str} {i : Nat} {c : Two} (h : TwoAt p rows i c) (hn : rows.length ≤ 40) : c.ys.length ≤ 1000 ∧ c.ns.length ≤ 1000 := by
  have h1 := h.1.length
  have h2 := h.2.length
  have h3 := List.length_filter_le p (rows.take i)
  have h4 := List.length_filter_le (fun r => !p r) (rows.take i)
  have h5 := List.length_take_le i rows
  have h6 : (rows.take i).length ≤ rows.length := by rw [List.length_take]; omega
  omega
theorem two_end {no yes R I : Addr} {oI oR : Obj} {tail all : List (Addr × Obj)} {c : Two} {h' : Heap} {tk : Nat} {L : Addr} {m' m₀ : Str → Option Value} {x : Str} {K : Two → Prop} (F : Fr h₀ L h' m') (N : News h₀ L h' all) (hsub : ∀ q ∈ (I, oI) :: twoLed no yes tail c, q ∈ all)
    (hI : ∀ q ∈ twoLed no yes tail c, q.1 ≠ I) (hR : (R, oR) ∈ tail) (hK : K c) (hm : ∀ z, z ≠ x → m' z = m₀ z) : StPost h₀ L s I oI [(R, oR)] (twoLed no yes tail) (fun _ => []) [x] m₀ K Q .next { s with heap := h', toks := tk } :=
  ⟨c, h', tk, m', all, rfl, F, N, hsub _ (.head _), fun q hq => hsub q (.tail _ hq), hI, fun q hq => by rw [List.mem_singleton.mp hq]; exact .tail _ (.tail _ hR), hK, (fun _ h => nomatch h), fun z _ hz => hm z (fun e => by rw [e] at hz; exact absurd hz (by simp))⟩
theorem two_off {no yes I : Addr} {tail : List (Addr × Obj)} {c c' : Two} (h : ∀ q ∈ twoLed no yes tail c, q.1 ≠ I) : ∀ q ∈ twoLed no yes tail c', q.1 ≠ I := by
  intro q hq
  simp only [List.mem_cons] at hq
  rcases hq with rfl | rfl | hq
  · exact h (no, listOf c.ns.toArray c.kn) (.head _)
  · exact h (yes, listOf c.ys.toArray c.ky) (.tail _ (.head _))
  · exact h _ (.tail _ (.tail _ hq))
theorem two_map {x : Str} {v : Value} {u m₀ : Str → Option Value} : ∀ z, z ≠ x → (fun y => if y = x then some v else kstB (fun z => if [x].contains z then u z else m₀ z) [] y) z = m₀ z := by
  intro z hz
  simp [kstB, hz]
end
local macro_rules | `(tactic| k_all) => `(tactic| first | with_reducible assumption | exact lt_neP (by with_reducible assumption))
theorem part_drop {h₀ h : Heap} {L : Addr} {d n y f c k1 k2 r t : Addr × Obj} {rest : List (Addr × Obj)} (N : News h₀ L h (d :: n :: y :: f :: c :: k1 :: k2 :: r :: t :: rest)) : News h₀ L h (d :: n :: y :: c :: t :: r :: rest) :=
  cb_drop N fun q hq => by
    simp only [List.mem_cons] at hq ⊢
    rcases hq with h | h | h | h | h | h | h <;> simp [h]
noncomputable def lamQ : Str := Str.ofString "_law_parted" ++ Str.ofString ".<locals>." ++ Str.ofString "<lambda>"
theorem c_partedN {w : World} {p : Program} {loose : List Str} {mean : ExcName → Option Value} {mg mb : Str → Option Value} {rest : List (Addr × Obj)} (R : Addr) (vs : List Value) (kR : Nat) (rows : List Str) (line bare : Str) (tl tb : Tok) (hR : StrsAre vs rows) (hn : rows.length ≤ 40) (hl : ∀ r ∈ rows, r.length ≤ 4) (hline : line.length ≤ 1000)
    (hR242 : R ≠ 242) (hr242 : ∀ q ∈ rest, q.1 ≠ 242) :
   CtP w p loose mean mg mb 247 [.ref R, .str line tl, .str bare tb] 20 90 ((R, { cls := .type "list", data := .seq vs.toArray kR }) :: (242, tabObj #[]) :: rest)
     (fun r n' => ∃ D no yes c' oc ys ns ky kn vs0 t0, r = .ref D ∧ n' = (D, tupObj [.ref yes, .ref no]) :: (no, listOf (List.toArray ns) kn) :: (yes, listOf (List.toArray ys) ky) :: (c', oc) :: (242, tabObj #[rawInt 152, rawInt 29, .ref c']) :: (R, { cls := .type "list", data := .seq vs.toArray kR }) :: rest ∧
       StrsAre ys (rows.filter fun row => replAll line (pairsOf row) == bare) ∧ StrsAre ns (rows.filter fun row => !(replAll line (pairsOf row) == bare)) ∧ oc.data = .fields vs0 ∧ vs0[1]? = some (.str lamQ t0) ∧ ∀ q ∈ rest, @LT.lt Nat _ q.1 c') := by
  unfold CtP; k_fill
  intro dp un gd cn nm ig ic mr a ccd cl outer A₀ base h₀ L m s Q E B F X N T' hCode hd hu hret
  repeat' (first | (k_unfold; (try dsimp only)) | (k_end; kc_close) | ((with_reducible show wpAny _ _ (exec (Stmt.For (Expr.Name ..) (Expr.Name ..) (_ :: _) [] ..) _) _ _ _); with_reducible (k_here; k_dflt (refine for_hold (by k_asm) (by rfl) (by rfl) ?_ (by intro _; rfl) (by passes_own)); refine Hold.mk ?_)) | ((with_reducible show StarOf ..); with_reducible (k_here; (with_reducible rename StrsAre _ (flat2 (pairsOf _)) => q9saP); k_dflt (refine' star_seq (by k_asm) (by k_asm) (by k_mem) (by exact rfl) (by exact rfl) (by first | exact .inl rfl | exact .inr rfl) (by exact rfl) (by exact pairs_sz q9saP (by omega)) ?_; k_whole); intro q9h' q9F' q9N'; (try dsimp only [List.nil_append, List.cons_append]))) | ((with_reducible show wpAny _ _ (call (Value.ref _) _ _) _ _ _); with_reducible (k_here; (try simp only [List.append_nil]); (with_reducible show wpAny _ _ (call (Value.ref 202) (Value.str _ _ :: _)) _ _ _); (with_reducible rename StrsAre _ (flat2 (pairsOf _)) => q9saP); k_dflt (refine' c_replace _ _ _ _ (pairs_len q9saP (by omega)) q9saP (pairs_ok _) (by omega) _ _ _ _ _ _ _ _ _ _ _ _ _ _ _ _ _ _ _ _ (by k_asm) (by k_asm) (by k_in) (by k_asm) (by k_asm) (by k_room) (by k_room) ?_); intro q9rv q9h' q9tk' q9nw q9hr q9F'; refine park2 q9rv q9nw ?_; intro q9Kp q9hKp; obtain ⟨q9en, q9tt, q9er⟩ := q9hr; cases q9en; cases q9er; refine q9hKp _ _ ?_; clear q9hKp q9Kp; intro q9N')) | ((with_reducible show wpAny _ _ (call (Value.ref 233) [Value.str _ _]) _ _ _); with_reducible (k_dflt (refine' c_pairs _ _ (by first | with_reducible assumption | omega) _ _ _ _ _ _ _ _ _ _ _ _ _ _ _ _ _ _ _ _ (by k_asm) (by k_asm) (by k_in) (by k_asm) (by k_asm) (by k_room) (by k_room) ?_); intro q9rv q9h' q9tk' q9nw q9hr q9F'; refine park2 q9rv q9nw ?_; intro q9Kp q9hKp; obtain ⟨q9pD, q9pvals, q9er, q9en, q9pS, q9pO⟩ := q9hr; cases q9en; cases q9er; refine q9hKp _ _ ?_; clear q9hKp q9Kp; intro q9N')) | ((with_reducible show wpAny _ _ (execs (_ :: _) _) _ _ _); with_reducible (k_here; k_gentoks)) | ((with_reducible show wpAny _ _ (execs (_ :: _) _) _ _ _); with_reducible (k_here; refine execs_cons_H ?_; intro q9K q9hK q9hK2)) | ((with_reducible show Back ..); (k_here; first | refine Back.next (by with_reducible assumption) ?_ | refine Back.other (by with_reducible assumption) (fun h => Flow.noConfusion h) ?_)) | walk1 | (dsimp only; walk1) | (leave1; (try dsimp only)))
  unfold Hold
  refine ld (by assumption) rfl ?_
  rename Fr _ _ _ _ => F1; rename News _ _ _ _ => N1
  rename @LT.lt Nat _ _ _ ∧ _ => hln
  obtain ⟨hyn, hln⟩ := hln
  have hno := tail_lt N1 hln
  clear hln
  rename @LT.lt Nat _ _ _ ∧ _ => hly
  have hyes := tail_lt N1 hly
  refine iter_two (fun row => replAll line (pairsOf row) == bare) hR rfl F1 N1 (by k_mem) ?turn ?done
  case turn =>
    intro i row t c u h tk' I oI hrow hK hoff F2 N2
    have hrl : row.length ≤ 4 := hl row (List.mem_of_getElem? hrow)
    have hrl2 : row.length ≤ 10 := by omega
    simp only [twoLed] at N2
    clear F1 N1
    repeat' (first | (k_unfold; (try dsimp only)) | (k_end; kc_close) | ((with_reducible show wpAny _ _ (exec (Stmt.For (Expr.Name ..) (Expr.Name ..) (_ :: _) [] ..) _) _ _ _); with_reducible (k_here; k_dflt (refine for_hold (by k_asm) (by rfl) (by rfl) ?_ (by intro _; rfl) (by passes_own)); refine Hold.mk ?_)) | ((with_reducible show StarOf ..); with_reducible (k_here; (with_reducible rename StrsAre _ (flat2 (pairsOf _)) => q9saP); k_dflt (refine' star_seq (by k_asm) (by k_asm) (by k_mem) (by exact rfl) (by exact rfl) (by first | exact .inl rfl | exact .inr rfl) (by exact rfl) (by exact pairs_sz q9saP (by omega)) ?_; k_whole); intro q9h' q9F' q9N'; (try dsimp only [List.nil_append, List.cons_append]))) | ((with_reducible show wpAny _ _ (call (Value.ref _) _ _) _ _ _); with_reducible (k_here; (try simp only [List.append_nil]); (with_reducible show wpAny _ _ (call (Value.ref 202) (Value.str _ _ :: _)) _ _ _); (with_reducible rename StrsAre _ (flat2 (pairsOf _)) => q9saP); k_dflt (refine' c_replace _ _ _ _ (pairs_len q9saP (by omega)) q9saP (pairs_ok _) (by omega) _ _ _ _ _ _ _ _ _ _ _ _ _ _ _ _ _ _ _ _ (by k_asm) (by k_asm) (by k_in) (by k_asm) (by k_asm) (by k_room) (by k_room) ?_); intro q9rv q9h' q9tk' q9nw q9hr q9F'; refine park2 q9rv q9nw ?_; intro q9Kp q9hKp; obtain ⟨q9en, q9tt, q9er⟩ := q9hr; cases q9en; cases q9er; refine q9hKp _ _ ?_; clear q9hKp q9Kp; intro q9N')) | ((with_reducible show wpAny _ _ (call (Value.ref 233) [Value.str _ _]) _ _ _); with_reducible (k_dflt (refine' c_pairs _ _ (by first | with_reducible assumption | omega) _ _ _ _ _ _ _ _ _ _ _ _ _ _ _ _ _ _ _ _ (by k_asm) (by k_asm) (by k_in) (by k_asm) (by k_asm) (by k_room) (by k_room) ?_); intro q9rv q9h' q9tk' q9nw q9hr q9F'; refine park2 q9rv q9nw ?_; intro q9Kp q9hKp; obtain ⟨q9pD, q9pvals, q9er, q9en, q9pS, q9pO⟩ := q9hr; cases q9en; cases q9er; refine q9hKp _ _ ?_; clear q9hKp q9Kp; intro q9N')) | ((with_reducible show wpAny _ _ (execs (_ :: _) _) _ _ _); with_reducible (k_here; k_gentoks)) | ((with_reducible show wpAny _ _ (execs (_ :: _) _) _ _ _); with_reducible (k_here; refine execs_cons_H ?_; intro q9K q9hK q9hK2)) | ((with_reducible show Back ..); (k_here; first | refine Back.next (by with_reducible assumption) ?_ | refine Back.other (by with_reducible assumption) (fun h => Flow.noConfusion h) ?_)) | walk1 | (dsimp only; walk1) | (leave1; (try dsimp only)))
    · rename (_ == _) = true => hb
      rename Fr _ _ _ _ => F3; rename News _ _ _ _ => N3
      refine app_yes (c := c) F3 N3 (by kcj_all) (hoff _ (.tail _ (.head _))).symm hyn hyes (hK.len hn).1 fun h' F4 N4 => ?_
      clear F3 N3
      simp only [twoLed] at N4
      repeat' (first | (k_unfold; (try dsimp only)) | (k_end; kc_close) | ((with_reducible show wpAny _ _ (exec (Stmt.For (Expr.Name ..) (Expr.Name ..) (_ :: _) [] ..) _) _ _ _); with_reducible (k_here; k_dflt (refine for_hold (by k_asm) (by rfl) (by rfl) ?_ (by intro _; rfl) (by passes_own)); refine Hold.mk ?_)) | ((with_reducible show StarOf ..); with_reducible (k_here; (with_reducible rename StrsAre _ (flat2 (pairsOf _)) => q9saP); k_dflt (refine' star_seq (by k_asm) (by k_asm) (by k_mem) (by exact rfl) (by exact rfl) (by first | exact .inl rfl | exact .inr rfl) (by exact rfl) (by exact pairs_sz q9saP (by omega)) ?_; k_whole); intro q9h' q9F' q9N'; (try dsimp only [List.nil_append, List.cons_append]))) | ((with_reducible show wpAny _ _ (call (Value.ref _) _ _) _ _ _); with_reducible (k_here; (try simp only [List.append_nil]); (with_reducible show wpAny _ _ (call (Value.ref 202) (Value.str _ _ :: _)) _ _ _); (with_reducible rename StrsAre _ (flat2 (pairsOf _)) => q9saP); k_dflt (refine' c_replace _ _ _ _ (pairs_len q9saP (by omega)) q9saP (pairs_ok _) (by omega) _ _ _ _ _ _ _ _ _ _ _ _ _ _ _ _ _ _ _ _ (by k_asm) (by k_asm) (by k_in) (by k_asm) (by k_asm) (by k_room) (by k_room) ?_); intro q9rv q9h' q9tk' q9nw q9hr q9F'; refine park2 q9rv q9nw ?_; intro q9Kp q9hKp; obtain ⟨q9en, q9tt, q9er⟩ := q9hr; cases q9en; cases q9er; refine q9hKp _ _ ?_; clear q9hKp q9Kp; intro q9N')) | ((with_reducible show wpAny _ _ (call (Value.ref 233) [Value.str _ _]) _ _ _); with_reducible (k_dflt (refine' c_pairs _ _ (by first | with_reducible assumption | omega) _ _ _ _ _ _ _ _ _ _ _ _ _ _ _ _ _ _ _ _ (by k_asm) (by k_asm) (by k_in) (by k_asm) (by k_asm) (by k_room) (by k_room) ?_); intro q9rv q9h' q9tk' q9nw q9hr q9F'; refine park2 q9rv q9nw ?_; intro q9Kp q9hKp; obtain ⟨q9pD, q9pvals, q9er, q9en, q9pS, q9pO⟩ := q9hr; cases q9en; cases q9er; refine q9hKp _ _ ?_; clear q9hKp q9Kp; intro q9N')) | ((with_reducible show wpAny _ _ (execs (_ :: _) _) _ _ _); with_reducible (k_here; k_gentoks)) | ((with_reducible show wpAny _ _ (execs (_ :: _) _) _ _ _); with_reducible (k_here; refine execs_cons_H ?_; intro q9K q9hK q9hK2)) | ((with_reducible show Back ..); (k_here; first | refine Back.next (by with_reducible assumption) ?_ | refine Back.other (by with_reducible assumption) (fun h => Flow.noConfusion h) ?_)) | walk1 | (dsimp only; walk1) | (leave1; (try dsimp only)))
      rename Fr _ _ _ _ => F5; rename News _ _ _ _ => N5
      exact two_end (c := ⟨c.ys ++ [.str row t], c.ky + 1, c.ns, c.kn⟩) F5 N5 (fun q hq => hq) (two_off hoff) (by k_mem) (hK.yes hrow hb) two_map
    · rename (_ == _) = false => hb
      rename Fr _ _ _ _ => F3; rename News _ _ _ _ => N3
      refine app_no (c := c) F3 N3 (by kcj_all) (hoff _ (.head _)).symm hyn hno (hK.len hn).2 fun h' F4 N4 => ?_
      clear F3 N3
      simp only [twoLed] at N4
      repeat' (first | (k_unfold; (try dsimp only)) | (k_end; kc_close) | ((with_reducible show wpAny _ _ (exec (Stmt.For (Expr.Name ..) (Expr.Name ..) (_ :: _) [] ..) _) _ _ _); with_reducible (k_here; k_dflt (refine for_hold (by k_asm) (by rfl) (by rfl) ?_ (by intro _; rfl) (by passes_own)); refine Hold.mk ?_)) | ((with_reducible show StarOf ..); with_reducible (k_here; (with_reducible rename StrsAre _ (flat2 (pairsOf _)) => q9saP); k_dflt (refine' star_seq (by k_asm) (by k_asm) (by k_mem) (by exact rfl) (by exact rfl) (by first | exact .inl rfl | exact .inr rfl) (by exact rfl) (by exact pairs_sz q9saP (by omega)) ?_; k_whole); intro q9h' q9F' q9N'; (try dsimp only [List.nil_append, List.cons_append]))) | ((with_reducible show wpAny _ _ (call (Value.ref _) _ _) _ _ _); with_reducible (k_here; (try simp only [List.append_nil]); (with_reducible show wpAny _ _ (call (Value.ref 202) (Value.str _ _ :: _)) _ _ _); (with_reducible rename StrsAre _ (flat2 (pairsOf _)) => q9saP); k_dflt (refine' c_replace _ _ _ _ (pairs_len q9saP (by omega)) q9saP (pairs_ok _) (by omega) _ _ _ _ _ _ _ _ _ _ _ _ _ _ _ _ _ _ _ _ (by k_asm) (by k_asm) (by k_in) (by k_asm) (by k_asm) (by k_room) (by k_room) ?_); intro q9rv q9h' q9tk' q9nw q9hr q9F'; refine park2 q9rv q9nw ?_; intro q9Kp q9hKp; obtain ⟨q9en, q9tt, q9er⟩ := q9hr; cases q9en; cases q9er; refine q9hKp _ _ ?_; clear q9hKp q9Kp; intro q9N')) | ((with_reducible show wpAny _ _ (call (Value.ref 233) [Value.str _ _]) _ _ _); with_reducible (k_dflt (refine' c_pairs _ _ (by first | with_reducible assumption | omega) _ _ _ _ _ _ _ _ _ _ _ _ _ _ _ _ _ _ _ _ (by k_asm) (by k_asm) (by k_in) (by k_asm) (by k_asm) (by k_room) (by k_room) ?_); intro q9rv q9h' q9tk' q9nw q9hr q9F'; refine park2 q9rv q9nw ?_; intro q9Kp q9hKp; obtain ⟨q9pD, q9pvals, q9er, q9en, q9pS, q9pO⟩ := q9hr; cases q9en; cases q9er; refine q9hKp _ _ ?_; clear q9hKp q9Kp; intro q9N')) | ((with_reducible show wpAny _ _ (execs (_ :: _) _) _ _ _); with_reducible (k_here; k_gentoks)) | ((with_reducible show wpAny _ _ (execs (_ :: _) _) _ _ _); with_reducible (k_here; refine execs_cons_H ?_; intro q9K q9hK q9hK2)) | ((with_reducible show Back ..); (k_here; first | refine Back.next (by with_reducible assumption) ?_ | refine Back.other (by with_reducible assumption) (fun h => Flow.noConfusion h) ?_)) | walk1 | (dsimp only; walk1) | (leave1; (try dsimp only)))
      rename Fr _ _ _ _ => F5; rename News _ _ _ _ => N5
      exact two_end (c := ⟨c.ys, c.ky, c.ns ++ [.str row t], c.kn + 1⟩) F5 N5 (fun q hq => hq) (two_off hoff) (by k_mem) (hK.no hrow hb) two_map
  case done =>
    intro c u h tk' hy hn' F2 N2
    simp only [twoLed] at N2
    clear F1 N1
    repeat' (first | (k_unfold; (try dsimp only)) | (k_end; kc_close) | ((with_reducible show wpAny _ _ (exec (Stmt.For (Expr.Name ..) (Expr.Name ..) (_ :: _) [] ..) _) _ _ _); with_reducible (k_here; k_dflt (refine for_hold (by k_asm) (by rfl) (by rfl) ?_ (by intro _; rfl) (by passes_own)); refine Hold.mk ?_)) | ((with_reducible show StarOf ..); with_reducible (k_here; (with_reducible rename StrsAre _ (flat2 (pairsOf _)) => q9saP); k_dflt (refine' star_seq (by k_asm) (by k_asm) (by k_mem) (by exact rfl) (by exact rfl) (by first | exact .inl rfl | exact .inr rfl) (by exact rfl) (by exact pairs_sz q9saP (by omega)) ?_; k_whole); intro q9h' q9F' q9N'; (try dsimp only [List.nil_append, List.cons_append]))) | ((with_reducible show wpAny _ _ (call (Value.ref _) _ _) _ _ _); with_reducible (k_here; (try simp only [List.append_nil]); (with_reducible show wpAny _ _ (call (Value.ref 202) (Value.str _ _ :: _)) _ _ _); (with_reducible rename StrsAre _ (flat2 (pairsOf _)) => q9saP); k_dflt (refine' c_replace _ _ _ _ (pairs_len q9saP (by omega)) q9saP (pairs_ok _) (by omega) _ _ _ _ _ _ _ _ _ _ _ _ _ _ _ _ _ _ _ _ (by k_asm) (by k_asm) (by k_in) (by k_asm) (by k_asm) (by k_room) (by k_room) ?_); intro q9rv q9h' q9tk' q9nw q9hr q9F'; refine park2 q9rv q9nw ?_; intro q9Kp q9hKp; obtain ⟨q9en, q9tt, q9er⟩ := q9hr; cases q9en; cases q9er; refine q9hKp _ _ ?_; clear q9hKp q9Kp; intro q9N')) | ((with_reducible show wpAny _ _ (call (Value.ref 233) [Value.str _ _]) _ _ _); with_reducible (k_dflt (refine' c_pairs _ _ (by first | with_reducible assumption | omega) _ _ _ _ _ _ _ _ _ _ _ _ _ _ _ _ _ _ _ _ (by k_asm) (by k_asm) (by k_in) (by k_asm) (by k_asm) (by k_room) (by k_room) ?_); intro q9rv q9h' q9tk' q9nw q9hr q9F'; refine park2 q9rv q9nw ?_; intro q9Kp q9hKp; obtain ⟨q9pD, q9pvals, q9er, q9en, q9pS, q9pO⟩ := q9hr; cases q9en; cases q9er; refine q9hKp _ _ ?_; clear q9hKp q9Kp; intro q9N')) | ((with_reducible show wpAny _ _ (execs (_ :: _) _) _ _ _); with_reducible (k_here; k_gentoks)) | ((with_reducible show wpAny _ _ (execs (_ :: _) _) _ _ _); with_reducible (k_here; refine execs_cons_H ?_; intro q9K q9hK q9hK2)) | ((with_reducible show Back ..); (k_here; first | refine Back.next (by with_reducible assumption) ?_ | refine Back.other (by with_reducible assumption) (fun h => Flow.noConfusion h) ?_)) | walk1 | (dsimp only; walk1) | (leave1; (try dsimp only)))
    rename Fr h₀ L _ m => kF; rename News h₀ L _ _ => kN
    rename _ ∧ _ ∧ _ ∧ _ ∧ AllLt _ rest => hlc
    have kN2 := part_drop kN
    exact hret _ _ _ _ ⟨_, _, _, _, _, _, _, _, _, _, _, rfl, rfl, hy, hn', by assumption, by assumption, allLt_mem hlc.2.2.2.2⟩ kF kN2
end Mine
end
section
open PySem PySem.W PySem.Calls PyProof.Rows
set_option Elab.async false
set_option maxRecDepth 100000
set_option maxHeartbeats 8000000
namespace Mine
theorem anew_CPartH : True := by
  w_top off
  exact True.intro
local macro_rules | `(tactic| k_all) => `(tactic| first | with_reducible assumption | exact lt_neP (by with_reducible assumption))
theorem part_dropH {h₀ h : Heap} {L : Addr} {d n y f k1 k2 r c t : Addr × Obj} {rest : List (Addr × Obj)} (N : News h₀ L h (d :: n :: y :: f :: k1 :: k2 :: r :: c :: t :: rest)) : News h₀ L h (d :: n :: y :: r :: c :: t :: rest) :=
  cb_drop N fun q hq => by
    simp only [List.mem_cons] at hq ⊢
    rcases hq with h | h | h | h | h | h | h <;> simp [h]
theorem c_partedH {w : World} {p : Program} {loose : List Str} {mean : ExcName → Option Value} {mg mb : Str → Option Value} {rest : List (Addr × Obj)} (R : Addr) (vs : List Value) (kR : Nat) (rows : List Str) (line bare : Str) (tl tb : Tok) (hR : StrsAre vs rows) (hn : rows.length ≤ 40) (hl : ∀ r ∈ rows, r.length ≤ 4) (hline : line.length ≤ 1000)
    (cc : Addr) (oc : Obj) (vs0 : Array Value) (t0 : Tok) (hod : oc.data = .fields vs0) (hov : vs0[1]? = some (.str lamQ t0)) :
   CtP w p loose mean mg mb 247 [.ref R, .str line tl, .str bare tb] 20 90 ((R, { cls := .type "list", data := .seq vs.toArray kR }) :: (cc, oc) :: (242, tabObj #[rawInt 152, rawInt 29, .ref cc]) :: rest)
     (fun r n' => ∃ D no yes ys ns ky kn, r = .ref D ∧ n' = (D, tupObj [.ref yes, .ref no]) :: (no, listOf (List.toArray ns) kn) :: (yes, listOf (List.toArray ys) ky) :: (R, { cls := .type "list", data := .seq vs.toArray kR }) :: (cc, oc) :: (242, tabObj #[rawInt 152, rawInt 29, .ref cc]) :: rest ∧
       StrsAre ys (rows.filter fun row => replAll line (pairsOf row) == bare) ∧ StrsAre ns (rows.filter fun row => !(replAll line (pairsOf row) == bare))) := by
  unfold CtP; k_fill
  intro dp un gd cn nm ig ic mr a ccd cl outer A₀ base h₀ L m s Q E B F X N T' hCode hd hu hret
  repeat' (first | (k_unfold; (try dsimp only)) | (k_end; kc_close) | ((with_reducible show wpAny _ _ (exec (Stmt.For (Expr.Name ..) (Expr.Name ..) (_ :: _) [] ..) _) _ _ _); with_reducible (k_here; k_dflt (refine for_hold (by k_asm) (by rfl) (by rfl) ?_ (by intro _; rfl) (by passes_own)); refine Hold.mk ?_)) | ((with_reducible show StarOf ..); with_reducible (k_here; (with_reducible rename StrsAre _ (flat2 (pairsOf _)) => q9saP); k_dflt (refine' star_seq (by k_asm) (by k_asm) (by k_mem) (by exact rfl) (by exact rfl) (by first | exact .inl rfl | exact .inr rfl) (by exact rfl) (by exact pairs_sz q9saP (by omega)) ?_; k_whole); intro q9h' q9F' q9N'; (try dsimp only [List.nil_append, List.cons_append]))) | ((with_reducible show wpAny _ _ (call (Value.ref _) _ _) _ _ _); with_reducible (k_here; (try simp only [List.append_nil]); (with_reducible show wpAny _ _ (call (Value.ref 202) (Value.str _ _ :: _)) _ _ _); (with_reducible rename StrsAre _ (flat2 (pairsOf _)) => q9saP); k_dflt (refine' c_replace _ _ _ _ (pairs_len q9saP (by omega)) q9saP (pairs_ok _) (by omega) _ _ _ _ _ _ _ _ _ _ _ _ _ _ _ _ _ _ _ _ (by k_asm) (by k_asm) (by k_in) (by k_asm) (by k_asm) (by k_room) (by k_room) ?_); intro q9rv q9h' q9tk' q9nw q9hr q9F'; refine park2 q9rv q9nw ?_; intro q9Kp q9hKp; obtain ⟨q9en, q9tt, q9er⟩ := q9hr; cases q9en; cases q9er; refine q9hKp _ _ ?_; clear q9hKp q9Kp; intro q9N')) | ((with_reducible show wpAny _ _ (call (Value.ref 233) [Value.str _ _]) _ _ _); with_reducible (k_dflt (refine' c_pairs _ _ (by first | with_reducible assumption | omega) _ _ _ _ _ _ _ _ _ _ _ _ _ _ _ _ _ _ _ _ (by k_asm) (by k_asm) (by k_in) (by k_asm) (by k_asm) (by k_room) (by k_room) ?_); intro q9rv q9h' q9tk' q9nw q9hr q9F'; refine park2 q9rv q9nw ?_; intro q9Kp q9hKp; obtain ⟨q9pD, q9pvals, q9er, q9en, q9pS, q9pO⟩ := q9hr; cases q9en; cases q9er; refine q9hKp _ _ ?_; clear q9hKp q9Kp; intro q9N')) | ((with_reducible show wpAny _ _ (execs (_ :: _) _) _ _ _); with_reducible (k_here; k_gentoks)) | ((with_reducible show wpAny _ _ (execs (_ :: _) _) _ _ _); with_reducible (k_here; refine execs_cons_H ?_; intro q9K q9hK q9hK2)) | ((with_reducible show Back ..); (k_here; first | refine Back.next (by with_reducible assumption) ?_ | refine Back.other (by with_reducible assumption) (fun h => Flow.noConfusion h) ?_)) | walk1 | (dsimp only; walk1) | (leave1; (try dsimp only)))
  unfold Hold
  refine ld (by assumption) rfl ?_
  rename Fr _ _ _ _ => F1; rename News _ _ _ _ => N1
  rename @LT.lt Nat _ _ _ ∧ _ => hln
  obtain ⟨hyn, hln⟩ := hln
  have hno := tail_lt N1 hln
  clear hln
  rename @LT.lt Nat _ _ _ ∧ _ => hly
  have hyes := tail_lt N1 hly
  refine iter_two (fun row => replAll line (pairsOf row) == bare) hR rfl F1 N1 (by k_mem) ?turn ?done
  case turn =>
    intro i row t c u h tk' I oI hrow hK hoff F2 N2
    have hrl : row.length ≤ 4 := hl row (List.mem_of_getElem? hrow)
    have hrl2 : row.length ≤ 10 := by omega
    simp only [twoLed] at N2
    clear F1 N1
    repeat' (first | (k_unfold; (try dsimp only)) | (k_end; kc_close) | ((with_reducible show wpAny _ _ (exec (Stmt.For (Expr.Name ..) (Expr.Name ..) (_ :: _) [] ..) _) _ _ _); with_reducible (k_here; k_dflt (refine for_hold (by k_asm) (by rfl) (by rfl) ?_ (by intro _; rfl) (by passes_own)); refine Hold.mk ?_)) | ((with_reducible show StarOf ..); with_reducible (k_here; (with_reducible rename StrsAre _ (flat2 (pairsOf _)) => q9saP); k_dflt (refine' star_seq (by k_asm) (by k_asm) (by k_mem) (by exact rfl) (by exact rfl) (by first | exact .inl rfl | exact .inr rfl) (by exact rfl) (by exact pairs_sz q9saP (by omega)) ?_; k_whole); intro q9h' q9F' q9N'; (try dsimp only [List.nil_append, List.cons_append]))) | ((with_reducible show wpAny _ _ (call (Value.ref _) _ _) _ _ _); with_reducible (k_here; (try simp only [List.append_nil]); (with_reducible show wpAny _ _ (call (Value.ref 202) (Value.str _ _ :: _)) _ _ _); (with_reducible rename StrsAre _ (flat2 (pairsOf _)) => q9saP); k_dflt (refine' c_replace _ _ _ _ (pairs_len q9saP (by omega)) q9saP (pairs_ok _) (by omega) _ _ _ _ _ _ _ _ _ _ _ _ _ _ _ _ _ _ _ _ (by k_asm) (by k_asm) (by k_in) (by k_asm) (by k_asm) (by k_room) (by k_room) ?_); intro q9rv q9h' q9tk' q9nw q9hr q9F'; refine park2 q9rv q9nw ?_; intro q9Kp q9hKp; obtain ⟨q9en, q9tt, q9er⟩ := q9hr; cases q9en; cases q9er; refine q9hKp _ _ ?_; clear q9hKp q9Kp; intro q9N')) | ((with_reducible show wpAny _ _ (call (Value.ref 233) [Value.str _ _]) _ _ _); with_reducible (k_dflt (refine' c_pairs _ _ (by first | with_reducible assumption | omega) _ _ _ _ _ _ _ _ _ _ _ _ _ _ _ _ _ _ _ _ (by k_asm) (by k_asm) (by k_in) (by k_asm) (by k_asm) (by k_room) (by k_room) ?_); intro q9rv q9h' q9tk' q9nw q9hr q9F'; refine park2 q9rv q9nw ?_; intro q9Kp q9hKp; obtain ⟨q9pD, q9pvals, q9er, q9en, q9pS, q9pO⟩ := q9hr; cases q9en; cases q9er; refine q9hKp _ _ ?_; clear q9hKp q9Kp; intro q9N')) | ((with_reducible show wpAny _ _ (execs (_ :: _) _) _ _ _); with_reducible (k_here; k_gentoks)) | ((with_reducible show wpAny _ _ (execs (_ :: _) _) _ _ _); with_reducible (k_here; refine execs_cons_H ?_; intro q9K q9hK q9hK2)) | ((with_reducible show Back ..); (k_here; first | refine Back.next (by with_reducible assumption) ?_ | refine Back.other (by with_reducible assumption) (fun h => Flow.noConfusion h) ?_)) | walk1 | (dsimp only; walk1) | (leave1; (try dsimp only)))
    · rename (_ == _) = true => hb
      rename Fr _ _ _ _ => F3; rename News _ _ _ _ => N3
      refine app_yes (c := c) F3 N3 (by kcj_all) (hoff _ (.tail _ (.head _))).symm hyn hyes (hK.len hn).1 fun h' F4 N4 => ?_
      clear F3 N3
      simp only [twoLed] at N4
      repeat' (first | (k_unfold; (try dsimp only)) | (k_end; kc_close) | ((with_reducible show wpAny _ _ (exec (Stmt.For (Expr.Name ..) (Expr.Name ..) (_ :: _) [] ..) _) _ _ _); with_reducible (k_here; k_dflt (refine for_hold (by k_asm) (by rfl) (by rfl) ?_ (by intro _; rfl) (by passes_own)); refine Hold.mk ?_)) | ((with_reducible show StarOf ..); with_reducible (k_here; (with_reducible rename StrsAre _ (flat2 (pairsOf _)) => q9saP); k_dflt (refine' star_seq (by k_asm) (by k_asm) (by k_mem) (by exact rfl) (by exact rfl) (by first | exact .inl rfl | exact .inr rfl) (by exact rfl) (by exact pairs_sz q9saP (by omega)) ?_; k_whole); intro q9h' q9F' q9N'; (try dsimp only [List.nil_append, List.cons_append]))) | ((with_reducible show wpAny _ _ (call (Value.ref _) _ _) _ _ _); with_reducible (k_here; (try simp only [List.append_nil]); (with_reducible show wpAny _ _ (call (Value.ref 202) (Value.str _ _ :: _)) _ _ _); (with_reducible rename StrsAre _ (flat2 (pairsOf _)) => q9saP); k_dflt (refine' c_replace _ _ _ _ (pairs_len q9saP (by omega)) q9saP (pairs_ok _) (by omega) _ _ _ _ _ _ _ _ _ _ _ _ _ _ _ _ _ _ _ _ (by k_asm) (by k_asm) (by k_in) (by k_asm) (by k_asm) (by k_room) (by k_room) ?_); intro q9rv q9h' q9tk' q9nw q9hr q9F'; refine park2 q9rv q9nw ?_; intro q9Kp q9hKp; obtain ⟨q9en, q9tt, q9er⟩ := q9hr; cases q9en; cases q9er; refine q9hKp _ _ ?_; clear q9hKp q9Kp; intro q9N')) | ((with_reducible show wpAny _ _ (call (Value.ref 233) [Value.str _ _]) _ _ _); with_reducible (k_dflt (refine' c_pairs _ _ (by first | with_reducible assumption | omega) _ _ _ _ _ _ _ _ _ _ _ _ _ _ _ _ _ _ _ _ (by k_asm) (by k_asm) (by k_in) (by k_asm) (by k_asm) (by k_room) (by k_room) ?_); intro q9rv q9h' q9tk' q9nw q9hr q9F'; refine park2 q9rv q9nw ?_; intro q9Kp q9hKp; obtain ⟨q9pD, q9pvals, q9er, q9en, q9pS, q9pO⟩ := q9hr; cases q9en; cases q9er; refine q9hKp _ _ ?_; clear q9hKp q9Kp; intro q9N')) | ((with_reducible show wpAny _ _ (execs (_ :: _) _) _ _ _); with_reducible (k_here; k_gentoks)) | ((with_reducible show wpAny _ _ (execs (_ :: _) _) _ _ _); with_reducible (k_here; refine execs_cons_H ?_; intro q9K q9hK q9hK2)) | ((with_reducible show Back ..); (k_here; first | refine Back.next (by with_reducible assumption) ?_ | refine Back.other (by with_reducible assumption) (fun h => Flow.noConfusion h) ?_)) | walk1 | (dsimp only; walk1) | (leave1; (try dsimp only)))
      rename Fr _ _ _ _ => F5; rename News _ _ _ _ => N5
      exact two_end (c := ⟨c.ys ++ [.str row t], c.ky + 1, c.ns, c.kn⟩) F5 N5 (fun q hq => hq) (two_off hoff) (by k_mem) (hK.yes hrow hb) two_map
    · rename (_ == _) = false => hb
      rename Fr _ _ _ _ => F3; rename News _ _ _ _ => N3
      refine app_no (c := c) F3 N3 (by kcj_all) (hoff _ (.head _)).symm hyn hno (hK.len hn).2 fun h' F4 N4 => ?_
      clear F3 N3
      simp only [twoLed] at N4
      repeat' (first | (k_unfold; (try dsimp only)) | (k_end; kc_close) | ((with_reducible show wpAny _ _ (exec (Stmt.For (Expr.Name ..) (Expr.Name ..) (_ :: _) [] ..) _) _ _ _); with_reducible (k_here; k_dflt (refine for_hold (by k_asm) (by rfl) (by rfl) ?_ (by intro _; rfl) (by passes_own)); refine Hold.mk ?_)) | ((with_reducible show StarOf ..); with_reducible (k_here; (with_reducible rename StrsAre _ (flat2 (pairsOf _)) => q9saP); k_dflt (refine' star_seq (by k_asm) (by k_asm) (by k_mem) (by exact rfl) (by exact rfl) (by first | exact .inl rfl | exact .inr rfl) (by exact rfl) (by exact pairs_sz q9saP (by omega)) ?_; k_whole); intro q9h' q9F' q9N'; (try dsimp only [List.nil_append, List.cons_append]))) | ((with_reducible show wpAny _ _ (call (Value.ref _) _ _) _ _ _); with_reducible (k_here; (try simp only [List.append_nil]); (with_reducible show wpAny _ _ (call (Value.ref 202) (Value.str _ _ :: _)) _ _ _); (with_reducible rename StrsAre _ (flat2 (pairsOf _)) => q9saP); k_dflt (refine' c_replace _ _ _ _ (pairs_len q9saP (by omega)) q9saP (pairs_ok _) (by omega) _ _ _ _ _ _ _ _ _ _ _ _ _ _ _ _ _ _ _ _ (by k_asm) (by k_asm) (by k_in) (by k_asm) (by k_asm) (by k_room) (by k_room) ?_); intro q9rv q9h' q9tk' q9nw q9hr q9F'; refine park2 q9rv q9nw ?_; intro q9Kp q9hKp; obtain ⟨q9en, q9tt, q9er⟩ := q9hr; cases q9en; cases q9er; refine q9hKp _ _ ?_; clear q9hKp q9Kp; intro q9N')) | ((with_reducible show wpAny _ _ (call (Value.ref 233) [Value.str _ _]) _ _ _); with_reducible (k_dflt (refine' c_pairs _ _ (by first | with_reducible assumption | omega) _ _ _ _ _ _ _ _ _ _ _ _ _ _ _ _ _ _ _ _ (by k_asm) (by k_asm) (by k_in) (by k_asm) (by k_asm) (by k_room) (by k_room) ?_); intro q9rv q9h' q9tk' q9nw q9hr q9F'; refine park2 q9rv q9nw ?_; intro q9Kp q9hKp; obtain ⟨q9pD, q9pvals, q9er, q9en, q9pS, q9pO⟩ := q9hr; cases q9en; cases q9er; refine q9hKp _ _ ?_; clear q9hKp q9Kp; intro q9N')) | ((with_reducible show wpAny _ _ (execs (_ :: _) _) _ _ _); with_reducible (k_here; k_gentoks)) | ((with_reducible show wpAny _ _ (execs (_ :: _) _) _ _ _); with_reducible (k_here; refine execs_cons_H ?_; intro q9K q9hK q9hK2)) | ((with_reducible show Back ..); (k_here; first | refine Back.next (by with_reducible assumption) ?_ | refine Back.other (by with_reducible assumption) (fun h => Flow.noConfusion h) ?_)) | walk1 | (dsimp only; walk1) | (leave1; (try dsimp only)))
      rename Fr _ _ _ _ => F5; rename News _ _ _ _ => N5
      exact two_end (c := ⟨c.ys, c.ky, c.ns ++ [.str row t], c.kn + 1⟩) F5 N5 (fun q hq => hq) (two_off hoff) (by k_mem) (hK.no hrow hb) two_map
  case done =>
    intro c u h tk' hy hn' F2 N2
    simp only [twoLed] at N2
    clear F1 N1
    repeat' (first | (k_unfold; (try dsimp only)) | (k_end; kc_close) | ((with_reducible show wpAny _ _ (exec (Stmt.For (Expr.Name ..) (Expr.Name ..) (_ :: _) [] ..) _) _ _ _); with_reducible (k_here; k_dflt (refine for_hold (by k_asm) (by rfl) (by rfl) ?_ (by intro _; rfl) (by passes_own)); refine Hold.mk ?_)) | ((with_reducible show StarOf ..); with_reducible (k_here; (with_reducible rename StrsAre _ (flat2 (pairsOf _)) => q9saP); k_dflt (refine' star_seq (by k_asm) (by k_asm) (by k_mem) (by exact rfl) (by exact rfl) (by first | exact .inl rfl | exact .inr rfl) (by exact rfl) (by exact pairs_sz q9saP (by omega)) ?_; k_whole); intro q9h' q9F' q9N'; (try dsimp only [List.nil_append, List.cons_append]))) | ((with_reducible show wpAny _ _ (call (Value.ref _) _ _) _ _ _); with_reducible (k_here; (try simp only [List.append_nil]); (with_reducible show wpAny _ _ (call (Value.ref 202) (Value.str _ _ :: _)) _ _ _); (with_reducible rename StrsAre _ (flat2 (pairsOf _)) => q9saP); k_dflt (refine' c_replace _ _ _ _ (pairs_len q9saP (by omega)) q9saP (pairs_ok _) (by omega) _ _ _ _ _ _ _ _ _ _ _ _ _ _ _ _ _ _ _ _ (by k_asm) (by k_asm) (by k_in) (by k_asm) (by k_asm) (by k_room) (by k_room) ?_); intro q9rv q9h' q9tk' q9nw q9hr q9F'; refine park2 q9rv q9nw ?_; intro q9Kp q9hKp; obtain ⟨q9en, q9tt, q9er⟩ := q9hr; cases q9en; cases q9er; refine q9hKp _ _ ?_; clear q9hKp q9Kp; intro q9N')) | ((with_reducible show wpAny _ _ (call (Value.ref 233) [Value.str _ _]) _ _ _); with_reducible (k_dflt (refine' c_pairs _ _ (by first | with_reducible assumption | omega) _ _ _ _ _ _ _ _ _ _ _ _ _ _ _ _ _ _ _ _ (by k_asm) (by k_asm) (by k_in) (by k_asm) (by k_asm) (by k_room) (by k_room) ?_); intro q9rv q9h' q9tk' q9nw q9hr q9F'; refine park2 q9rv q9nw ?_; intro q9Kp q9hKp; obtain ⟨q9pD, q9pvals, q9er, q9en, q9pS, q9pO⟩ := q9hr; cases q9en; cases q9er; refine q9hKp _ _ ?_; clear q9hKp q9Kp; intro q9N')) | ((with_reducible show wpAny _ _ (execs (_ :: _) _) _ _ _); with_reducible (k_here; k_gentoks)) | ((with_reducible show wpAny _ _ (execs (_ :: _) _) _ _ _); with_reducible (k_here; refine execs_cons_H ?_; intro q9K q9hK q9hK2)) | ((with_reducible show Back ..); (k_here; first | refine Back.next (by with_reducible assumption) ?_ | refine Back.other (by with_reducible assumption) (fun h => Flow.noConfusion h) ?_)) | walk1 | (dsimp only; walk1) | (leave1; (try dsimp only)))
    rename Fr h₀ L _ m => kF; rename News h₀ L _ _ => kN
    have kN2 := part_dropH kN
    exact hret _ _ _ _ ⟨_, _, _, _, _, _, _, rfl, rfl, hy, hn'⟩ kF kN2
end Mine
end
section
open PySem PySem.W PySem.Calls PyProof.Rows
set_option Elab.async false
set_option maxRecDepth 100000
set_option maxHeartbeats 8000000
namespace Mine
theorem anew_CPage : True := by
  w_top off
  exact True.intro
theorem ne_lt1 {a b : Nat} (h : a < b) : @Ne Addr a b := Nat.ne_of_lt h
theorem all_ne1 {rest : List (Addr × Obj)} {a b : Addr} (h : ∀ q ∈ rest, q.1 < a) (h2 : @LT.lt Nat _ a b) : ∀ q ∈ rest, q.1 ≠ b := fun q hq => Nat.ne_of_lt (Nat.lt_trans (h q hq) h2)
theorem news_rotT {h₀ h : Heap} {L : Addr} {t a b c : Addr × Obj} {r : List (Addr × Obj)} (N : News h₀ L h (t :: a :: b :: c :: r)) : News h₀ L h (a :: b :: c :: t :: r) :=
  cb_drop N fun q hq => by
    simp only [List.mem_cons] at hq ⊢
    rcases hq with h | h | h | h | h
    · exact .inr (.inl h)
    · exact .inr (.inr (.inl h))
    · exact .inr (.inr (.inr (.inl h)))
    · exact .inl h
    · exact .inr (.inr (.inr (.inr h)))
theorem my_add {prog : Program} {w : World} {A : Around} {E : Value → Shared → Prop} {s : Shared} {a b : Str} {t u : Tok} {Q : Value → Shared → Prop} (ha : a.length ≤ 100000) (hb : b.length ≤ 100000)
    (h : ∀ t' k, (a ++ b).length = a.length + b.length → Q (.str (a ++ b) t') { s with toks := k }) : wpAny (model prog w) A (binaryOp .Add (.str a t) (.str b u)) Q E s :=
  KXadd.add ha hb (Nat.le_of_ble_eq_true rfl) fun t' k _ => h t' k (app_len a b)
noncomputable def TX : Nat → Str → Str
  | 0, v => v
  | i + 1, v => fmtF (Str.ofString "k-1") (TX i v)
noncomputable def PG : Nat → Str → Str
  | 0, _ => Str.ofString ""
  | i + 1, v => PG i v ++ strF [pairF (Str.ofString "Nest") (TX (i + 1) v)]
noncomputable abbrev pgM (p : Str) (tp : Tok) (x : Str) (tt : Tok) (M : Str → Option Value) : Str → Option Value :=
  fun y => if y = Str.ofString "page" then some (.str p tp) else if y = Str.ofString "text" then some (.str x tt) else M y
theorem fr_pg {h₀ h : Heap} {L : Addr} {p : Option Value} {x : Value} {lk : Str → Option Value} (F : Fr h₀ L h (fun y => if y = Str.ofString "page" then p else lk y)) (e : lk (Str.ofString "text") = some x) : Fr h₀ L h (fun y => if y = Str.ofString "page" then p else if y = Str.ofString "text" then some x else lk y) := by
  have : (fun y => if y = Str.ofString "page" then p else if y = Str.ofString "text" then some x else lk y) = fun y => if y = Str.ofString "page" then p else lk y := by
    funext y
    by_cases h : y = Str.ofString "text"
    · rw [if_pos h, h, e]
    · rw [if_neg h]
  rwa [this]
theorem c_page {w : World} {p : Program} {loose : List Str} {mean : ExcName → Option Value} {mg mb : Str → Option Value} {rest : List (Addr × Obj)} (n : Nat) (hn : n = 2 ∨ n = 3) (v : Str) (tv td : Tok) (hgn : goodN (Str.ofString "nest")) (hgN : goodN (Str.ofString "Nest")) (hk1 : goodN (Str.ofString "k_1"))
    (hP : ∀ i, i < n → (TX i v).length ≤ 300 ∧ (TX i v).length ≠ 0 ∧ goodV (TX i v) ∧ (TX (i + 1) v).length ≤ 300) :
   Ct w p loose mean mg mb 228 [.str v tv, .int (n : Int) td] 20 90 rest (fun r n' => ∃ t, r = .str (PG n v) t ∧ n' = rest) := by
  unfold Ct; k_fill
  intro dp un gd cn nm ig ic mr a ccd cl outer A₀ base h₀ L m s Q E B F X N T' hd hu hret
  have hNl : (Str.ofString "Nest").length ≤ 10 := by decide +kernel
  repeat' (first | (k_unfold; (try dsimp only)) | (k_end; kc_close) | ((with_reducible show wpAny _ _ (exec (Stmt.For (Expr.Name ..) (Expr.Call ..) (_ :: _) [] ..) _) _ _ _); with_reducible (k_here; k_dflt (refine for_held (by intro _; rfl) ?_))) | ((with_reducible show wpAny _ _ (binaryOp Operator.Add (Value.str _ _) (Value.str _ _)) _ _ _); with_reducible (k_dflt (refine' my_add (by first | omega | decide +kernel) (by first | omega | decide +kernel) ?_); intro _ _ _)) | ((with_reducible show wpAny _ _ (call (Value.ref 160) [Value.ref _]) _ _ _); with_reducible (k_dflt (refine' c_str _ _ _ _ _ _ _ _ _ ?_ ?_ _ _ _ _ _ _ _ _ _ _ _ _ _ _ _ _ _ _ _ _ (by k_asm) (by k_asm) (by k_in) (by k_asm) (by k_asm) (by k_room) (by k_room) ?_; (try any_goals ((fail_if_success with_reducible show wpAny _ _ _ _ _ _); simp only [List.length_cons, List.length_nil]; omega)); (try any_goals ((fail_if_success with_reducible show wpAny _ _ _ _ _ _); refine .cons (.head _) ?_ ?_ .nil; (first | decide +kernel | omega); omega))); intro q9rv q9h' q9tk' q9nw q9hr q9F'; refine park2 q9rv q9nw ?_; intro q9Kp q9hKp; obtain ⟨q9tt, q9er, q9el, q9en⟩ := q9hr; cases q9en; cases q9er; refine q9hKp _ _ ?_; clear q9hKp q9Kp; intro q9N')) | ((with_reducible show wpAny _ _ (call (Value.ref 109) [Value.ref _, Value.str _ _]) _ _ _); with_reducible (k_dflt (refine' c_get _ _ _ _ _ _ _ _ _ _ _ _ _ ?_ (by with_reducible assumption) _ _ _ _ _ _ _ _ _ _ _ _ _ _ _ _ _ _ _ _ (by k_asm) (by k_asm) (by k_in) (by k_asm) (by k_asm) (by k_room) (by k_room) ?_; (try any_goals ((fail_if_success with_reducible show wpAny _ _ _ _ _ _); first | with_reducible assumption | exact Nat.zero_le _ | (simp only [List.length_cons, List.length_nil]; omega)))); intro q9rv q9h' q9tk' q9nw q9hr q9F'; refine park2 q9rv q9nw ?_; intro q9Kp q9hKp; obtain ⟨q9er, q9en⟩ := q9hr; cases q9en; cases q9er; refine q9hKp _ _ ?_; clear q9hKp q9Kp; intro q9N')) | ((with_reducible show wpAny _ _ (call (Value.ref 181) [Value.ref _, Value.str _ _, Value.none] _) _ _ _); with_reducible (k_dflt (refine' c_add1 _ _ _ _ _ _ _ _ _ _ _ _ 0 (by with_reducible assumption) (by with_reducible assumption) (by with_reducible assumption) ?_ (by first | with_reducible assumption | omega) (by first | with_reducible assumption | omega) (by with_reducible assumption) (by first | with_reducible assumption | omega) (by with_reducible assumption) (by with_reducible assumption) _ _ _ _ _ _ _ _ _ _ _ _ _ _ _ _ _ _ _ _ (by k_asm) (by k_asm) (by k_in) (by k_asm) (by k_asm) (by k_room) (by k_room) ?_; (try any_goals ((fail_if_success with_reducible show wpAny _ _ _ _ _ _); first | exact Nat.zero_le _ | with_reducible assumption | omega))); intro q9rv q9h' q9tk' q9nw q9hr q9F'; refine park2 q9rv q9nw ?_; intro q9Kp q9hKp; obtain ⟨q9TT, q9tt, q9er, q9en, q9ho⟩ := q9hr; cases q9en; cases q9er; refine q9hKp _ _ ?_; clear q9hKp q9Kp; intro q9N'; (replace q9N' := news_rotT q9N'); (try simp only [List.nil_append, List.cons_append] at q9N'))) | ((with_reducible show wpAny _ _ (call (Value.ref 184) ([] ++ [])) _ _ _); with_reducible (k_dflt (refine' c_headers _ _ _ _ _ _ _ _ _ _ _ _ _ _ _ _ _ _ _ _ (by k_asm) (by k_asm) (by k_in) (by k_asm) (by k_asm) (by k_room) (by k_room) ?_); intro q9rv q9h' q9tk' q9nw q9hr q9F'; refine park2 q9rv q9nw ?_; intro q9Kp q9hKp; obtain ⟨q9hx, q9hd, q9hl, q9hhs, q9htk, q9hk, q9er, q9en, q9o1, q9o2, q9o3⟩ := q9hr; cases q9en; cases q9er; refine q9hKp _ _ ?_; clear q9hKp q9Kp; intro q9N'; (have q9ox := ne_lt1 q9o2); (have q9od := ne_lt1 (Nat.lt_trans q9o1 q9o2)); (have q9oq := all_ne1 q9o3 (Nat.lt_trans q9o1 q9o2)))) | ((with_reducible show wpAny _ _ (call (Value.type "str") [Value.ref _]) _ _ _); with_reducible (k_dflt (refine' kso_call (by k_room) (by k_in) (by k_inst) (by k_is) (by k_is) ?_; k_whole))) | ((with_reducible show wpAny _ _ (execs (_ :: _) _) _ _ _); with_reducible (k_here; k_gentoks)) | ((with_reducible show wpAny _ _ (execs (_ :: _) _) _ _ _); with_reducible (k_here; refine execs_cons_H ?_; intro q9K q9hK q9hK2)) | ((with_reducible show Back ..); (k_here; first | refine Back.next (by with_reducible assumption) ?_ | refine Back.other (by with_reducible assumption) (fun h => Flow.noConfusion h) ?_)) | ((with_reducible show StrBack ..); with_reducible (k_here; unfold StrBack; (try dsimp only))) | walk1 | (dsimp only; walk1) | (leave1; (try dsimp only)))
  rename IsRange _ _ _ _ _ _ _ _ => hRg
  rename Fr _ _ _ _ => F2; rename News _ _ _ _ => N2
  refine for_cell (fun i m news => (∃ M tp tt, m = pgM (PG i v) tp (TX i v) tt M) ∧ news = rest ∧ (PG i v).length ≤ i * 5000) rfl (by passes_own) hRg ?sm (n := n) ?rg (fr_pg F2 rfl) (cb_drop N2 ?nn) ⟨⟨_, _, _, rfl⟩, rfl, ?z0⟩ ?turn ?done
  case sm => rcases hn with rfl | rfl <;> decide
  case rg => rcases hn with rfl | rfl <;> decide
  case nn => exact fun q hq => by repeat (first | exact hq | apply List.mem_cons_of_mem)
  case z0 => exact (by decide +kernel : (Str.ofString "").length ≤ 0 * 5000)
  case done =>
    clear F2 N2
    rintro m₁ news₁ h tk ⟨⟨M, tp, tt, rfl⟩, rfl, hpl⟩ F3 N3
    dsimp only
    repeat' (first | (k_unfold; (try dsimp only)) | (k_end; kc_close) | ((with_reducible show wpAny _ _ (exec (Stmt.For (Expr.Name ..) (Expr.Call ..) (_ :: _) [] ..) _) _ _ _); with_reducible (k_here; k_dflt (refine for_held (by intro _; rfl) ?_))) | ((with_reducible show wpAny _ _ (binaryOp Operator.Add (Value.str _ _) (Value.str _ _)) _ _ _); with_reducible (k_dflt (refine' my_add (by first | omega | decide +kernel) (by first | omega | decide +kernel) ?_); intro _ _ _)) | ((with_reducible show wpAny _ _ (call (Value.ref 160) [Value.ref _]) _ _ _); with_reducible (k_dflt (refine' c_str _ _ _ _ _ _ _ _ _ ?_ ?_ _ _ _ _ _ _ _ _ _ _ _ _ _ _ _ _ _ _ _ _ (by k_asm) (by k_asm) (by k_in) (by k_asm) (by k_asm) (by k_room) (by k_room) ?_; (try any_goals ((fail_if_success with_reducible show wpAny _ _ _ _ _ _); simp only [List.length_cons, List.length_nil]; omega)); (try any_goals ((fail_if_success with_reducible show wpAny _ _ _ _ _ _); refine .cons (.head _) ?_ ?_ .nil; (first | decide +kernel | omega); omega))); intro q9rv q9h' q9tk' q9nw q9hr q9F'; refine park2 q9rv q9nw ?_; intro q9Kp q9hKp; obtain ⟨q9tt, q9er, q9el, q9en⟩ := q9hr; cases q9en; cases q9er; refine q9hKp _ _ ?_; clear q9hKp q9Kp; intro q9N')) | ((with_reducible show wpAny _ _ (call (Value.ref 109) [Value.ref _, Value.str _ _]) _ _ _); with_reducible (k_dflt (refine' c_get _ _ _ _ _ _ _ _ _ _ _ _ _ ?_ (by with_reducible assumption) _ _ _ _ _ _ _ _ _ _ _ _ _ _ _ _ _ _ _ _ (by k_asm) (by k_asm) (by k_in) (by k_asm) (by k_asm) (by k_room) (by k_room) ?_; (try any_goals ((fail_if_success with_reducible show wpAny _ _ _ _ _ _); first | with_reducible assumption | exact Nat.zero_le _ | (simp only [List.length_cons, List.length_nil]; omega)))); intro q9rv q9h' q9tk' q9nw q9hr q9F'; refine park2 q9rv q9nw ?_; intro q9Kp q9hKp; obtain ⟨q9er, q9en⟩ := q9hr; cases q9en; cases q9er; refine q9hKp _ _ ?_; clear q9hKp q9Kp; intro q9N')) | ((with_reducible show wpAny _ _ (call (Value.ref 181) [Value.ref _, Value.str _ _, Value.none] _) _ _ _); with_reducible (k_dflt (refine' c_add1 _ _ _ _ _ _ _ _ _ _ _ _ 0 (by with_reducible assumption) (by with_reducible assumption) (by with_reducible assumption) ?_ (by first | with_reducible assumption | omega) (by first | with_reducible assumption | omega) (by with_reducible assumption) (by first | with_reducible assumption | omega) (by with_reducible assumption) (by with_reducible assumption) _ _ _ _ _ _ _ _ _ _ _ _ _ _ _ _ _ _ _ _ (by k_asm) (by k_asm) (by k_in) (by k_asm) (by k_asm) (by k_room) (by k_room) ?_; (try any_goals ((fail_if_success with_reducible show wpAny _ _ _ _ _ _); first | exact Nat.zero_le _ | with_reducible assumption | omega))); intro q9rv q9h' q9tk' q9nw q9hr q9F'; refine park2 q9rv q9nw ?_; intro q9Kp q9hKp; obtain ⟨q9TT, q9tt, q9er, q9en, q9ho⟩ := q9hr; cases q9en; cases q9er; refine q9hKp _ _ ?_; clear q9hKp q9Kp; intro q9N'; (replace q9N' := news_rotT q9N'); (try simp only [List.nil_append, List.cons_append] at q9N'))) | ((with_reducible show wpAny _ _ (call (Value.ref 184) ([] ++ [])) _ _ _); with_reducible (k_dflt (refine' c_headers _ _ _ _ _ _ _ _ _ _ _ _ _ _ _ _ _ _ _ _ (by k_asm) (by k_asm) (by k_in) (by k_asm) (by k_asm) (by k_room) (by k_room) ?_); intro q9rv q9h' q9tk' q9nw q9hr q9F'; refine park2 q9rv q9nw ?_; intro q9Kp q9hKp; obtain ⟨q9hx, q9hd, q9hl, q9hhs, q9htk, q9hk, q9er, q9en, q9o1, q9o2, q9o3⟩ := q9hr; cases q9en; cases q9er; refine q9hKp _ _ ?_; clear q9hKp q9Kp; intro q9N'; (have q9ox := ne_lt1 q9o2); (have q9od := ne_lt1 (Nat.lt_trans q9o1 q9o2)); (have q9oq := all_ne1 q9o3 (Nat.lt_trans q9o1 q9o2)))) | ((with_reducible show wpAny _ _ (call (Value.type "str") [Value.ref _]) _ _ _); with_reducible (k_dflt (refine' kso_call (by k_room) (by k_in) (by k_inst) (by k_is) (by k_is) ?_; k_whole))) | ((with_reducible show wpAny _ _ (execs (_ :: _) _) _ _ _); with_reducible (k_here; k_gentoks)) | ((with_reducible show wpAny _ _ (execs (_ :: _) _) _ _ _); with_reducible (k_here; refine execs_cons_H ?_; intro q9K q9hK q9hK2)) | ((with_reducible show Back ..); (k_here; first | refine Back.next (by with_reducible assumption) ?_ | refine Back.other (by with_reducible assumption) (fun h => Flow.noConfusion h) ?_)) | ((with_reducible show StrBack ..); with_reducible (k_here; unfold StrBack; (try dsimp only))) | walk1 | (dsimp only; walk1) | (leave1; (try dsimp only)))
    rename Fr h₀ L _ m => kF; rename News h₀ L _ _ => kN
    exact hret _ _ _ _ ⟨_, rfl, rfl⟩ kF (cb_drop kN fun q hq => by repeat (first | exact hq | apply List.mem_cons_of_mem))
  case turn =>
    clear F2 N2
    rintro i m₁ news₁ h tk tl I oI hi ⟨⟨M, tp, tt, rfl⟩, rfl, hpl⟩ off F3 N3
    obtain ⟨q1, q2, q3, q4⟩ := hP i hi
    replace q4 : (fmtF (Str.ofString "k-1") (TX i v)).length ≤ 300 := q4
    have hpl2 : (PG i v).length ≤ 100000 := by rcases hn with rfl | rfl <;> omega
    repeat' (first | (k_unfold; (try dsimp only)) | (k_end; kc_close) | ((with_reducible show wpAny _ _ (exec (Stmt.For (Expr.Name ..) (Expr.Call ..) (_ :: _) [] ..) _) _ _ _); with_reducible (k_here; k_dflt (refine for_held (by intro _; rfl) ?_))) | ((with_reducible show wpAny _ _ (binaryOp Operator.Add (Value.str _ _) (Value.str _ _)) _ _ _); with_reducible (k_dflt (refine' my_add (by first | omega | decide +kernel) (by first | omega | decide +kernel) ?_); intro _ _ _)) | ((with_reducible show wpAny _ _ (call (Value.ref 160) [Value.ref _]) _ _ _); with_reducible (k_dflt (refine' c_str _ _ _ _ _ _ _ _ _ ?_ ?_ _ _ _ _ _ _ _ _ _ _ _ _ _ _ _ _ _ _ _ _ (by k_asm) (by k_asm) (by k_in) (by k_asm) (by k_asm) (by k_room) (by k_room) ?_; (try any_goals ((fail_if_success with_reducible show wpAny _ _ _ _ _ _); simp only [List.length_cons, List.length_nil]; omega)); (try any_goals ((fail_if_success with_reducible show wpAny _ _ _ _ _ _); refine .cons (.head _) ?_ ?_ .nil; (first | decide +kernel | omega); omega))); intro q9rv q9h' q9tk' q9nw q9hr q9F'; refine park2 q9rv q9nw ?_; intro q9Kp q9hKp; obtain ⟨q9tt, q9er, q9el, q9en⟩ := q9hr; cases q9en; cases q9er; refine q9hKp _ _ ?_; clear q9hKp q9Kp; intro q9N')) | ((with_reducible show wpAny _ _ (call (Value.ref 109) [Value.ref _, Value.str _ _]) _ _ _); with_reducible (k_dflt (refine' c_get _ _ _ _ _ _ _ _ _ _ _ _ _ ?_ (by with_reducible assumption) _ _ _ _ _ _ _ _ _ _ _ _ _ _ _ _ _ _ _ _ (by k_asm) (by k_asm) (by k_in) (by k_asm) (by k_asm) (by k_room) (by k_room) ?_; (try any_goals ((fail_if_success with_reducible show wpAny _ _ _ _ _ _); first | with_reducible assumption | exact Nat.zero_le _ | (simp only [List.length_cons, List.length_nil]; omega)))); intro q9rv q9h' q9tk' q9nw q9hr q9F'; refine park2 q9rv q9nw ?_; intro q9Kp q9hKp; obtain ⟨q9er, q9en⟩ := q9hr; cases q9en; cases q9er; refine q9hKp _ _ ?_; clear q9hKp q9Kp; intro q9N')) | ((with_reducible show wpAny _ _ (call (Value.ref 181) [Value.ref _, Value.str _ _, Value.none] _) _ _ _); with_reducible (k_dflt (refine' c_add1 _ _ _ _ _ _ _ _ _ _ _ _ 0 (by with_reducible assumption) (by with_reducible assumption) (by with_reducible assumption) ?_ (by first | with_reducible assumption | omega) (by first | with_reducible assumption | omega) (by with_reducible assumption) (by first | with_reducible assumption | omega) (by with_reducible assumption) (by with_reducible assumption) _ _ _ _ _ _ _ _ _ _ _ _ _ _ _ _ _ _ _ _ (by k_asm) (by k_asm) (by k_in) (by k_asm) (by k_asm) (by k_room) (by k_room) ?_; (try any_goals ((fail_if_success with_reducible show wpAny _ _ _ _ _ _); first | exact Nat.zero_le _ | with_reducible assumption | omega))); intro q9rv q9h' q9tk' q9nw q9hr q9F'; refine park2 q9rv q9nw ?_; intro q9Kp q9hKp; obtain ⟨q9TT, q9tt, q9er, q9en, q9ho⟩ := q9hr; cases q9en; cases q9er; refine q9hKp _ _ ?_; clear q9hKp q9Kp; intro q9N'; (replace q9N' := news_rotT q9N'); (try simp only [List.nil_append, List.cons_append] at q9N'))) | ((with_reducible show wpAny _ _ (call (Value.ref 184) ([] ++ [])) _ _ _); with_reducible (k_dflt (refine' c_headers _ _ _ _ _ _ _ _ _ _ _ _ _ _ _ _ _ _ _ _ (by k_asm) (by k_asm) (by k_in) (by k_asm) (by k_asm) (by k_room) (by k_room) ?_); intro q9rv q9h' q9tk' q9nw q9hr q9F'; refine park2 q9rv q9nw ?_; intro q9Kp q9hKp; obtain ⟨q9hx, q9hd, q9hl, q9hhs, q9htk, q9hk, q9er, q9en, q9o1, q9o2, q9o3⟩ := q9hr; cases q9en; cases q9er; refine q9hKp _ _ ?_; clear q9hKp q9Kp; intro q9N'; (have q9ox := ne_lt1 q9o2); (have q9od := ne_lt1 (Nat.lt_trans q9o1 q9o2)); (have q9oq := all_ne1 q9o3 (Nat.lt_trans q9o1 q9o2)))) | ((with_reducible show wpAny _ _ (call (Value.type "str") [Value.ref _]) _ _ _); with_reducible (k_dflt (refine' kso_call (by k_room) (by k_in) (by k_inst) (by k_is) (by k_is) ?_; k_whole))) | ((with_reducible show wpAny _ _ (execs (_ :: _) _) _ _ _); with_reducible (k_here; k_gentoks)) | ((with_reducible show wpAny _ _ (execs (_ :: _) _) _ _ _); with_reducible (k_here; refine execs_cons_H ?_; intro q9K q9hK q9hK2)) | ((with_reducible show Back ..); (k_here; first | refine Back.next (by with_reducible assumption) ?_ | refine Back.other (by with_reducible assumption) (fun h => Flow.noConfusion h) ?_)) | ((with_reducible show StrBack ..); with_reducible (k_here; unfold StrBack; (try dsimp only))) | walk1 | (dsimp only; walk1) | (leave1; (try dsimp only)))
    rename Fr _ _ _ _ => F9; rename News _ _ _ _ => N9
    show TurnEnd _ _ _ _ _ _ _
    refine ⟨_, _, _, _, rfl, F9, cb_drop N9 (by kcj_all), off, ⟨_, _, _, rfl⟩, rfl, ?_⟩
    show (PG i v ++ strF [pairF (Str.ofString "Nest") (TX (i + 1) v)]).length ≤ _
    rw [app_len]
    rename (strF _).length ≤ 5000 => hsl
    have hsl2 : (strF [pairF (Str.ofString "Nest") (TX (i + 1) v)]).length ≤ 5000 := hsl
    omega
theorem c_page2 {w : World} {p : Program} {loose : List Str} {mean : ExcName → Option Value} {mg mb : Str → Option Value} {rest : List (Addr × Obj)} (v : Str) (tv td : Tok) (hgn : goodN (Str.ofString "nest")) (hgN : goodN (Str.ofString "Nest")) (hk1 : goodN (Str.ofString "k_1"))
    (hv : v.length ≤ 300) (hv0 : v.length ≠ 0) (hg : goodV v) (hv1 : (fmtF (Str.ofString "k-1") v).length ≤ 300) (hv10 : (fmtF (Str.ofString "k-1") v).length ≠ 0) (hg1 : goodV (fmtF (Str.ofString "k-1") v)) (hv2 : (fmtF (Str.ofString "k-1") (fmtF (Str.ofString "k-1") v)).length ≤ 300) :
   Ct w p loose mean mg mb 228 [.str v tv, .int 2 td] 20 90 rest
     (fun r n' => ∃ t, r = .str (Str.ofString "" ++ strF [pairF (Str.ofString "Nest") (fmtF (Str.ofString "k-1") v)] ++ strF [pairF (Str.ofString "Nest") (fmtF (Str.ofString "k-1") (fmtF (Str.ofString "k-1") v))]) t ∧ n' = rest) :=
  c_page 2 (.inl rfl) v tv td hgn hgN hk1 fun i hi => match i, hi with | 0, _ => ⟨hv, hv0, hg, hv1⟩ | 1, _ => ⟨hv1, hv10, hg1, hv2⟩
theorem c_page3 {w : World} {p : Program} {loose : List Str} {mean : ExcName → Option Value} {mg mb : Str → Option Value} {rest : List (Addr × Obj)} (v : Str) (tv td : Tok) (hgn : goodN (Str.ofString "nest")) (hgN : goodN (Str.ofString "Nest")) (hk1 : goodN (Str.ofString "k_1"))
    (hv : v.length ≤ 300) (hv0 : v.length ≠ 0) (hg : goodV v) (hv1 : (fmtF (Str.ofString "k-1") v).length ≤ 300) (hv10 : (fmtF (Str.ofString "k-1") v).length ≠ 0) (hg1 : goodV (fmtF (Str.ofString "k-1") v)) (hv2 : (fmtF (Str.ofString "k-1") (fmtF (Str.ofString "k-1") v)).length ≤ 300) (hv20 : (fmtF (Str.ofString "k-1") (fmtF (Str.ofString "k-1") v)).length ≠ 0) (hg2 : goodV (fmtF (Str.ofString "k-1") (fmtF (Str.ofString "k-1") v))) (hv3 : (fmtF (Str.ofString "k-1") (fmtF (Str.ofString "k-1") (fmtF (Str.ofString "k-1") v))).length ≤ 300) :
   Ct w p loose mean mg mb 228 [.str v tv, .int 3 td] 20 90 rest
     (fun r n' => ∃ t, r = .str (Str.ofString "" ++ strF [pairF (Str.ofString "Nest") (fmtF (Str.ofString "k-1") v)] ++ strF [pairF (Str.ofString "Nest") (fmtF (Str.ofString "k-1") (fmtF (Str.ofString "k-1") v))] ++ strF [pairF (Str.ofString "Nest") (fmtF (Str.ofString "k-1") (fmtF (Str.ofString "k-1") (fmtF (Str.ofString "k-1") v)))]) t ∧ n' = rest) :=
  c_page 3 (.inr rfl) v tv td hgn hgN hk1 fun i hi => match i, hi with | 0, _ => ⟨hv, hv0, hg, hv1⟩ | 1, _ => ⟨hv1, hv10, hg1, hv2⟩ | 2, _ => ⟨hv2, hv20, hg2, hv3⟩
end Mine
end
section
open PySem PySem.W PySem.Calls PyProof.Rows PySem.Spec
set_option Elab.async false
set_option maxRecDepth 100000
namespace Mine
theorem anew_PL6 : True := by
  w_top off
  exact True.intro
noncomputable def escC (c : Nat) : List Nat := if c = 92 then [92, 92] else if c = 34 then [92, 34] else [c]
theorem repL_one (c0 : Nat) (z : List Nat) : ∀ l : List Nat, repL [c0] z 0 l = l.flatMap fun c => if c = c0 then z else [c]
  | [] => rfl
  | c :: r => by
    rw [repL_cons, List.flatMap_cons, ← repL_one c0 z r]
    by_cases h : c = c0
    · subst h
      simp
    · have : ([c0].isPrefixOf (c :: r)) = false := by simp [List.isPrefixOf, Ne.symm h]
      rw [this]
      simp [h]
theorem escF_flat (v : Str) : (escF v).cps.toList = v.cps.toList.flatMap escC := by
  unfold escF
  have e1 : Str.ofString "\\" = ⟨#[92]⟩ := by decide +kernel
  have e2 : Str.ofString "\\\\" = ⟨#[92, 92]⟩ := by decide +kernel
  have e3 : Str.ofString "\"" = ⟨#[34]⟩ := by decide +kernel
  have e4 : Str.ofString "\\\"" = ⟨#[92, 34]⟩ := by decide +kernel
  rw [e1, e2, e3, e4, StrLaws.replace_one, StrLaws.replace_one, ← join_eq, ← join_eq, repl1_list _ _ _ (by decide) (by decide +kernel), repl1_list _ _ _ (by decide) (by decide +kernel)]
  show repL [34] [92, 34] 0 (repL [92] [92, 92] 0 v.cps.toList) = _
  rw [repL_one, repL_one, List.flatMap_assoc]
  congr 1
  funext c
  unfold escC
  by_cases h : c = 92
  · subst h; simp
  · by_cases h2 : c = 34
    · subst h2; simp
    · simp [h, h2]
theorem len_list (v : Str) : v.length = v.cps.toList.length := by simp [Str.length]
theorem escC_len : ∀ l : List Nat, (l.flatMap escC).length ≤ 2 * l.length
  | [] => Nat.le_refl _
  | c :: r => by
    rw [List.flatMap_cons, List.length_append, List.length_cons]
    have h1 := escC_len r
    have h2 : (escC c).length ≤ 2 := by unfold escC; split; decide; split <;> simp
    omega
theorem fmtF_short (v : Str) : (fmtF (Str.ofString "k-1") v).length ≤ 2 * v.length + 6 := by
  rw [len_list, fmt_toList, escF_flat, len_list v]
  have := escC_len v.cps.toList
  simp only [List.length_append, List.length_cons, List.length_nil]
  omega
theorem fmtF_pos (v : Str) : (fmtF (Str.ofString "k-1") v).length ≠ 0 := by
  rw [len_list, fmt_toList]
  simp
noncomputable def endL (k : Nat) : List Nat := List.replicate (2 ^ k - 1) 92 ++ [34]
noncomputable def headL (k : Nat) : List Nat := [107, 45, 49, 61] ++ endL k
noncomputable def signL (d c : Nat) : List Nat := if c = 92 then List.replicate (2 ^ d) 92 else if c = 34 then endL d else [c]
noncomputable def wrL (d : Nat) (l : List Nat) : List Nat := (List.range d).flatMap headL ++ l.flatMap (signL d) ++ (List.range d).reverse.flatMap endL
theorem esc_slash : ∀ n : Nat, (List.replicate n 92).flatMap escC = List.replicate (2 * n) 92
  | 0 => rfl
  | n + 1 => by
    rw [List.replicate_succ, List.flatMap_cons, esc_slash n, show 2 * (n + 1) = 2 * n + 1 + 1 by omega, List.replicate_succ, List.replicate_succ]
    rfl
theorem esc_endL (k : Nat) : (endL k).flatMap escC = endL (k + 1) := by
  unfold endL
  rw [List.flatMap_append, esc_slash]
  have hp : 1 ≤ 2 ^ k := Nat.one_le_two_pow
  have e : 2 ^ (k + 1) - 1 = 2 * (2 ^ k - 1) + 1 := by rw [Nat.pow_succ]; omega
  rw [e, List.replicate_succ']
  simp [escC]
theorem esc_headL (k : Nat) : (headL k).flatMap escC = headL (k + 1) := by
  unfold headL
  rw [List.flatMap_append, esc_endL]
  rfl
theorem esc_signL (d c : Nat) : (signL d c).flatMap escC = signL (d + 1) c := by
  unfold signL
  by_cases h : c = 92
  · rw [if_pos h, if_pos h, esc_slash, Nat.pow_succ, Nat.mul_comm]
  · rw [if_neg h, if_neg h]
    by_cases h2 : c = 34
    · rw [if_pos h2, if_pos h2, esc_endL]
    · rw [if_neg h2, if_neg h2]
      simp [escC, h, h2]
theorem wrL_succ (d : Nat) (l : List Nat) : wrL (d + 1) l = [107, 45, 49, 61, 34] ++ (wrL d l).flatMap escC ++ [34] := by
  unfold wrL
  rw [List.flatMap_append, List.flatMap_append, List.flatMap_assoc, List.flatMap_assoc, List.flatMap_assoc]
  have e1 : (List.range (d + 1)).flatMap headL = [107, 45, 49, 61, 34] ++ (List.range d).flatMap fun k => (headL k).flatMap escC := by
    rw [List.range_succ_eq_map, List.flatMap_cons, List.flatMap_map]
    congr 1
    congr 1
    funext k
    exact (esc_headL k).symm
  have e2 : (List.range (d + 1)).reverse.flatMap endL = ((List.range d).reverse.flatMap fun k => (endL k).flatMap escC) ++ [34] := by
    rw [List.range_succ_eq_map, List.reverse_cons, List.flatMap_append, ← List.map_reverse, List.flatMap_map]
    congr 1
    congr 1
    funext k
    exact (esc_endL k).symm
  have e3 : l.flatMap (signL (d + 1)) = l.flatMap fun c => (signL d c).flatMap escC := by
    congr 1
    funext c
    exact (esc_signL d c).symm
  rw [e1, e2, e3]
  simp only [List.append_assoc]
theorem textL_wr (v : Str) : ∀ d, (textL d v).cps.toList = wrL d v.cps.toList
  | 0 => by
    unfold wrL
    have : v.cps.toList.flatMap (signL 0) = v.cps.toList := by
      have e : signL 0 = fun c => [c] := by
        funext c
        unfold signL endL
        split
        · rename_i h; subst h; rfl
        · split
          · rename_i h; subst h; rfl
          · rfl
      rw [e]; simp
    simp [textL, this]
  | d + 1 => by
    show (fmtF (Str.ofString "k-1") (textL d v)).cps.toList = _
    rw [fmt_toList, escF_flat, textL_wr v d, wrL_succ]
theorem join0_list : ∀ xs : List Str, (Txt.join (Str.ofString "") xs).cps.toList = xs.flatMap fun x => x.cps.toList := by
  intro xs
  rw [join_eq]
  have e : (Str.ofString "").cps.toList = [] := by decide +kernel
  induction xs with
  | nil => rfl
  | cons p r ih =>
    by_cases h : r = []
    · subst h; simp [Str.join]
    · rw [join_toList _ _ _ h, e, ih, List.append_nil, List.flatMap_cons]
theorem p2_nat (k : Nat) : p2 k = ((2 ^ k : Nat) : Int) := by unfold p2; exact (Int.natCast_pow 2 k).symm
theorem slash_mul (n : Int) : (Txt.mul (Str.ofString "\\") n).cps.toList = List.replicate n.toNat 92 := by
  rw [show Str.ofString "\\" = ⟨#[92]⟩ from by decide +kernel, mul_one_list]
theorem endF_list (k : Nat) : (endF k).cps.toList = endL k := by
  unfold endF endL
  rw [Str.cps_append, Array.toList_append, slash_mul, show (Str.ofString "\"").cps.toList = [34] from by decide +kernel, p2_nat]
  have hp : 1 ≤ 2 ^ k := Nat.one_le_two_pow
  have e : (((2 ^ k : Nat) : Int) - 1).toNat = 2 ^ k - 1 := by omega
  rw [e]
theorem signF_list (d c : Nat) : (signF d { cps := #[c] }).cps.toList = signL d c := by
  unfold signF signL
  have e1 : Str.ofString "\\" = ⟨#[92]⟩ := by decide +kernel
  have e2 : Str.ofString "\"" = ⟨#[34]⟩ := by decide +kernel
  by_cases h : c = 92
  · subst h
    rw [if_pos e1.symm, if_pos rfl, slash_mul, p2_nat]
    rfl
  · rw [if_neg h, if_neg (by rw [e1]; intro q; injection q with q; simp at q; exact h q)]
    by_cases h2 : c = 34
    · subst h2
      rw [if_pos e2.symm, if_pos rfl, endF_list]
    · rw [if_neg h2, if_neg (by rw [e2]; intro q; injection q with q; simp at q; exact h2 q)]
theorem str_ext {a b : Str} (h : a.cps.toList = b.cps.toList) : a = b := by
  cases a; cases b
  simp only [Str.mk.injEq]
  exact Array.toList_inj.mp h
theorem wrF_text (d : Nat) (v : Str) : wrF d v = textL d v := by
  apply str_ext
  rw [textL_wr]
  unfold wrF bodyF wrL
  rw [Str.cps_append, Array.toList_append, Str.cps_append, Array.toList_append, join0_list, join0_list, join0_list]
  have e1 : (((List.range d).map endF).map fun z => Str.ofString "k-1=" ++ z).flatMap (fun x => x.cps.toList) = (List.range d).flatMap headL := by
    rw [List.flatMap_map, List.flatMap_map]
    congr 1
    funext k
    show (Str.ofString "k-1=" ++ endF k).cps.toList = headL k
    rw [Str.cps_append, Array.toList_append, endF_list, show (Str.ofString "k-1=").cps.toList = [107, 45, 49, 61] from by decide +kernel]
    rfl
  have e2 : ((signsOf v).map (signF d)).flatMap (fun x => x.cps.toList) = v.cps.toList.flatMap (signL d) := by
    unfold signsOf
    rw [List.flatMap_map, List.flatMap_map]
    congr 1
    funext c
    exact signF_list d c
  have e3 : ((List.range d).map endF).reverse.flatMap (fun x => x.cps.toList) = (List.range d).reverse.flatMap endL := by
    rw [← List.map_reverse, List.flatMap_map]
    congr 1
    funext k
    exact endF_list k
  rw [e1, e2, e3]
end Mine
end
section
open PySem PySem.W PySem.Calls PyProof.Rows PySem.Spec
set_option Elab.async false
set_option maxRecDepth 100000
namespace Mine
theorem takeWhile_stop {p : Nat → Bool} {a : Nat} {t : List Nat} (ha : p a = false) : ∀ l : List Nat, (∀ c ∈ l, p c = true) → (l ++ a :: t).takeWhile p = l
  | [], _ => by simp [ha]
  | c :: r, h => by
    rw [List.cons_append, List.takeWhile_cons_of_pos (h c (.head _)), takeWhile_stop ha r fun d hd => h d (.tail _ hd)]
theorem strip_of {x : Str} {l m r : List Nat} {a b : Nat} {m1 m2 : List Nat} (hx : x.cps.toList = l ++ m ++ r) (h1 : m = a :: m1) (h2 : m = m2 ++ [b]) (ha : Unicode.isSpace a = false) (hb : Unicode.isSpace b = false)
    (hl : ∀ c ∈ l, Unicode.isSpace c = true) (hr : ∀ c ∈ r, Unicode.isSpace c = true) : (Txt.strip x).cps.toList = m := by
  unfold Txt.strip
  rw [PyProof.Rows.stripBy_eq]
  have e1 : stripLo Unicode.isSpace true x = l.length := by
    unfold stripLo
    rw [if_pos rfl, hx, h1, List.append_assoc, List.cons_append, takeWhile_stop ha l hl]
  have hlen : x.length = l.length + m.length + r.length := by rw [len_list, hx]; simp only [List.length_append]
  have e2 : stripHi Unicode.isSpace true x l.length = l.length + m.length := by
    unfold stripHi
    rw [if_pos rfl, hx, List.append_assoc, List.drop_left, List.reverse_append, h2, List.reverse_append, List.reverse_singleton, List.singleton_append, takeWhile_stop hb r.reverse fun c hc => hr c (List.mem_reverse.mp hc)]
    rw [hlen, h2, List.length_reverse]
    omega
  rw [e1, e2]
  show (x.cps.extract l.length (l.length + m.length)).toList = m
  rw [Array.toList_extract, hx, List.append_assoc]
  simp [List.drop_left]
theorem rstrip_ne {x : Str} {m2 : List Nat} {b : Nat} (hx : x.cps.toList = m2 ++ [b]) (hb : Unicode.isSpace b = false) : (Txt.rstrip x).length ≠ 0 := by
  unfold Txt.rstrip
  rw [PyProof.Rows.stripBy_eq]
  have e1 : stripLo Unicode.isSpace false x = 0 := by unfold stripLo; simp
  rw [e1]
  have e2 : stripHi Unicode.isSpace true x 0 = x.length := by
    unfold stripHi
    rw [if_pos rfl, List.drop_zero, hx, List.reverse_append, List.reverse_singleton, List.singleton_append, List.takeWhile_cons_of_neg (by simp [hb])]
    simp
  rw [e2]
  have h1 : x.length = m2.length + 1 := by rw [len_list, hx]; simp
  show (x.cps.extract 0 x.length).size ≠ 0
  rw [Array.size_extract]
  have : x.cps.size = x.length := rfl
  omega
noncomputable def glueL (c : Nat) : List (List Nat) → List Nat
  | [] => []
  | [p] => p
  | p :: r => p ++ c :: glueL c r
theorem glueL_cons (c : Nat) (p : List Nat) {r : List (List Nat)} (h : r ≠ []) : glueL c (p :: r) = p ++ c :: glueL c r := by
  cases r with
  | nil => exact absurd rfl h
  | cons q s => rfl
theorem first_eq {c : Nat} : ∀ {a b s t : List Nat}, c ∉ a → c ∉ b → a ++ c :: s = b ++ c :: t → a = b ∧ s = t
  | [], [], s, t, _, _, h => ⟨rfl, by simpa using h⟩
  | [], y :: b, s, t, _, hb, h => by
    simp only [List.nil_append, List.cons_append, List.cons.injEq] at h
    exact absurd (.head _) (h.1 ▸ hb)
  | x :: a, [], s, t, ha, _, h => by
    simp only [List.nil_append, List.cons_append, List.cons.injEq] at h
    exact absurd (.head _) (h.1 ▸ ha)
  | x :: a, y :: b, s, t, ha, hb, h => by
    simp only [List.cons_append, List.cons.injEq] at h
    have := first_eq (a := a) (b := b) (fun q => ha (.tail _ q)) (fun q => hb (.tail _ q)) h.2
    exact ⟨by rw [h.1, this.1], this.2⟩
theorem glueL_mem {c : Nat} {p : List Nat} {r : List (List Nat)} (h : r ≠ []) : c ∈ glueL c (p :: r) := by
  rw [glueL_cons c p h]; simp
theorem glueL_inj {c : Nat} : ∀ {a b : List (List Nat)}, a ≠ [] → b ≠ [] → (∀ p ∈ a, c ∉ p) → (∀ p ∈ b, c ∉ p) → glueL c a = glueL c b → a = b
  | [], _, h, _, _, _, _ => absurd rfl h
  | _ :: _, [], _, h, _, _, _ => absurd rfl h
  | [p], [q], _, _, _, _, h => by simpa [glueL] using h
  | [p], q :: s :: t, _, _, ha, _, h => by
    have := glueL_mem (c := c) (p := q) (r := s :: t) (by simp)
    rw [← h] at this
    exact absurd this (ha p (.head _))
  | p :: q :: t, [s], _, _, _, hb, h => by
    have := glueL_mem (c := c) (p := p) (r := q :: t) (by simp)
    rw [h] at this
    exact absurd this (hb s (.head _))
  | p :: q :: t, s :: u :: v, _, _, ha, hb, h => by
    have e := first_eq (ha p (.head _)) (hb s (.head _)) (s := glueL c (q :: t)) (t := glueL c (u :: v)) h
    have := glueL_inj (a := q :: t) (b := u :: v) (by simp) (by simp) (fun x hx => ha x (.tail _ hx)) (fun x hx => hb x (.tail _ hx)) e.2
    rw [e.1, this]
theorem join_glue (c : Nat) : ∀ xs : List Str, (Str.join ⟨#[c]⟩ xs).cps.toList = glueL c (xs.map fun x => x.cps.toList)
  | [] => rfl
  | [x] => rfl
  | x :: y :: r => by
    rw [join_toList _ _ _ (by simp), join_glue c (y :: r)]
    show x.cps.toList ++ [c] ++ _ = x.cps.toList ++ c :: glueL c ((y :: r).map fun x => x.cps.toList)
    simp
theorem map_list_inj : ∀ {a b : List Str}, a.map (fun x => x.cps.toList) = b.map (fun x => x.cps.toList) → a = b
  | [], [], _ => rfl
  | [], _ :: _, h => by simp at h
  | _ :: _, [], h => by simp at h
  | x :: a, y :: b, h => by
    simp only [List.map_cons, List.cons.injEq] at h
    rw [str_ext h.1, map_list_inj h.2]
theorem split_parts {c : Nat} {y : Str} {ps : List Str} (h : y.cps.toList = glueL c (ps.map fun x => x.cps.toList)) (h0 : ps ≠ []) (hf : ∀ p ∈ ps, c ∉ p.cps.toList) : Txt.split y ⟨#[c]⟩ = ps := by
  refine map_list_inj (glueL_inj (c := c) (by simpa using split_ne y ⟨#[c]⟩) (by simpa using h0) ?_ ?_ ?_)
  · intro p hp
    obtain ⟨x, hx, rfl⟩ := List.mem_map.mp hp
    exact StrLaws.split_free y c x hx
  · intro p hp
    obtain ⟨x, hx, rfl⟩ := List.mem_map.mp hp
    exact hf x hx
  · rw [← join_glue, StrLaws.join_split, h]
theorem nl_str : Str.ofString "\n" = ⟨#[10]⟩ := by decide +kernel
section
variable {x : Str} {l m r : List Nat} {a b : Nat} {m1 m2 : List Nat}
theorem sd_parts (ps : List Str) (hx : x.cps.toList = l ++ m ++ r) (h1 : m = a :: m1) (h2 : m = m2 ++ [b]) (ha : Unicode.isSpace a = false) (hb : Unicode.isSpace b = false)
    (hl : ∀ c ∈ l, Unicode.isSpace c = true) (hr : ∀ c ∈ r, Unicode.isSpace c = true) (hm : m = glueL 10 (ps.map fun x => x.cps.toList)) (h0 : ps ≠ []) (hf : ∀ p ∈ ps, 10 ∉ p.cps.toList) :
    Txt.split (Txt.strip x) (Str.ofString "\n") = ps := by
  rw [nl_str]
  exact split_parts (by rw [strip_of hx h1 h2 ha hb hl hr, hm]) h0 hf
end
theorem sd_one {x p : Str} (h : Txt.split (Txt.strip x) (Str.ofString "\n") = [p]) : sdF x = (p, Str.ofString "") := by unfold sdF; rw [h]
theorem sd_skip {x p q : Str} {r : List Str} (h : Txt.split (Txt.strip x) (Str.ofString "\n") = p :: q :: r) (hq : (Txt.rstrip q).length = 0) : sdF x = (p, Txt.join (Str.ofString "\n") r) := by
  unfold sdF; rw [h]; exact if_pos hq
theorem sd_both {x p q : Str} {r : List Str} (h : Txt.split (Txt.strip x) (Str.ofString "\n") = p :: q :: r) (hq : (Txt.rstrip q).length ≠ 0) : sdF x = (Str.ofString "", Txt.join (Str.ofString "\n") (p :: q :: r)) := by
  unfold sdF; rw [h]; exact if_neg hq
end Mine
end
section
open PySem PySem.W PySem.Calls PyProof.Rows PySem.Spec
set_option Elab.async false
set_option maxRecDepth 100000
namespace Mine
theorem sp13 : Unicode.isSpace 13 = true := by decide +kernel
theorem sp10 : Unicode.isSpace 10 = true := by decide +kernel
theorem sp9 : Unicode.isSpace 9 = true := by decide +kernel
theorem sp_crlf2 : ∀ c ∈ [13, 10, 13, 10], Unicode.isSpace c = true := by
  intro c hc
  simp only [List.mem_cons, List.not_mem_nil, or_false] at hc
  rcases hc with rfl | rfl | rfl | rfl
  · exact sp13
  · exact sp10
  · exact sp13
  · exact sp10
theorem sp_nltab : ∀ c ∈ [10, 9], Unicode.isSpace c = true := by
  intro c hc
  simp only [List.mem_cons, List.not_mem_nil, or_false] at hc
  rcases hc with rfl | rfl
  · exact sp10
  · exact sp9
structure Line (p : Str) : Prop where
  first : ∃ a m, p.cps.toList = a :: m ∧ Unicode.isSpace a = false
  last : ∃ m b, p.cps.toList = m ++ [b] ∧ Unicode.isSpace b = false
  free : 10 ∉ p.cps.toList
noncomputable def crS : Str := ⟨#[13]⟩
theorem strF1 (p : Str) : (strF [p]).cps.toList = p.cps.toList ++ [13, 10, 13, 10] := by
  unfold strF
  rw [join_eq]
  have e1 : (Str.ofString "\r\n").cps.toList = [13, 10] := by decide +kernel
  have e2 : (Str.ofString "").cps.toList = [] := by decide +kernel
  show (Str.join (Str.ofString "\r\n") [p, Str.ofString "", Str.ofString ""]).cps.toList = _
  rw [join_toList _ _ _ (by simp), join_toList _ _ _ (by simp), e1, e2]
  show p.cps.toList ++ [13, 10] ++ ([] ++ [13, 10] ++ (Str.ofString "").cps.toList) = _
  rw [e2]; simp
theorem strF2 (p q : Str) : (strF [p, q]).cps.toList = p.cps.toList ++ [13, 10] ++ q.cps.toList ++ [13, 10, 13, 10] := by
  unfold strF
  rw [join_eq]
  have e1 : (Str.ofString "\r\n").cps.toList = [13, 10] := by decide +kernel
  have e2 : (Str.ofString "").cps.toList = [] := by decide +kernel
  show (Str.join (Str.ofString "\r\n") [p, q, Str.ofString "", Str.ofString ""]).cps.toList = _
  rw [join_toList _ _ _ (by simp), join_toList _ _ _ (by simp), join_toList _ _ _ (by simp), e1, e2]
  show p.cps.toList ++ [13, 10] ++ (q.cps.toList ++ [13, 10] ++ ([] ++ [13, 10] ++ (Str.ofString "").cps.toList)) = _
  rw [e2]; simp
theorem app_list (a b : Str) : (a ++ b).cps.toList = a.cps.toList ++ b.cps.toList := by rw [Str.cps_append, Array.toList_append]
theorem nltab_list : (Str.ofString "\n\t").cps.toList = [10, 9] := by decide +kernel
theorem sd_tab1 {p : Str} (h : Line p) : sdF (Str.ofString "\n\t" ++ strF [p]) = (p, Str.ofString "") := by
  obtain ⟨a, m1, h1, ha⟩ := h.first
  obtain ⟨m2, b, h2, hb⟩ := h.last
  refine sd_one (sd_parts [p] (l := [10, 9]) (m := p.cps.toList) (r := [13, 10, 13, 10]) ?_ h1 h2 ha hb sp_nltab sp_crlf2 rfl (by simp) ?_)
  · rw [app_list, nltab_list, strF1]; simp
  · intro q hq
    rw [List.mem_singleton.mp hq]; exact h.free
theorem cr_rstrip : (Txt.rstrip crS).length = 0 := by decide +kernel
theorem join_nl (xs : List Str) : (Txt.join (Str.ofString "\n") xs).cps.toList = glueL 10 (xs.map fun x => x.cps.toList) := by rw [join_eq, nl_str, join_glue]
theorem sd_tab2 {p q : Str} (hp : Line p) (hq : Line q) : sdF (Str.ofString "\n\t" ++ strF [p, q]) = (Str.ofString "", p ++ Str.ofString "\r\n" ++ q) := by
  obtain ⟨a, m1, h1, ha⟩ := hp.first
  obtain ⟨m2, b, h2, hb⟩ := hq.last
  have e : Txt.split (Txt.strip (Str.ofString "\n\t" ++ strF [p, q])) (Str.ofString "\n") = [p ++ crS, q] := by
    refine sd_parts [p ++ crS, q] (l := [10, 9]) (m := p.cps.toList ++ [13, 10] ++ q.cps.toList) (r := [13, 10, 13, 10]) (a := a) (b := b) (m1 := m1 ++ [13, 10] ++ q.cps.toList) (m2 := p.cps.toList ++ [13, 10] ++ m2) ?_ (by rw [h1]; simp) (by rw [h2]; simp) ha hb sp_nltab sp_crlf2 ?_ (by simp) ?_
    · rw [app_list, nltab_list, strF2]; simp
    · show _ = (p ++ crS).cps.toList ++ 10 :: q.cps.toList
      rw [app_list]
      show _ = p.cps.toList ++ [13] ++ 10 :: q.cps.toList
      simp
    · intro x hx
      rcases List.mem_cons.mp hx with rfl | hx
      · rw [app_list]
        intro h
        rcases List.mem_append.mp h with h | h
        · exact hp.free h
        · simp [crS] at h
      · rw [List.mem_singleton.mp hx]; exact hq.free
  rw [sd_both e (rstrip_ne h2 hb)]
  refine Prod.ext rfl (str_ext ?_)
  dsimp only
  rw [join_nl, app_list, app_list]
  show (p ++ crS).cps.toList ++ 10 :: q.cps.toList = _
  rw [app_list, show (Str.ofString "\r\n").cps.toList = [13, 10] from by decide +kernel]
  show p.cps.toList ++ [13] ++ 10 :: q.cps.toList = _
  simp
theorem sd_page {x p j : Str} (rs : List Str) (t : List Nat) (hp : Line p) (hx : x.cps.toList = p.cps.toList ++ [13, 10, 13, 10] ++ j.cps.toList ++ t) (ht : ∀ c ∈ t, Unicode.isSpace c = true) (h0 : rs ≠ [])
    (hj : j.cps.toList = glueL 10 (rs.map fun x => x.cps.toList)) (hl : ∃ m b, j.cps.toList = m ++ [b] ∧ Unicode.isSpace b = false) (hf : ∀ q ∈ rs, 10 ∉ q.cps.toList) : sdF x = (p ++ crS, j) := by
  obtain ⟨a, m1, h1, ha⟩ := hp.first
  obtain ⟨m2, b, h2, hb⟩ := hl
  have e : Txt.split (Txt.strip x) (Str.ofString "\n") = (p ++ crS) :: crS :: rs := by
    refine sd_parts ((p ++ crS) :: crS :: rs) (l := []) (m := p.cps.toList ++ [13, 10, 13, 10] ++ j.cps.toList) (r := t) (a := a) (b := b) (m1 := m1 ++ [13, 10, 13, 10] ++ j.cps.toList) (m2 := p.cps.toList ++ [13, 10, 13, 10] ++ m2) ?_ (by rw [h1]; simp) (by rw [h2]; simp) ha hb (fun _ h => nomatch h) ht ?_ (by simp) ?_
    · rw [hx]; simp
    · rw [List.map_cons, List.map_cons, glueL_cons _ _ (by simp), glueL_cons _ _ (by simpa using h0), ← hj, app_list]
      show _ = p.cps.toList ++ [13] ++ 10 :: ([13] ++ 10 :: j.cps.toList)
      simp
    · intro q hq
      rcases List.mem_cons.mp hq with rfl | hq
      · rw [app_list]
        intro h
        rcases List.mem_append.mp h with h | h
        · exact hp.free h
        · simp [crS] at h
      · rcases List.mem_cons.mp hq with rfl | hq
        · simp [crS]
        · exact hf q hq
  rw [sd_skip e cr_rstrip]
  refine Prod.ext rfl (str_ext ?_)
  dsimp only
  rw [join_nl, hj]
theorem sd_line {p : Str} (h : Line p) : sdF p = (p, Str.ofString "") := by
  obtain ⟨a, m1, h1, ha⟩ := h.first
  obtain ⟨m2, b, h2, hb⟩ := h.last
  refine sd_one (sd_parts [p] (l := []) (m := p.cps.toList) (r := []) (by simp) h1 h2 ha hb (fun _ h => nomatch h) (fun _ h => nomatch h) rfl (by simp) ?_)
  intro q hq
  rw [List.mem_singleton.mp hq]; exact h.free
theorem pair_list (u : Str) : (pairF (Str.ofString "Nest") u).cps.toList = [78, 101, 115, 116, 58, 32] ++ u.cps.toList := by
  unfold pairF
  rw [app_list, app_list, show (Str.ofString "Nest").cps.toList = [78, 101, 115, 116] from by decide +kernel, show (Str.ofString ": ").cps.toList = [58, 32] from by decide +kernel]
  rfl
theorem pair_list' (u : Str) : (pairF (Str.ofString "nest") u).cps.toList = [110, 101, 115, 116, 58, 32] ++ u.cps.toList := by
  unfold pairF
  rw [app_list, app_list, show (Str.ofString "nest").cps.toList = [110, 101, 115, 116] from by decide +kernel, show (Str.ofString ": ").cps.toList = [58, 32] from by decide +kernel]
  rfl
theorem esc_free {l : List Nat} (h : 10 ∉ l) : 10 ∉ l.flatMap escC := by
  intro q
  obtain ⟨c, hc, hq⟩ := List.mem_flatMap.mp q
  unfold escC at hq
  split at hq
  · simp at hq
  · split at hq
    · simp at hq
    · simp only [List.mem_singleton] at hq
      exact h (hq ▸ hc)
theorem fmt_free {v : Str} (h : 10 ∉ v.cps.toList) : 10 ∉ (fmtF (Str.ofString "k-1") v).cps.toList := by
  rw [fmt_toList, escF_flat]
  have := esc_free h
  simp [this]
theorem line_pair {u : Str} (h : 10 ∉ u.cps.toList) (hl : ∃ m b, u.cps.toList = m ++ [b] ∧ Unicode.isSpace b = false) : Line (pairF (Str.ofString "Nest") u) := by
  obtain ⟨m, b, e, hb⟩ := hl
  refine ⟨⟨78, _, pair_list u, by decide +kernel⟩, ⟨[78, 101, 115, 116, 58, 32] ++ m, b, by rw [pair_list, e]; simp, hb⟩, ?_⟩
  rw [pair_list]; simp [h]
theorem line_pair' {u : Str} (h : 10 ∉ u.cps.toList) (hl : ∃ m b, u.cps.toList = m ++ [b] ∧ Unicode.isSpace b = false) : Line (pairF (Str.ofString "nest") u) := by
  obtain ⟨m, b, e, hb⟩ := hl
  refine ⟨⟨110, _, pair_list' u, by decide +kernel⟩, ⟨[110, 101, 115, 116, 58, 32] ++ m, b, by rw [pair_list', e]; simp, hb⟩, ?_⟩
  rw [pair_list']; simp [h]
theorem fmt_last (v : Str) : ∃ m b, (fmtF (Str.ofString "k-1") v).cps.toList = m ++ [b] ∧ Unicode.isSpace b = false := ⟨_, 34, fmt_toList v, by decide +kernel⟩
end Mine
end
section
open PySem PySem.W PySem.Calls PyProof.Rows PySem.Spec
set_option Elab.async false
set_option maxRecDepth 100000
set_option maxHeartbeats 4000000
namespace Mine
noncomputable def drawF (x : Int) : Str := if x.fmod 8 < 7 then Txt.item (Str.ofString "\"\\\"\\a\t\n") (x.fmod 8) else { cps := #[((x.fdiv 8).fmod 256).toNat] }
theorem drawF_len (x : Int) : (drawF x).length = 1 := by
  unfold drawF
  split
  · rename_i h
    have h0 : 0 ≤ x.fmod 8 := Int.fmod_nonneg_of_pos x (by decide)
    generalize x.fmod 8 = k at h h0
    obtain ⟨n, rfl⟩ := Int.eq_ofNat_of_zero_le h0
    have h2 : n < 7 := by omega
    rcases n with _ | _ | _ | _ | _ | _ | _ | n
    · decide +kernel
    · decide +kernel
    · decide +kernel
    · decide +kernel
    · decide +kernel
    · decide +kernel
    · decide +kernel
    · omega
  · rfl
structure TextOk (t : Str) : Prop where
  tail : ∃ pre, t.cps.toList = pre ++ [92, 92, 92, 34, 97, 92, 92, 97] ∧ pre.length ≤ 6
  small : ∀ c ∈ t.cps.toList, c < 256
theorem TextOk.len {t : Str} (h : TextOk t) : 8 ≤ t.length ∧ t.length ≤ 14 := by
  obtain ⟨pre, e, hp⟩ := h.tail
  rw [len_list, e]
  simp only [List.length_append, List.length_cons, List.length_nil]
  omega
theorem drawF_small (x : Int) : ∀ c ∈ (drawF x).cps.toList, c < 256 := by
  unfold drawF
  split
  · rename_i h
    have h0 : 0 ≤ x.fmod 8 := Int.fmod_nonneg_of_pos x (by decide)
    generalize x.fmod 8 = k at h h0
    obtain ⟨n, rfl⟩ := Int.eq_ofNat_of_zero_le h0
    have h2 : n < 7 := by omega
    rcases n with _ | _ | _ | _ | _ | _ | _ | n
    · decide +kernel
    · decide +kernel
    · decide +kernel
    · decide +kernel
    · decide +kernel
    · decide +kernel
    · decide +kernel
    · omega
  · intro c hc
    have : c = ((x.fdiv 8).fmod 256).toNat := by simpa using hc
    have h0 : 0 ≤ (x.fdiv 8).fmod 256 := Int.fmod_nonneg_of_pos _ (by decide)
    have h1 : (x.fdiv 8).fmod 256 < 256 := Int.fmod_lt_of_pos _ (by decide)
    omega
theorem draw_lens (l : List Int) : ∀ y ∈ l.map drawF, y.length ≤ 1 := by
  intro y hy
  obtain ⟨x, _, rfl⟩ := List.mem_map.mp hy
  exact Nat.le_of_eq (drawF_len x)
theorem draw_n (l : List Int) (k : Nat) (h : k ≤ 6) : ((l.take k).map drawF).length ≤ 6 := by
  rw [List.length_map, List.length_take]; omega
section
variable {prog : Program} {w : World} {A : Around} {E : Value → Shared → Prop} {s : Shared} {t u : Tok} {Q : Value → Shared → Prop}
theorem add_text {l : List Int} {k : Nat} (hk : k ≤ 6) (h : ∀ text t' tk, TextOk text → Q (.str text t') { s with toks := tk }) :
    wpAny (model prog w) A (binaryOp .Add (.str (Txt.join (Str.ofString "") ((l.take k).map drawF)) t) (.str (Str.ofString "\\\\\\\"a\\\\a") u)) Q E s := by
  have h1 : (Txt.join (Str.ofString "") ((l.take k).map drawF)).length ≤ 6 := by
    rw [join0_len]
    have := sum_le (draw_lens (l.take k))
    have := draw_n l k hk
    omega
  have e : (Txt.join (Str.ofString "") ((l.take k).map drawF) ++ Str.ofString "\\\\\\\"a\\\\a").cps.toList = (Txt.join (Str.ofString "") ((l.take k).map drawF)).cps.toList ++ [92, 92, 92, 34, 97, 92, 92, 97] := by
    rw [app_list, show (Str.ofString "\\\\\\\"a\\\\a").cps.toList = [92, 92, 92, 34, 97, 92, 92, 97] from by decide +kernel]
  refine KXadd.add (K := 6) (L := 8) h1 (by decide +kernel) (by decide) fun t' tk _ => h _ t' tk ⟨⟨_, e, by rw [← len_list]; exact h1⟩, fun c hc => ?_⟩
  rw [e, join0_list] at hc
  rcases List.mem_append.mp hc with hc | hc
  · obtain ⟨y, hy, hc⟩ := List.mem_flatMap.mp hc
    obtain ⟨x, _, rfl⟩ := List.mem_map.mp hy
    exact drawF_small x c hc
  · simp at hc; omega
end
noncomputable def sgn (z : Str) : Nat := z.cps.getD 0 0
noncomputable def badS (z : Str) : Bool := badV (sgn z)
theorem one_lt (c : Nat) : ({ cps := #[c] } : Str).cps.toList < (Str.ofString " ").cps.toList ↔ c < 32 := by
  rw [show (Str.ofString " ").cps.toList = [32] from by decide +kernel]
  show [c] < [32] ↔ _
  rw [List.cons_lt_cons_iff]
  simp
theorem one_eq (c k : Nat) (x : Str) (hx : x = { cps := #[k] }) : (({ cps := #[c] } : Str) == x) = true ↔ c = k := by
  rw [hx, beq_iff_eq]
  constructor
  · intro h; injection h with h; simpa using h
  · rintro rfl; rfl
theorem tab_str : Str.ofString "\t" = { cps := #[9] } := by decide +kernel
theorem del_str : Str.ofString "\x7f" = { cps := #[127] } := by decide +kernel
theorem badS_one (c : Nat) : badS { cps := #[c] } = ((decide (c < 32) && c != 9) || c == 127) := rfl
theorem bad_a {c : Nat} (h1 : ({ cps := #[c] } : Str).cps.toList < (Str.ofString " ").cps.toList) (h2 : (({ cps := #[c] } : Str) != Str.ofString "\t") = true) : badS { cps := #[c] } = true := by
  have h3 := (one_lt c).mp h1
  have h4 : c ≠ 9 := fun e => by
    rw [bne, (one_eq c 9 _ tab_str).mpr e] at h2; cases h2
  rw [badS_one]; simp [h3, h4]
theorem bad_b {c : Nat} (h2 : (({ cps := #[c] } : Str) == Str.ofString "\x7f") = true) : badS { cps := #[c] } = true := by
  rw [badS_one, (one_eq c 127 _ del_str).mp h2]; rfl
theorem bad_c {c : Nat} (h2 : (({ cps := #[c] } : Str) != Str.ofString "\t") = false) (h3 : (({ cps := #[c] } : Str) == Str.ofString "\x7f") = false) : badS { cps := #[c] } = false := by
  have h4 : c = 9 := (one_eq c 9 _ tab_str).mp (by rw [bne] at h2; simpa using h2)
  rw [badS_one, h4]; rfl
theorem bad_d {c : Nat} (h1 : ¬ ({ cps := #[c] } : Str).cps.toList < (Str.ofString " ").cps.toList) (h3 : (({ cps := #[c] } : Str) == Str.ofString "\x7f") = false) : badS { cps := #[c] } = false := by
  have h4 : ¬ c < 32 := fun h => h1 ((one_lt c).mpr h)
  have h5 : c ≠ 127 := fun e => by rw [(one_eq c 127 _ del_str).mpr e] at h3; cases h3
  rw [badS_one]; simp [h4, h5]
end Mine
end
section
open PySem PySem.W PySem.Calls PyProof.Rows PySem.Spec
set_option Elab.async false
set_option maxRecDepth 100000
set_option maxHeartbeats 4000000
namespace Mine
theorem goodV_of {v : Str} (h : ∀ c ∈ v.cps.toList, badV c = false) : goodV v := by
  intro i hi
  rw [Array.getD_eq_getD_getElem?, Array.getElem?_eq_getElem hi]
  exact h _ (by simp)
theorem goodN_of {v : Str} (h : ∀ c ∈ v.cps.toList, badN c = false) : goodN v := by
  intro i hi
  rw [Array.getD_eq_getD_getElem?, Array.getElem?_eq_getElem hi]
  exact h _ (by simp)
theorem goodV_at {v : Str} (h : goodV v) : ∀ c ∈ v.cps.toList, badV c = false := by
  intro c hc
  obtain ⟨i, hi, rfl⟩ := List.getElem_of_mem hc
  have h1 : i < v.cps.size := by simpa using hi
  have := h i h1
  rw [Array.getD_eq_getD_getElem?, Array.getElem?_eq_getElem h1] at this
  simpa using this
theorem hasBadV_of {v : Str} {c : Nat} (hc : c ∈ v.cps.toList) (hb : badV c = true) : hasBadV v := by
  obtain ⟨i, hi, rfl⟩ := List.getElem_of_mem hc
  have h1 : i < v.cps.size := by simpa using hi
  refine ⟨i, h1, ?_⟩
  rw [Array.getD_eq_getD_getElem?, Array.getElem?_eq_getElem h1]
  simpa using hb
noncomputable def bads (t : Str) : List Str := (signsOf t).filter badS
theorem bads_list (t : Str) : bads t = (t.cps.toList.filter badV).map fun c => ({ cps := #[c] } : Str) := by
  unfold bads signsOf
  rw [List.filter_map]
  rfl
theorem bads_nil {t : Str} (h : bads t = []) : goodV t := by
  rw [bads_list, List.map_eq_nil_iff, List.filter_eq_nil_iff] at h
  exact goodV_of fun c hc => by simpa using h c hc
theorem bads_ne {t : Str} (h : bads t ≠ []) : hasBadV t := by
  rw [bads_list, Ne, List.map_eq_nil_iff, List.filter_eq_nil_iff] at h
  refine Classical.byContradiction fun q => h fun c hc hb => q (hasBadV_of hc hb)
theorem bads_len {t : Str} (h : TextOk t) : (bads t).length ≤ 6 := by
  obtain ⟨pre, e, hp⟩ := h.tail
  rw [bads_list, e, List.filter_append, List.length_map, List.length_append, show ([92, 92, 92, 34, 97, 92, 92, 97] : List Nat).filter badV = [] from by decide]
  have := List.length_filter_le badV pre
  simp only [List.length_nil]; omega
noncomputable def outs (t : Str) : List (Str × Str) := (bads t).map fun z => (z, Str.ofString "")
noncomputable def cleanF (t : Str) : Str := replAll t (outs t)
theorem repL_out (c : Nat) (l : List Nat) : repL [c] [] 0 l = l.filter fun k => !decide (k = c) := by
  rw [repL_one]
  induction l with
  | nil => rfl
  | cons k r ih =>
    rw [List.flatMap_cons, ih, List.filter_cons]
    by_cases h : k = c <;> simp [h]
theorem kind_one {c : Nat} (h : c < 256) : Builtin.Str.strKind { cps := #[c] } = 1 := by
  show Builtin.Str.strKind ⟨#[c]⟩ = 1
  unfold Builtin.Str.strKind
  simp [h]
theorem outs_list : ∀ (cs : List Nat) (x : Str), (∀ c ∈ cs, c < 256) → (replAll x (cs.map fun c => (({ cps := #[c] } : Str), Str.ofString ""))).cps.toList = x.cps.toList.filter fun k => !decide (k ∈ cs)
  | [], x, _ => by
    show x.cps.toList = _
    exact (List.filter_eq_self.mpr (by simp)).symm
  | c :: cs, x, h => by
    show (replAll (repl1 x _) (cs.map _)).cps.toList = _
    rw [outs_list cs _ fun k hk => h k (.tail _ hk)]
    unfold repl1
    dsimp only
    rw [repl1_list x { cps := #[c] } _ (Nat.le_refl 1) (kind_one (h c (.head _)))]
    rw [show (Str.ofString "").cps.toList = [] from by decide +kernel]
    show List.filter _ (repL [c] [] 0 _) = _
    rw [repL_out, List.filter_filter]
    congr 1
    funext k
    by_cases h1 : k = c <;> by_cases h2 : k ∈ cs <;> simp [h1, h2]
theorem badV_lt {c : Nat} (h : badV c = true) : c < 256 := by
  unfold badV at h
  simp at h
  omega
theorem clean_list (t : Str) : (cleanF t).cps.toList = t.cps.toList.filter fun c => !badV c := by
  unfold cleanF outs
  rw [bads_list, List.map_map]
  show (replAll t ((t.cps.toList.filter badV).map fun c => (({ cps := #[c] } : Str), Str.ofString ""))).cps.toList = _
  rw [outs_list _ _ fun c hc => badV_lt (List.mem_filter.mp hc).2]
  apply List.filter_congr
  intro c hc
  simp [List.mem_filter, hc]
theorem clean_ok {t : Str} (h : TextOk t) : TextOk (cleanF t) := by
  obtain ⟨pre, e, hp⟩ := h.tail
  refine ⟨⟨pre.filter fun c => !badV c, ?_, ?_⟩, fun c hc => ?_⟩
  · rw [clean_list, e, List.filter_append]
    congr 1
  · exact Nat.le_trans (List.length_filter_le _ _) hp
  · rw [clean_list] at hc
    exact h.small c (List.mem_filter.mp hc).1
theorem clean_good (t : Str) : goodV (cleanF t) := goodV_of fun c hc => by
  rw [clean_list] at hc
  simpa using (List.mem_filter.mp hc).2
theorem good_free {t : Str} (h : goodV t) : 10 ∉ t.cps.toList := fun q => by
  have := goodV_at h 10 q
  simp [badV] at this
theorem join_filter (p : Str → Bool) (t : Str) : (Txt.join (Str.ofString "") ((signsOf t).filter p)).cps.toList = t.cps.toList.filter fun c => p { cps := #[c] } := by
  rw [join0_list, signsOf, List.filter_map]
  generalize t.cps.toList = l
  induction l with
  | nil => rfl
  | cons c r ih =>
    cases hp : p { cps := #[c] } with
    | true =>
      rw [List.filter_cons_of_pos (by simpa using hp), List.filter_cons_of_pos (by simpa using hp), List.map_cons, List.flatMap_cons, ih]
      rfl
    | false =>
      rw [List.filter_cons_of_neg (by simp [hp]), List.filter_cons_of_neg (by simp [hp])]
      exact ih
theorem clean_join (t : Str) : Txt.join (Str.ofString "") ((signsOf t).filter fun z => !decide (z ∈ bads t)) = cleanF t := by
  apply str_ext
  rw [join_filter, clean_list]
  apply List.filter_congr
  intro c hc
  have : ({ cps := #[c] } : Str) ∈ bads t ↔ badV c = true := by
    rw [bads_list, List.mem_map]
    constructor
    · rintro ⟨k, hk, e⟩
      injection e with e
      have : k = c := by simpa using e
      subst this
      exact (List.mem_filter.mp hk).2
    · intro hb
      exact ⟨c, List.mem_filter.mpr ⟨hc, hb⟩, rfl⟩
  by_cases hb : badV c = true
  · simp [this, hb]
  · simp [this, hb]
theorem a_str : Str.ofString "a" = { cps := #[97] } := by decide +kernel
noncomputable def plainF (t : Str) : Str := Txt.join (Str.ofString "") ((signsOf t).filter fun z => z == Str.ofString "a")
theorem plain_list (t : Str) : (plainF t).cps.toList = t.cps.toList.filter fun c => c == 97 := by
  unfold plainF
  rw [join_filter]
  apply List.filter_congr
  intro c _
  rw [a_str]
  by_cases h : c = 97
  · simp [h]
  · have : ¬ (({ cps := #[c] } : Str) == { cps := #[97] }) = true := fun q => h (by
      have := beq_iff_eq.mp q
      injection this with e
      simpa using e)
    simp [h, Bool.eq_false_iff.mpr this]
theorem plain_a (t : Str) : ∀ c ∈ (plainF t).cps.toList, c = 97 := by
  intro c hc
  rw [plain_list] at hc
  simpa using (List.mem_filter.mp hc).2
theorem plain_len {t : Str} (h : TextOk t) : (plainF t).length ≠ 0 ∧ (plainF t).length ≤ 14 := by
  constructor
  · intro q
    rw [len_list, plain_list, List.length_eq_zero_iff, List.filter_eq_nil_iff] at q
    obtain ⟨pre, e, _⟩ := h.tail
    exact q 97 (by rw [e]; simp) (by simp)
  · have := h.len
    rw [len_list, plain_list]
    rw [len_list] at this
    exact Nat.le_trans (List.length_filter_le _ _) this.2
theorem plain_good (t : Str) : goodV (plainF t) := goodV_of fun c hc => by
  rw [plain_a t c hc]; decide
theorem esc_plain (t : Str) : escF (plainF t) = plainF t := by
  apply str_ext
  rw [escF_flat]
  have h := plain_a t
  generalize (plainF t).cps.toList = l at h
  induction l with
  | nil => rfl
  | cons c r ih =>
    rw [List.flatMap_cons, ih fun k hk => h k (.tail _ hk), h c (.head _)]
    rfl
noncomputable def valF (p : Str) : Str := Str.ofString "a; k-2=\"" ++ p ++ Str.ofString "\"; k-3; k-4"
theorem val_list (p : Str) : (valF p).cps.toList = [97, 59, 32, 107, 45, 50, 61, 34] ++ p.cps.toList ++ [34, 59, 32, 107, 45, 51, 59, 32, 107, 45, 52] := by
  unfold valF
  rw [app_list, app_list, show (Str.ofString "a; k-2=\"").cps.toList = [97, 59, 32, 107, 45, 50, 61, 34] from by decide +kernel, show (Str.ofString "\"; k-3; k-4").cps.toList = [34, 59, 32, 107, 45, 51, 59, 32, 107, 45, 52] from by decide +kernel]
theorem val_eq (t : Str) : Txt.join (Str.ofString "; ") [Str.ofString "a", fmtF (Str.ofString "k-2") (plainF t), Str.ofString "k-3", Str.ofString "k-4"] = valF (plainF t) := by
  apply str_ext
  rw [val_list, join_eq, join_toList _ _ _ (by simp), join_toList _ _ _ (by simp), join_toList _ _ _ (by simp)]
  show _ ++ _ ++ (_ ++ _ ++ (_ ++ _ ++ (Str.ofString "k-4").cps.toList)) = _
  unfold fmtF
  rw [esc_plain, app_list, app_list, app_list, app_list]
  rw [show (Str.ofString "a").cps.toList = [97] from by decide +kernel, show (Str.ofString "; ").cps.toList = [59, 32] from by decide +kernel, show (Str.ofString "k-3").cps.toList = [107, 45, 51] from by decide +kernel, show (Str.ofString "k-4").cps.toList = [107, 45, 52] from by decide +kernel,
    show (Str.ofString "k-2").cps.toList = [107, 45, 50] from by decide +kernel, show (Str.ofString "=\"").cps.toList = [61, 34] from by decide +kernel, show (Str.ofString "\"").cps.toList = [34] from by decide +kernel, show Str.empty.cps.toList = [] from by decide +kernel]
  simp
theorem val_len {t : Str} (h : TextOk t) : (valF (plainF t)).length ≤ 40 := by
  have := (plain_len h).2
  rw [len_list] at this
  rw [len_list, val_list]
  simp only [List.length_append, List.length_cons, List.length_nil]
  omega
theorem val_free (t : Str) : 10 ∉ (valF (plainF t)).cps.toList := by
  rw [val_list]
  intro q
  simp only [List.mem_append] at q
  rcases q with (q | q) | q
  · revert q; decide
  · exact absurd (plain_a t 10 q) (by decide)
  · revert q; decide
theorem val_last (p : Str) : ∃ m b, (valF p).cps.toList = m ++ [b] ∧ Unicode.isSpace b = false :=
  ⟨[97, 59, 32, 107, 45, 50, 61, 34] ++ p.cps.toList ++ [34, 59, 32, 107, 45, 51, 59, 32, 107, 45], 52, by rw [val_list]; simp, by decide +kernel⟩
theorem val_line (t : Str) : Line (pairF (Str.ofString "Nest") (valF (plainF t))) := line_pair (val_free t) (val_last _)
theorem nest_line {t : Str} (h : goodV t) : Line (pairF (Str.ofString "nest") (wrF 1 t)) := by
  rw [wrF_text]
  exact line_pair' (fmt_free (good_free h)) (fmt_last _)
theorem wr1 (t : Str) : wrF 1 t = fmtF (Str.ofString "k-1") t := wrF_text 1 t
theorem nest_pair (u : Str) : Str.ofString "Nest: " ++ u = pairF (Str.ofString "Nest") u := by
  apply str_ext
  rw [pair_list, app_list, show (Str.ofString "Nest: ").cps.toList = [78, 101, 115, 116, 58, 32] from by decide +kernel]
theorem both_eq (u v : Str) : pairF (Str.ofString "Nest") u ++ Str.ofString "\r\n" ++ pairF (Str.ofString "nest") v = Str.ofString "Nest: " ++ u ++ Str.ofString "\r\nnest: " ++ v := by
  apply str_ext
  rw [app_list, app_list, app_list, app_list, app_list, pair_list, pair_list', show (Str.ofString "Nest: ").cps.toList = [78, 101, 115, 116, 58, 32] from by decide +kernel, show (Str.ofString "\r\n").cps.toList = [13, 10] from by decide +kernel, show (Str.ofString "\r\nnest: ").cps.toList = [13, 10, 110, 101, 115, 116, 58, 32] from by decide +kernel]
  simp
theorem goodN_nest : goodN (Str.ofString "nest") := goodN_of (by decide +kernel)
theorem goodN_Nest : goodN (Str.ofString "Nest") := goodN_of (by decide +kernel)
theorem goodN_k1 : goodN (Str.ofString "k_1") := goodN_of (by decide +kernel)
theorem goodV_a : goodV (Str.ofString "a") := goodV_of (by decide +kernel)
end Mine
end
section
open PySem PySem.W PySem.Calls PyProof.Rows PySem.Spec PyProof.Rows.LCg
set_option Elab.async false
set_option maxRecDepth 100000
set_option maxHeartbeats 4000000
namespace Mine
noncomputable abbrev m1 (text : Str) (tt : Tok) (D : Addr) (m : Str → Option Value) : Str → Option Value :=
  fun y => if y = Str.ofString "text" then some (.str text tt) else if y = Str.ofString "drawn" then some (.ref D) else m y
noncomputable abbrev led0 (L B D : Addr) (ys vs : List Value) (oB w2 w1 : Obj) : List (Addr × Obj) :=
  [(B, lst ys), (D, W.listOf vs.toArray 0), (L + 1 + 1 + 1, w2), (L + 1 + 1, w1), (L + 1, oB), (242, tabObj #[])]
section
variable {M : Model} {A : Around} {E : Value → Shared → Prop} {env : Env} {s : Shared} {h₀ : Heap} {L : Addr} {m : Str → Option Value} {Q : Flow → Shared → Prop}
end
section
variable {prog : Program} {w : World} {A : Around} {E : Value → Shared → Prop} {s : Shared} {t : Tok} {Q : Value → Shared → Prop}
theorem join_plain {D : Addr} {ys : List Value} {text : Str} (hT : TextOk text) (hy : StrsAre ys ((signsOf text).filter fun z => z == Str.ofString "a")) (hl : s.heap.IsList D ys.toArray)
    (hq : ∀ t' k, s.toks ≤ k → (plainF text).length ≠ 0 → (plainF text).length ≤ 14 → goodV (plainF text) → Q (.str (plainF text) t') { s with toks := k }) :
    wpAny (model prog w) A (call (.builtin "str.join") [.str (Str.ofString "") t, .ref D]) Q E s := by
  have hn : ((signsOf text).filter fun z => z == Str.ofString "a").length ≤ 14 := by
    have h1 := List.length_filter_le (fun z => z == Str.ofString "a") (signsOf text)
    rw [signsOf_length] at h1
    have := hT.len; omega
  have hs : (((signsOf text).filter fun z => z == Str.ofString "a").map (·.length)).sum ≤ 14 := by
    have h1 : ∀ y ∈ (signsOf text).filter fun z => z == Str.ofString "a", y.length ≤ 1 := by
      intro y hy
      obtain ⟨c, _, rfl⟩ := List.mem_map.mp (List.mem_filter.mp hy).1
      exact Nat.le_refl 1
    have := sum_le h1
    omega
  refine my_join hl hy ?_ fun t' k hk => hq t' k hk (plain_len hT).1 (plain_len hT).2 (plain_good text)
  have : (Str.ofString "").length = 0 := by decide +kernel
  rw [this]; omega
end
noncomputable abbrev m2 (p : Str) (tp tw : Tok) (x1 x2 : Addr) (m : Str → Option Value) : Str → Option Value :=
  fun y => if y = Str.ofString "plain" then some (.str p tp) else if y = Str.ofString "words" then some (.str (Str.ofString "Control characters not allowed in headers") tw) else if y = Str.ofString "named" then some (.ref x1) else if y = Str.ofString "table" then some (.ref x2) else m y
structure Ord2 (r : List (Addr × Obj)) (x1 d1 l1 x2 d2 l2 : Addr) : Prop where
  b0 : ∀ q ∈ r, @LT.lt Nat _ q.1 d1
  b1 : @LT.lt Nat _ d1 x1
  b2 : @LT.lt Nat _ x1 l1
  b3 : @LT.lt Nat _ l1 d2
  b4 : @LT.lt Nat _ d2 x2
  b5 : @LT.lt Nat _ x2 l2
theorem ord2_of {r : List (Addr × Obj)} {x1 d1 l1 x2 d2 l2 : Addr} {o1 o2 o3 : Obj} (a1 : @LT.lt Nat _ d1 x1) (a2 : @LT.lt Nat _ x1 l1) (a3 : ∀ q ∈ r, @LT.lt Nat _ q.1 d1) (b1 : @LT.lt Nat _ d2 x2) (b2 : @LT.lt Nat _ x2 l2) (b3 : ∀ q ∈ (x1, o1) :: (d1, o2) :: (l1, o3) :: r, @LT.lt Nat _ q.1 d2) : Ord2 r x1 d1 l1 x2 d2 l2 :=
  ⟨a3, a1, a2, b3 (l1, o3) (.tail _ (.tail _ (.head _))), b1, b2⟩
section
variable {M : Model} {A : Around} {E : Value → Shared → Prop} {env : Env} {s : Shared} {h₀ : Heap} {L : Addr} {m : Str → Option Value} {Q : Flow → Shared → Prop}
end
section
variable {r : List (Addr × Obj)} {x1 d1 l1 x2 d2 l2 T : Addr} {o1 o2 o3 oT : Obj}
theorem Ord2.x2l (h : Ord2 r x1 d1 l1 x2 d2 l2) : @Ne Addr x2 l2 := Nat.ne_of_lt h.b5
theorem Ord2.d2l (h : Ord2 r x1 d1 l1 x2 d2 l2) : @Ne Addr d2 l2 := Nat.ne_of_lt (Nat.lt_trans h.b4 h.b5)
theorem Ord2.l2l (h : Ord2 r x1 d1 l1 x2 d2 l2) : @LT.lt Nat _ l1 l2 := Nat.lt_trans h.b3 (Nat.lt_trans h.b4 h.b5)
theorem Ord2.rl1 (h : Ord2 r x1 d1 l1 x2 d2 l2) : ∀ q ∈ r, @LT.lt Nat _ q.1 l1 := fun q hq => Nat.lt_trans (h.b0 q hq) (Nat.lt_trans h.b1 h.b2)
theorem Ord2.rest2 (h : Ord2 r x1 d1 l1 x2 d2 l2) : ∀ q ∈ (x1, o1) :: (d1, o2) :: (l1, o3) :: r, q.1 ≠ l2 := by
  intro q hq
  have h1 := h.l2l
  have h2 := h.b1
  have h3 := h.b2
  simp only [List.mem_cons] at hq
  rcases hq with rfl | rfl | rfl | hq
  · exact Nat.ne_of_lt (Nat.lt_trans h3 h1)
  · exact Nat.ne_of_lt (Nat.lt_trans h2 (Nat.lt_trans h3 h1))
  · exact Nat.ne_of_lt h1
  · exact Nat.ne_of_lt (Nat.lt_trans (h.rl1 q hq) h1)
theorem Ord2.rest2T (h : Ord2 r x1 d1 l1 x2 d2 l2) (hT : @LT.lt Nat _ l2 T) : ∀ q ∈ (T, oT) :: (x1, o1) :: (d1, o2) :: (l1, o3) :: r, q.1 ≠ l2 := by
  intro q hq
  rcases List.mem_cons.mp hq with rfl | hq
  · exact Nat.ne_of_gt hT
  · exact h.rest2 q hq
end
noncomputable abbrev m3 (val : Str) (tv : Tok) (m : Str → Option Value) : Str → Option Value :=
  fun y => if y = Str.ofString "value" then some (.str val tv) else m y
noncomputable abbrev m4 (bo to : Value) (m : Str → Option Value) : Str → Option Value :=
  fun y => if y = Str.ofString "both" then some bo else if y = Str.ofString "told" then some to else m y
section
variable {M : Model} {A : Around} {E : Value → Shared → Prop} {env : Env} {s : Shared} {h₀ : Heap} {L : Addr} {m : Str → Option Value} {Q : Flow → Shared → Prop}
end
noncomputable abbrev ledG (x2 d2 l2 : Addr) (hs2 : Int) (tk2 : Tok) (k2 : Nat) (T T2 : Addr) (oT oT2 : Obj) (r : List (Addr × Obj)) : List (Addr × Obj) :=
  tabled x2 d2 l2 hs2 tk2 k2 [.ref T, .ref T2] 2 ((T, oT) :: (T2, oT2) :: r)
noncomputable abbrev mT (to : Value) (m : Str → Option Value) : Str → Option Value :=
  fun y => if y = Str.ofString "told" then some to else m y
noncomputable abbrev mF (fr : Value) (m : Str → Option Value) : Str → Option Value :=
  fun y => if y = Str.ofString "free" then some fr else m y
section
variable {M : Model} {A : Around} {E : Value → Shared → Prop} {env : Env} {s : Shared} {h₀ : Heap} {L : Addr} {m : Str → Option Value} {Q : Flow → Shared → Prop}
end
noncomputable abbrev mC (c : Str) (tc : Tok) (m : Str → Option Value) : Str → Option Value :=
  fun y => if y = Str.ofString "clean" then some (.str c tc) else m y
section
variable {M : Model} {A : Around} {E : Value → Shared → Prop} {env : Env} {s : Shared} {h₀ : Heap} {L : Addr} {m : Str → Option Value} {Q : Flow → Shared → Prop}
end
noncomputable def g2 (r : Str) : List Str := (signsOf (Str.ofString "BQ")).map fun z => r ++ z
noncomputable def lv : Nat → List Str
  | 0 => [Str.ofString ""]
  | 1 => [Str.ofString "B", Str.ofString "Q"]
  | 2 => [Str.ofString "BB", Str.ofString "BQ", Str.ofString "QB", Str.ofString "QQ"]
  | 3 => [Str.ofString "BBB", Str.ofString "BBQ", Str.ofString "BQB", Str.ofString "BQQ", Str.ofString "QBB", Str.ofString "QBQ", Str.ofString "QQB", Str.ofString "QQQ"]
  | _ => [Str.ofString "BBBB", Str.ofString "BBBQ", Str.ofString "BBQB", Str.ofString "BBQQ", Str.ofString "BQBB", Str.ofString "BQBQ", Str.ofString "BQQB", Str.ofString "BQQQ", Str.ofString "QBBB", Str.ofString "QBBQ", Str.ofString "QBQB", Str.ofString "QBQQ", Str.ofString "QQBB", Str.ofString "QQBQ", Str.ofString "QQQB", Str.ofString "QQQQ"]
noncomputable def rowsF : List Str := lv 0 ++ lv 1 ++ lv 2 ++ lv 3 ++ lv 4
noncomputable abbrev mR (ro si : Value) (m : Str → Option Value) : Str → Option Value :=
  fun y => if y = Str.ofString "rows" then some ro else if y = Str.ofString "size" then some si else m y
theorem news_ne {h₀ h : Heap} {L a b : Addr} {oa ob : Obj} {news : List (Addr × Obj)} (N : News h₀ L h news) (ha : (a, oa) ∈ news) (hb : (b, ob) ∈ news) (he : oa ≠ ob) : a ≠ b := by
  intro e
  have h1 := (N _ ha).1
  have h2 := (N _ hb).1
  dsimp only at h1 h2
  rw [e, h2] at h1
  exact he (Option.some.inj h1).symm
noncomputable abbrev mD (d : Int) (td : Tok) (m : Str → Option Value) : Str → Option Value :=
  fun y => if y = Str.ofString "depth" then some (.int d td) else m y
section
variable {M : Model} {A : Around} {E : Value → Shared → Prop} {env : Env} {s : Shared} {h₀ : Heap} {L : Addr} {m : Str → Option Value} {Q : Flow → Shared → Prop}
end
noncomputable abbrev pg1 (v : Str) : Str := strF [pairF (Str.ofString "Nest") v]
noncomputable def page2F (v : Str) : Str := Str.ofString "" ++ pg1 (fmtF (Str.ofString "k-1") v) ++ pg1 (fmtF (Str.ofString "k-1") (fmtF (Str.ofString "k-1") v))
noncomputable def page3F (v : Str) : Str := Str.ofString "" ++ pg1 (fmtF (Str.ofString "k-1") v) ++ pg1 (fmtF (Str.ofString "k-1") (fmtF (Str.ofString "k-1") v)) ++ pg1 (fmtF (Str.ofString "k-1") (fmtF (Str.ofString "k-1") (fmtF (Str.ofString "k-1") v)))
noncomputable abbrev mE (p : Str) (tr : Tok) (m : Str → Option Value) : Str → Option Value :=
  fun y => if y = Str.ofString "rest" then some (.str p tr) else m y
section
variable {M : Model} {A : Around} {E : Value → Shared → Prop} {env : Env} {s : Shared} {h₀ : Heap} {L : Addr} {m : Str → Option Value} {Q : Flow → Shared → Prop}
end
noncomputable abbrev m5 (ba en li re : Value) (m : Str → Option Value) : Str → Option Value :=
  fun y => if y = Str.ofString "bare" then some ba else if y = Str.ofString "end" then some en else if y = Str.ofString "rest" then some re else if y = Str.ofString "line" then some li else m y
noncomputable def JN (L R : Addr) (rv : List Value) (n : Nat) (w2 w1 : Obj) : Nat → List (Addr × Obj) → Prop
  | 0, news => news = [(R, W.listOf rv.toArray n), (242, tabObj #[]), (L + 1 + 1 + 1, w2), (L + 1 + 1, w1)]
  | _ + 1, news => ∃ c' oc vs0 t0 oG oL vG vL, news = [(R, W.listOf rv.toArray n), (c', oc), (242, tabObj #[rawInt 152, rawInt 29, .ref c']), (L + 1 + 1 + 1, oG), (L + 1 + 1, oL)] ∧ oc.data = .fields vs0 ∧ vs0[1]? = some (.str (Str.ofString "_law_parted" ++ Str.ofString ".<locals>." ++ Str.ofString "<lambda>") t0) ∧ oG.data = .cell (some vG) ∧ oL.data = .cell (some vL)
noncomputable def restJ (c : Str) : Str := pairF (Str.ofString "Nest") (textL 2 c) ++ Str.ofString "\r\n\r\n" ++ pairF (Str.ofString "Nest") (textL 3 c)
noncomputable def pI2 (c : Str) : Nat → Str
  | 0 => page2F c
  | 1 => pairF (Str.ofString "Nest") (textL 2 c)
  | _ => Str.ofString ""
noncomputable def pI3 (c : Str) : Nat → Str
  | 0 => page3F c
  | 1 => restJ c
  | 2 => pairF (Str.ofString "Nest") (textL 3 c)
  | _ => Str.ofString ""
theorem data_ne {h₀ h : Heap} {L a b : Addr} {oa ob : Obj} {news : List (Addr × Obj)} {da db : Data} (N : News h₀ L h news) (ha : (a, oa) ∈ news) (hb : (b, ob) ∈ news) (ea : oa.data = da) (eb : ob.data = db) (he : da ≠ db) : a ≠ b :=
  news_ne N ha hb fun e => he (by rw [← ea, ← eb, e])
theorem jn0_ne {h₀ h : Heap} {L R I : Addr} {rv : List Value} {n : Nat} {oI w2 w1 : Obj} {v2 v1 : Option Value} (N : News h₀ L h [(I, oI), (R, W.listOf rv.toArray n), (242, tabObj #[]), (L + 1 + 1 + 1, w2), (L + 1 + 1, w1)]) (d2 : w2.data = .cell v2) (d1 : w1.data = .cell v1) :
    @Ne Nat R (L + 1 + 1 + 1) ∧ @Ne Nat R (L + 1 + 1) ∧ @Ne Nat R 242 :=
  ⟨data_ne N (.tail _ (.head _)) (.tail _ (.tail _ (.tail _ (.head _)))) rfl d2 (by simp), data_ne N (.tail _ (.head _)) (.tail _ (.tail _ (.tail _ (.tail _ (.head _))))) rfl d1 (by simp),
    data_ne N (.tail _ (.head _)) (.tail _ (.tail _ (.head _))) rfl rfl (by simp)⟩
theorem jn1_ne {h₀ h : Heap} {L R I c' : Addr} {rv : List Value} {n : Nat} {oI oc oG oL : Obj} {vs0 : Array Value} {vG vL : Option Value} {tb : Obj} (N : News h₀ L h [(I, oI), (R, W.listOf rv.toArray n), (c', oc), (242, tb), (L + 1 + 1 + 1, oG), (L + 1 + 1, oL)]) (hc : oc.data = .fields vs0) (d2 : oG.data = .cell vG) (d1 : oL.data = .cell vL) :
    @Ne Nat R (L + 1 + 1 + 1) ∧ @Ne Nat R (L + 1 + 1) ∧ @Ne Nat c' (L + 1 + 1 + 1) ∧ @Ne Nat c' (L + 1 + 1) ∧ @Ne Nat R c' :=
  ⟨data_ne N (.tail _ (.head _)) (.tail _ (.tail _ (.tail _ (.tail _ (.head _))))) rfl d2 (by simp), data_ne N (.tail _ (.head _)) (.tail _ (.tail _ (.tail _ (.tail _ (.tail _ (.head _)))))) rfl d1 (by simp),
    data_ne N (.tail _ (.tail _ (.head _))) (.tail _ (.tail _ (.tail _ (.tail _ (.head _))))) hc d2 (by simp), data_ne N (.tail _ (.tail _ (.head _))) (.tail _ (.tail _ (.tail _ (.tail _ (.tail _ (.head _)))))) hc d1 (by simp),
    data_ne N (.tail _ (.head _)) (.tail _ (.tail _ (.head _))) rfl hc (by simp)⟩
theorem list_ne_tab {h₀ h : Heap} {L a b : Addr} {vs : List Value} {ps : Array Value} {news : List (Addr × Obj)} (N : News h₀ L h news) (ha : (a, lst vs) ∈ news) (hb : (b, tabObj ps) ∈ news) : a ≠ b := data_ne N ha hb rfl rfl (by simp)
end Mine
end
section
open PySem PySem.W PySem.Calls PyProof.Rows PySem.Spec PyProof.Rows.LCg PyProof.Rows.LCt PySem.SeqAt
set_option Elab.async false
set_option maxRecDepth 100000
set_option maxHeartbeats 4000000
namespace Mine
theorem anew_CmpS : True := by
  w_top off
  exact True.intro
mutual
theorem eqv_self : ∀ d : PyData, d.canLay0 = true → PyData.eqv d d = true
  | .none, _ => by simp [PyData.eqv]
  | .bool _, _ => by simp [PyData.eqv]
  | .int _, _ => by simp [PyData.eqv]
  | .str _, _ => by simp [PyData.eqv]
  | .list xs, h => by
    simp only [PyData.eqv]; exact eqvAll_self xs (by simpa [PyData.canLay0] using h)
  | .tuple xs, h => by
    simp only [PyData.eqv]; exact eqvAll_self xs (by simpa [PyData.canLay0] using h)
  | .dict _, h => by simp [PyData.canLay0] at h
theorem eqvAll_self : ∀ ds : List PyData, PyData.canLayAll0 ds = true → PyData.eqvAll ds ds = true
  | [], _ => by simp [PyData.eqvAll]
  | d :: ds, h => by
    simp only [PyData.canLayAll0, Bool.and_eq_true] at h
    simp [PyData.eqvAll, eqv_self d h.1, eqvAll_self ds h.2]
end
theorem reads_strs {h : Heap} : ∀ {vs : List Value} {xs : List Str}, StrsAre vs xs → ReadsAll h vs (xs.map PyData.str) []
  | _, _, .nil => .nil
  | _, _, .cons y t r => by
    have := ReadsAll.cons (Reads.str (h := h) y t) (reads_strs (h := h) r)
    simpa using this
noncomputable def okT (x : Str) : Prop := ∀ c ∈ x.cps.toList, c < 0x110000
theorem okT_of {x : Str} (h : okT x) : PyData.strOk x = true := by
  unfold PyData.strOk
  rw [← Array.all_toList, List.all_eq_true]
  intro c hc
  exact decide_eq_true (h c hc)
theorem lay_strs {xs : List Str} (h : ∀ x ∈ xs, okT x) : PyData.canLayAll0 (xs.map PyData.str) = true := by
  induction xs with
  | nil => simp [PyData.canLayAll0]
  | cons x r ih =>
    simp only [List.map_cons, PyData.canLayAll0, PyData.canLay0, Bool.and_eq_true]
    exact ⟨okT_of (h x (.head _)), ih fun y hy => h y (.tail _ hy)⟩
theorem depth_strs : ∀ xs : List Str, PyData.depthAll (xs.map PyData.str) = 0
  | [] => by simp [PyData.depthAll]
  | x :: r => by simp [PyData.depthAll, PyData.depth, depth_strs r]
theorem shaped_list {xs : List Str} (h : ∀ x ∈ xs, okT x) : shaped (.list (xs.map PyData.str)) = true := by
  simp [shaped, PyData.canLay0, PyData.depth, lay_strs h, depth_strs]
theorem shaped_tuple {xs : List Str} (h : ∀ x ∈ xs, okT x) : shaped (.tuple (xs.map PyData.str)) = true := by
  simp [shaped, PyData.canLay0, PyData.depth, lay_strs h, depth_strs]
noncomputable def pairsD (ps : List (Str × Str)) : List PyData := ps.map fun ab => .tuple [.str ab.1, .str ab.2]
theorem shaped_pairs {ps : List (Str × Str)} (h : ∀ ab ∈ ps, okT ab.1 ∧ okT ab.2) : shaped (.list (pairsD ps)) = true := by
  have h1 : PyData.canLayAll0 (pairsD ps) = true ∧ PyData.depthAll (pairsD ps) ≤ 1 := by
    induction ps with
    | nil => simp [pairsD, PyData.canLayAll0, PyData.depthAll]
    | cons p r ih =>
      have := ih fun ab hab => h ab (.tail _ hab)
      have hp := h p (.head _)
      have e : pairsD (p :: r) = .tuple [.str p.1, .str p.2] :: pairsD r := rfl
      rw [e]
      simp [PyData.canLayAll0, PyData.canLay0, PyData.depthAll, PyData.depth, okT_of hp.1, okT_of hp.2, this.1]
      have := this.2
      omega
  have h2 : PyData.depthAll (pairsD ps) + 1 ≤ 64 := by have := h1.2; omega
  simp only [shaped, PyData.canLay0, PyData.depth, h1.1, Bool.true_and]
  exact decide_eq_true (by omega)
theorem canLay_shaped {d : PyData} (h : shaped d = true) : d.canLay0 = true := canLay_of_shaped h
section
variable {prog : Program} {w : World} {A : Around} {E : Value → Shared → Prop} {s : Shared} {h₀ : Heap} {L a b : Addr} {news : List (Addr × Obj)} {Q : Value → Shared → Prop} {d : PyData} {as bs : List Addr} {vs ws : List Value} {n k : Nat} {xs : List Str}
theorem ne_alike (ra : Reads s.heap (.ref a) d as) (rb : Reads s.heap (.ref b) d bs) (hd : shaped d = true) (hu : A.units + 64 < cLine) (h : Q (.bool false) s) : wpAny (model prog w) A (compareOp .NotEq (.ref a) (.ref b)) Q E s :=
  ne_dataH ra rb hd hd hu (by rw [eqv_self d (canLay_shaped hd)]; exact h)
theorem eq_nil (N : News h₀ L s.heap news) (ha : (a, lst vs) ∈ news) (hv : StrsAre vs xs) (hb : (b, W.listOf #[] n) ∈ news) (hx : ∀ x ∈ xs, okT x) (hu : A.units + 64 < cLine) (h : Q (.bool (decide (xs = []))) s) :
    wpAny (model prog w) A (compareOp .Eq (.ref a) (.ref b)) Q E s := by
  refine eq_dataH (reads_list_at (N.get ha) rfl rfl (by simpa using reads_strs hv)) (reads_list_at (N.get hb) rfl rfl .nil) (shaped_list hx) (by decide) hu ?_
  cases xs with
  | nil => simpa [PyData.eqv, PyData.eqvAll] using h
  | cons x r => simpa [PyData.eqv, PyData.eqvAll] using h
end
theorem bads_okT {t : Str} (h : TextOk t) : ∀ x ∈ bads t, okT x := by
  intro x hx c hc
  rw [bads_list] at hx
  obtain ⟨k, hk, rfl⟩ := List.mem_map.mp hx
  have h1 : c = k := by simpa using hc
  have := h.small k (List.mem_filter.mp hk).1
  omega
section
variable {prog : Program} {w : World} {A : Around} {E : Value → Shared → Prop} {s : Shared} {h₀ : Heap} {L a b : Addr} {news : List (Addr × Obj)} {Q : Value → Shared → Prop} {vs : List Value} {n : Nat} {t : Str}
theorem eq_nil_yes (hb0 : bads t = []) (N : News h₀ L s.heap news) (hv : StrsAre vs (bads t)) (ha : (a, lst vs) ∈ news) (hb : (b, W.listOf #[] n) ∈ news) (hu : A.units + 64 < cLine) (h : Q (.bool true) s) :
    wpAny (model prog w) A (compareOp .Eq (.ref a) (.ref b)) Q E s :=
  eq_nil N ha hv hb (by rw [hb0]; exact fun _ q => nomatch q) hu (by rw [decide_eq_true hb0]; exact h)
theorem eq_nil_no (hb0 : ¬ bads t = []) (hT : TextOk t) (N : News h₀ L s.heap news) (hv : StrsAre vs (bads t)) (ha : (a, lst vs) ∈ news) (hb : (b, W.listOf #[] n) ∈ news) (hu : A.units + 64 < cLine) (h : Q (.bool false) s) :
    wpAny (model prog w) A (compareOp .Eq (.ref a) (.ref b)) Q E s :=
  eq_nil N ha hv hb (bads_okT hT) hu (by rw [decide_eq_false hb0]; exact h)
end
noncomputable def HoldNe : Prop := True
theorem ne_str_of {prog : Program} {w : World} {A : Around} {E : Value → Shared → Prop} {s : Shared} {x y : Str} {t u : Tok} {Q : Value → Shared → Prop} (e : x = y) (h : Q (.bool false) s) : wpAny (model prog w) A (compareOp .NotEq (.str x t) (.str y u)) Q E s :=
  ne_str (by subst e; simpa using h)
theorem okT_of_list {x : Str} {l : List Nat} (e : x.cps.toList = l) (h : ∀ c ∈ l, c < 0x110000) : okT x := by
  intro c hc; rw [e] at hc; exact h c hc
theorem okT_text {t : Str} (h : TextOk t) : okT t := fun c hc => by have := h.small c hc; omega
theorem okT_nest : okT (Str.ofString "Nest") := okT_of_list rfl (by decide +kernel)
theorem okT_nest' : okT (Str.ofString "nest") := okT_of_list rfl (by decide +kernel)
theorem okT_empty : okT (Str.ofString "") := okT_of_list rfl (by decide +kernel)
theorem okT_app {a b : Str} (ha : okT a) (hb : okT b) : okT (a ++ b) := by
  intro c hc
  rw [app_list] at hc
  rcases List.mem_append.mp hc with h | h
  · exact ha c h
  · exact hb c h
theorem okT_val (t : Str) : okT (valF (plainF t)) := by
  refine okT_of_list (val_list _) fun c hc => ?_
  simp only [List.mem_append] at hc
  rcases hc with (q | q) | q
  · revert q c; decide
  · rw [plain_a t c q]; decide
  · revert q c; decide
theorem okT_fmt {t : Str} (h : okT t) : okT (fmtF (Str.ofString "k-1") t) := by
  refine okT_of_list (fmt_toList t) fun c hc => ?_
  rw [escF_flat] at hc
  simp only [List.mem_append, List.mem_flatMap] at hc
  rcases hc with (q | ⟨k, hk, q⟩) | q
  · revert q c; decide
  · unfold escC at q
    split at q
    · revert q c; decide
    · split at q
      · revert q c; decide
      · have : c = k := by simpa using q
        rw [this]; exact h k hk
  · revert q c; decide
theorem okT_crn : okT (Str.ofString "Nest: ") ∧ okT (Str.ofString "\r\nnest: ") := ⟨okT_of_list rfl (by decide +kernel), okT_of_list rfl (by decide +kernel)⟩
section
variable {h₀ h : Heap} {L D T T2 : Addr} {news : List (Addr × Obj)} {a b c d : Str} {ta tb tc td : Tok} {n : Nat}
theorem reads_one (N : News h₀ L h news) (hD : (D, W.listOf #[.ref T] n) ∈ news) (hT : (T, tupObj [.str a ta, .str b tb]) ∈ news) : ∃ as, Reads h (.ref D) (.list (pairsD [(a, b)])) as :=
  ⟨_, reads_list_at (N.get hD) rfl rfl (.cons (reads_tuple_at (N.get hT) rfl rfl (.cons (.str _ _) (.cons (.str _ _) .nil))) .nil)⟩
theorem reads_two (N : News h₀ L h news) (hD : (D, W.listOf #[.ref T, .ref T2] n) ∈ news) (hT : (T, tupObj [.str a ta, .str b tb]) ∈ news) (hT2 : (T2, tupObj [.str c tc, .str d td]) ∈ news) : ∃ as, Reads h (.ref D) (.list (pairsD [(a, b), (c, d)])) as :=
  ⟨_, reads_list_at (N.get hD) rfl rfl (.cons (reads_tuple_at (N.get hT) rfl rfl (.cons (.str _ _) (.cons (.str _ _) .nil))) (.cons (reads_tuple_at (N.get hT2) rfl rfl (.cons (.str _ _) (.cons (.str _ _) .nil))) .nil))⟩
theorem reads_tup (N : News h₀ L h news) (hT : (T, tupObj [.str a ta, .str b tb]) ∈ news) : Reads h (.ref T) (.tuple ([a, b].map PyData.str)) [] :=
  reads_tuple_at (N.get hT) rfl rfl (.cons (.str _ _) (.cons (.str _ _) .nil))
end
section
variable {prog : Program} {w : World} {A : Around} {E : Value → Shared → Prop} {s : Shared} {h₀ : Heap} {L D D2 T T2 T3 T4 : Addr} {news : List (Addr × Obj)} {Q : Value → Shared → Prop} {a b c d : Str} {ta tb tc td ua ub uc ud : Tok} {n k : Nat}
theorem ne_two (N : News h₀ L s.heap news) (ha : okT a) (hb : okT b) (hc : okT c) (hd : okT d) (hD : (D, W.listOf #[.ref T, .ref T2] n) ∈ news) (hT : (T, tupObj [.str a ta, .str b tb]) ∈ news) (hT2 : (T2, tupObj [.str c tc, .str d td]) ∈ news)
    (hD2 : (D2, W.listOf #[.ref T3, .ref T4] k) ∈ news) (hT3 : (T3, tupObj [.str a ua, .str b ub]) ∈ news) (hT4 : (T4, tupObj [.str c uc, .str d ud]) ∈ news) (hu : A.units + 64 < cLine) (h : Q (.bool false) s) :
    wpAny (model prog w) A (compareOp .NotEq (.ref D) (.ref D2)) Q E s := by
  obtain ⟨as, ra⟩ := reads_two N hD hT hT2
  obtain ⟨bs, rb⟩ := reads_two N hD2 hT3 hT4
  refine ne_alike ra rb (shaped_pairs ?_) hu h
  intro ab hab
  simp only [List.mem_cons, List.not_mem_nil, or_false] at hab
  rcases hab with rfl | rfl
  · exact ⟨ha, hb⟩
  · exact ⟨hc, hd⟩
theorem ne_one (N : News h₀ L s.heap news) (ha : okT a) (hb : okT b) (hD : (D, W.listOf #[.ref T] n) ∈ news) (hT : (T, tupObj [.str a ta, .str b tb]) ∈ news)
    (hD2 : (D2, W.listOf #[.ref T3] k) ∈ news) (hT3 : (T3, tupObj [.str a ua, .str b ub]) ∈ news) (hu : A.units + 64 < cLine) (h : Q (.bool false) s) :
    wpAny (model prog w) A (compareOp .NotEq (.ref D) (.ref D2)) Q E s := by
  obtain ⟨as, ra⟩ := reads_one N hD hT
  obtain ⟨bs, rb⟩ := reads_one N hD2 hT3
  refine ne_alike ra rb (shaped_pairs ?_) hu h
  intro ab hab
  simp only [List.mem_cons, List.not_mem_nil, or_false] at hab
  cases hab
  exact ⟨ha, hb⟩
theorem ne_none (N : News h₀ L s.heap news) (hD : (D, W.listOf #[] n) ∈ news) (hD2 : (D2, W.listOf #[] k) ∈ news) (hu : A.units + 64 < cLine) (h : Q (.bool false) s) :
    wpAny (model prog w) A (compareOp .NotEq (.ref D) (.ref D2)) Q E s :=
  ne_alike (d := .list []) (reads_list_at (N.get hD) rfl rfl .nil) (reads_list_at (N.get hD2) rfl rfl .nil) (by decide) hu h
theorem ne_tup (N : News h₀ L s.heap news) (ha : okT a) (hb : okT b) (hT : (T, tupObj [.str a ta, .str b tb]) ∈ news) (hT3 : (T3, tupObj [.str a ua, .str b ub]) ∈ news) (hu : A.units + 64 < cLine) (h : Q (.bool false) s) :
    wpAny (model prog w) A (compareOp .NotEq (.ref T) (.ref T3)) Q E s := by
  refine ne_alike (reads_tup N hT) (reads_tup N hT3) (shaped_tuple ?_) hu h
  intro x hx
  simp only [List.mem_cons, List.not_mem_nil, or_false] at hx
  rcases hx with rfl | rfl
  · exact ha
  · exact hb
end
theorem append_off {prog : Program} {w : World} {A : Around} {E : Value → Shared → Prop} {s : Shared} {h₀ : Heap} {L D : Addr} {m : Str → Option Value} {r : List (Addr × Obj)} {its : List Value} {n : Nat} {x : Value} {Q : Value → Shared → Prop} (F : Fr h₀ L s.heap m) (N : News h₀ L s.heap ((D, W.listOf its.toArray n) :: r)) (ho : ∀ q ∈ r, q.1 ≠ D) (hsz : its.length ≤ 100)
    (h : ∀ h', Fr h₀ L h' m → News h₀ L h' ((D, W.listOf (its ++ [x]).toArray (n + 1)) :: r) → Q .none { s with heap := h' }) : wpAny (model prog w) A (call (.builtin "list.append") [.ref D, x]) Q E s :=
  append_K F N (.head ho) (fun h' F' N' => h h' F' (by simpa using N')) (by rw [List.size_toArray, sizeLine_eq]; omega)
theorem off_tab {x d l D : Addr} {o1 o2 o3 : Obj} {r : List (Addr × Obj)} (ho : @LT.lt Nat _ x D ∧ @LT.lt Nat _ d D ∧ @LT.lt Nat _ l D ∧ ∀ q ∈ r, @LT.lt Nat _ q.1 D) : ∀ q ∈ (x, o1) :: (d, o2) :: (l, o3) :: r, q.1 ≠ D := by
  intro q hq
  simp only [List.mem_cons] at hq
  rcases hq with rfl | rfl | rfl | hq
  · exact Nat.ne_of_lt ho.1
  · exact Nat.ne_of_lt ho.2.1
  · exact Nat.ne_of_lt ho.2.2.1
  · exact Nat.ne_of_lt (ho.2.2.2 q hq)
theorem wr1_len {t : Str} (h : TextOk t) : (wrF 1 t).length ≤ 40 := by
  rw [wr1]
  have := fmtF_short t
  have := h.len
  omega
theorem heads2 {T T2 : Addr} {a b c d : Str} {ta tb tc td : Tok} {r : List (Addr × Obj)} (ha : a.length ≤ 10) (hb : b.length ≤ 1000) (hc : c.length ≤ 10) (hd : d.length ≤ 1000) :
    HeadsAre ((T, tupObj [.str a ta, .str b tb]) :: (T2, tupObj [.str c tc, .str d td]) :: r) [.ref T, .ref T2] [pairF a b, pairF c d] :=
  .cons (.head _) ha hb (.cons (.tail _ (.head _)) hc hd .nil)
theorem heads1 {T : Addr} {a b : Str} {ta tb : Tok} {r : List (Addr × Obj)} (ha : a.length ≤ 10) (hb : b.length ≤ 1000) :
    HeadsAre ((T, tupObj [.str a ta, .str b tb]) :: r) [.ref T] [pairF a b] :=
  .cons (.head _) ha hb .nil
theorem news_dup {h₀ h : Heap} {L : Addr} {whole : List (Addr × Obj)} (front : List (Addr × Obj)) (N : News h₀ L h whole) (hf : ∀ q ∈ front, q ∈ whole) : News h₀ L h (front ++ whole) := fun q hq => by
  rcases List.mem_append.mp hq with h | h
  · exact N q (hf q h)
  · exact N q h
theorem in_keeps {K : Frag} {h₀ h : Heap} {L : Addr} {m : Str → Option Value} (X : K.In h₀) (F : Fr h₀ L h m) : K.In h := X.keeps F.keep
noncomputable def firstC (t : Str) : Nat := (Txt.charAt t 0).getD 0
theorem item_one (t : Str) : Txt.item t 0 = { cps := #[firstC t] } := rfl
theorem item_bad1 {t : Str} (h : (Txt.item t 0).cps.toList < (Str.ofString " ").cps.toList) : hasBadN (Txt.item t 0) := by
  refine ⟨0, Nat.one_pos, ?_⟩
  have h1 : firstC t < 32 := (one_lt _).mp h
  show badN (firstC t) = true
  simp [badN, h1]
theorem item_bad2 {t : Str} (h : (Txt.item t 0 != Str.ofString "\x7f") = false) : hasBadN (Txt.item t 0) := by
  refine ⟨0, Nat.one_pos, ?_⟩
  have h1 : firstC t = 127 := (one_eq _ 127 _ del_str).mp (by rw [bne] at h; simpa [item_one] using h)
  show badN (firstC t) = true
  simp [badN, h1]
theorem item_good {t : Str} (h : ¬ (Txt.item t 0).cps.toList < (Str.ofString " ").cps.toList) (h2 : (Txt.item t 0 != Str.ofString "\x7f") = true) : goodN (Txt.item t 0) := by
  have h1 : ¬ firstC t < 32 := fun q => h ((one_lt _).mpr q)
  have h3 : firstC t ≠ 127 := fun e => by
    rw [item_one, bne, (one_eq _ 127 _ del_str).mpr e] at h2; cases h2
  intro i hi
  have : i = 0 := by
    have : i < 1 := hi
    omega
  subst this
  show badN (firstC t) = false
  simp [badN, h1, h3]
theorem okT_item {t : Str} (h : TextOk t) : okT (Txt.item t 0) := by
  intro c hc
  have h1 : c = firstC t := by simpa [item_one] using hc
  have h2 : firstC t ∈ t.cps.toList := by
    obtain ⟨pre, e, _⟩ := h.tail
    have hl := h.len
    rw [len_list] at hl
    have hne : ∃ a r, t.cps.toList = a :: r := by
      cases hh : t.cps.toList with
      | nil => rw [hh] at hl; simp at hl
      | cons a r => exact ⟨a, r, rfl⟩
    obtain ⟨a, r, hr⟩ := hne
    have : t = (⟨(a :: r).toArray⟩ : Str) ++ Str.empty := by
      apply str_ext; rw [app_list, hr, show Str.empty.cps.toList = [] from by decide +kernel, List.append_nil]
    have h3 := item_zero_left a r Str.empty
    rw [← this, item_one] at h3
    injection h3 with h3
    have h4 : firstC t = a := by simpa using h3
    rw [h4, hr]; exact .head _
  have := h.small _ h2
  omega
theorem fmt_a : fmtF (Str.ofString "k-1") (Str.ofString "a") = Str.ofString "k-1=\"a\"" := by
  apply str_ext
  rw [fmt_toList, escF_flat]
  decide +kernel
theorem okT_k1a : okT (Str.ofString "k-1=\"a\"") := okT_of_list rfl (by decide +kernel)
theorem flat2_len' : ∀ l : List (Str × Str), (flat2 l).length = 2 * l.length
  | [] => rfl
  | (_, _) :: r => by
    show (flat2 r).length + 1 + 1 = 2 * (r.length + 1)
    rw [flat2_len' r]; omega
theorem flat2_app : ∀ (a b : List (Str × Str)), flat2 (a ++ b) = flat2 a ++ flat2 b
  | [], _ => rfl
  | (x, y) :: r, b => by
    show x :: y :: flat2 (r ++ b) = x :: y :: (flat2 r ++ flat2 b)
    rw [flat2_app r b]
theorem outs_take {t z : Str} {i : Nat} (hz : (bads t)[i]? = some z) : flat2 ((outs t).take (i + 1)) = flat2 ((outs t).take i) ++ [z, Str.ofString ""] := by
  unfold outs
  rw [List.take_add_one, List.getElem?_map, hz, flat2_app]
  rfl
theorem outs_len (t : Str) : (outs t).length = (bads t).length := by simp [outs]
theorem outs_ok (t : Str) : ∀ ab ∈ outs t, okPair ab := by
  intro ab h
  obtain ⟨z, hz, rfl⟩ := List.mem_map.mp h
  rw [bads_list] at hz
  obtain ⟨c, _, rfl⟩ := List.mem_map.mp hz
  exact ⟨Nat.one_ne_zero, Nat.zero_le _, Nat.le_of_ble_eq_true rfl⟩
theorem outs_vals {t : Str} {vals : List Value} (hT : TextOk t) (h : StrsAre vals (flat2 (outs t))) : vals.length ≤ 12 := by
  have h1 := h.length
  rw [flat2_len', outs_len] at h1
  have := bads_len hT
  omega
theorem outs_sz {t : Str} {vals : List Value} (hT : TextOk t) (h : StrsAre vals (flat2 (outs t))) : vals.toArray.size ≤ sizeLine := by
  have := outs_vals hT h
  rw [List.size_toArray, sizeLine_eq]; omega
section
variable {prog : Program} {w : World} {A : Around} {E : Value → Shared → Prop} {s : Shared} {t : Tok} {Q : Value → Shared → Prop}
theorem join_clean {D : Addr} {ys : List Value} {text : Str} (hT : TextOk text) (hy : StrsAre ys ((signsOf text).filter fun z => !decide (z ∈ bads text))) (hl : s.heap.IsList D ys.toArray)
    (hq : ∀ t' k, s.toks ≤ k → Q (.str (cleanF text) t') { s with toks := k }) :
    wpAny (model prog w) A (call (.builtin "str.join") [.str (Str.ofString "") t, .ref D]) Q E s := by
  have hn : ((signsOf text).filter fun z => !decide (z ∈ bads text)).length ≤ 14 := by
    have h1 := List.length_filter_le (fun z => !decide (z ∈ bads text)) (signsOf text)
    rw [signsOf_length] at h1
    have := hT.len; omega
  have hs : (((signsOf text).filter fun z => !decide (z ∈ bads text)).map (·.length)).sum ≤ 14 := by
    have h1 : ∀ y ∈ (signsOf text).filter fun z => !decide (z ∈ bads text), y.length ≤ 1 := by
      intro y hy
      obtain ⟨c, _, rfl⟩ := List.mem_map.mp (List.mem_filter.mp hy).1
      exact Nat.le_refl 1
    have := sum_le h1
    omega
  refine my_join hl hy ?_ fun t' k hk => by rw [clean_join]; exact hq t' k hk
  have : (Str.ofString "").length = 0 := by decide +kernel
  rw [this]; omega
end
theorem any_mem (l : List Str) (z : Str) : (l.any fun x => x == z) = decide (z ∈ l) := by
  induction l with
  | nil => simp
  | cons a r ih =>
    rw [List.any_cons, ih]
    by_cases h : a = z
    · simp [h]
    · have h2 : ¬ z = a := fun e => h e.symm
      simp [h, h2]
theorem filter_mem {l : List Str} {xs : List Str} : (xs.filter fun z => !(l.any fun x => x == z)) = xs.filter fun z => !decide (z ∈ l) := by
  congr 1
  funext z
  rw [any_mem]
theorem lv_step0 : (lv 0).flatMap g2 = lv 1 := by decide +kernel
theorem lv_step1 : (lv 1).flatMap g2 = lv 2 := by decide +kernel
theorem lv_step2 : (lv 2).flatMap g2 = lv 3 := by decide +kernel
theorem lv_step3 : (lv 3).flatMap g2 = lv 4 := by decide +kernel
theorem strs_two {ys : List Value} {a b : Str} (h : StrsAre ys [a, b]) : ∃ ta tb, ys = [.str a ta, .str b tb] := by
  obtain ⟨ta, _, e, h⟩ := strs_inv h
  obtain ⟨tb, _, e2, h⟩ := strs_inv h
  exact ⟨ta, tb, by rw [e, e2, strs_nil h]⟩
theorem strs_four {ys : List Value} {a b c d : Str} (h : StrsAre ys [a, b, c, d]) : ∃ ta tb tc td, ys = [.str a ta, .str b tb, .str c tc, .str d td] := by
  obtain ⟨ta, _, e, h⟩ := strs_inv h
  obtain ⟨tb, _, e2, h⟩ := strs_inv h
  obtain ⟨tc, td, e3⟩ := strs_two h
  exact ⟨ta, tb, tc, td, by rw [e, e2, e3]⟩
theorem strs_eight {ys : List Value} {a b c d a' b' c' d' : Str} (h : StrsAre ys [a, b, c, d, a', b', c', d']) : ∃ ta tb tc td ta' tb' tc' td', ys = [.str a ta, .str b tb, .str c tc, .str d td, .str a' ta', .str b' tb', .str c' tc', .str d' td'] := by
  obtain ⟨ta, _, e, h⟩ := strs_inv h
  obtain ⟨tb, _, e2, h⟩ := strs_inv h
  obtain ⟨tc, _, e3, h⟩ := strs_inv h
  obtain ⟨td, _, e4, h⟩ := strs_inv h
  obtain ⟨ta', tb', tc', td', e5⟩ := strs_four h
  exact ⟨ta, tb, tc, td, ta', tb', tc', td', by rw [e, e2, e3, e4, e5]⟩
theorem g2_take {xs : List Str} {z : Str} {i : Nat} (hz : xs[i]? = some z) : (xs.take (i + 1)).flatMap g2 = (xs.take i).flatMap g2 ++ g2 z := by
  rw [List.take_add_one, hz, List.flatMap_append]
  simp
section
variable {prog : Program} {w : World} {A : Around} {s : Shared} {h₀ : Heap} {L : Addr} {m : Str → Option Value} {env : Env}
theorem outPost_str {t2 : Str} {tt : Tok} {elt : Expr} {x y : Str} {scope : Scope} {cl : List (Str × Addr)} {v : Value} {I C D : Addr} {oI oC : Obj} {ys : List Value} {news : List (Addr × Obj)} {K : List Value → Prop} {h' : Heap} {tk' : Nat} {l : List Str} (g : Str → Str)
    (hh : A.handled = none) (hn : t2.cps.size ≤ 1000) (F : Fr h₀ L h' m) (N : News h₀ L h' ((I, oI) :: (C, oC) :: (D, lst ys) :: news)) (ha : StrsAre ys l) (hK : ∀ zs, StrsAre zs (l ++ (signsOf t2).map g) → K zs)
    (turn : ∀ z u I2 oI2 oC2 m₂ ys2 h tk (E' : Value → Shared → Prop), z ∈ signsOf t2 → NsObj oC2 m₂ → m₂ x = some v → m₂ y = some (.str z u) → Fr h₀ L h m → News h₀ L h ((I2, oI2) :: (C, oC2) :: (D, lst ys2) :: (I, oI) :: news) →
      wpAny (model prog w) A (eval elt (compEnvC scope cl C env)) (InPost h₀ L m s ((I2, oI2) :: (C, oC2) :: (D, lst ys2) :: (I, oI) :: news) (fun r => IsText (g z) r)) E' { s with heap := h, toks := tk }) :
    OutPost prog w A h₀ L m env elt x y scope cl s v I oI C oC D ys news K (.str t2 tt) { s with heap := h', toks := tk' } := by
  refine ⟨h', tk', [], t2.cps.size, SignAt t2, fun j zs => StrsAre zs (l ++ ((signsOf t2).take j).map g), rfl, F, N, (fun _ h => nomatch h), inSrc_str hh, by omega, by simpa using ha, fun zs hz => ?_, ?_⟩
  · have e : (signsOf t2).take t2.cps.size = signsOf t2 := List.take_of_length_le (Nat.le_of_eq (signsOf_length t2))
    dsimp only at hz
    rw [e] at hz
    exact hK zs hz
  · intro j u I2 oI2 oC2 m₂ ys2 h tk E' hj hP hA hC hx hu F2 N2
    obtain ⟨z, tz, hz, rfl⟩ := signAt_of j u hP
    refine wpAny_mono (turn z tz I2 oI2 oC2 m₂ ys2 h tk E' (List.mem_of_getElem? hz) hC hx hu F2 N2) (fun r s₃ hq => ?_) fun _ _ e => e
    obtain ⟨h3, tk3, rfl, F3, N3, tr, rfl⟩ := hq
    refine ⟨h3, tk3, rfl, F3, N3, ?_⟩
    dsimp only
    rw [List.take_add_one, hz, List.map_append, ← List.append_assoc]
    exact strsAre_snoc hA
end
theorem lv_len0 : ∀ z ∈ lv 0, z.length ≤ 4 := by decide +kernel
theorem lv_len1 : ∀ z ∈ lv 1, z.length ≤ 4 := by decide +kernel
theorem lv_len2 : ∀ z ∈ lv 2, z.length ≤ 4 := by decide +kernel
theorem lv_len3 : ∀ z ∈ lv 3, z.length ≤ 4 := by decide +kernel
theorem sign_len {t z : Str} (h : z ∈ signsOf t) : z.length = 1 := by
  obtain ⟨c, _, rfl⟩ := List.mem_map.mp h
  rfl
theorem g2_len (xs : List Str) (i : Nat) : ((xs.take i).flatMap g2).length ≤ 2 * xs.length := by
  have h1 : ∀ l : List Str, (l.flatMap g2).length = 2 * l.length := by
    intro l
    induction l with
    | nil => rfl
    | cons a r ih =>
      rw [List.flatMap_cons, List.length_append, ih]
      have : (g2 a).length = 2 := by
        unfold g2; rw [List.length_map, signsOf_length]; decide +kernel
      rw [this, List.length_cons]; omega
  rw [h1, List.length_take]; omega
theorem fmt_good {t : Str} (h : goodV t) : goodV (fmtF (Str.ofString "k-1") t) := goodV_of fun c hc => by
  rw [fmt_toList, escF_flat] at hc
  simp only [List.mem_append, List.mem_flatMap] at hc
  rcases hc with (q | ⟨k, hk, q⟩) | q
  · revert q c; decide
  · unfold escC at q
    split at q
    · revert q c; decide
    · split at q
      · revert q c; decide
      · have : c = k := by simpa using q
        rw [this]; exact goodV_at h k hk
  · revert q c; decide
end Mine
end
section
open PySem PySem.W PySem.Calls PyProof.Rows PySem.Spec PyProof.Rows.LCg PyProof.Rows.LCt PySem.SeqAt
set_option Elab.async false
set_option maxRecDepth 100000
set_option maxHeartbeats 4000000
namespace Mine
theorem text_good {c : Str} (h : goodV c) : ∀ l, goodV (textL l c)
  | 0 => h
  | l + 1 => fmt_good (text_good h l)
theorem text_line {c : Str} (h : goodV c) (l : Nat) : Line (pairF (Str.ofString "Nest") (textL (l + 1) c)) :=
  line_pair (fmt_free (good_free (text_good h l))) (fmt_last _)
theorem text_len {c : Str} (h : c.length ≤ 14) : (textL 1 c).length ≤ 34 ∧ (textL 2 c).length ≤ 74 ∧ (textL 3 c).length ≤ 154 := by
  have h1 : (textL 1 c).length ≤ 2 * c.length + 6 := fmtF_short c
  have h2 : (textL 2 c).length ≤ 2 * (textL 1 c).length + 6 := fmtF_short _
  have h3 : (textL 3 c).length ≤ 2 * (textL 2 c).length + 6 := fmtF_short _
  have g1 : (textL 1 c).length ≤ 34 := Nat.le_trans h1 (Nat.add_le_add_right (Nat.mul_le_mul_left 2 h) 6)
  have g2 : (textL 2 c).length ≤ 74 := Nat.le_trans h2 (Nat.add_le_add_right (Nat.mul_le_mul_left 2 g1) 6)
  exact ⟨g1, g2, Nat.le_trans h3 (Nat.add_le_add_right (Nat.mul_le_mul_left 2 g2) 6)⟩
theorem empty_list : (Str.ofString "").cps.toList = [] := by decide +kernel
theorem page2_list (c : Str) : (page2F c).cps.toList = (pairF (Str.ofString "Nest") (textL 1 c)).cps.toList ++ [13, 10, 13, 10] ++ (pairF (Str.ofString "Nest") (textL 2 c)).cps.toList ++ [13, 10, 13, 10] := by
  unfold page2F
  rw [app_list, app_list, empty_list, strF1, strF1]
  show [] ++ ((pairF (Str.ofString "Nest") (textL 1 c)).cps.toList ++ _) ++ ((pairF (Str.ofString "Nest") (textL 2 c)).cps.toList ++ _) = _
  simp
theorem crlf2 : (Str.ofString "\r\n\r\n").cps.toList = [13, 10, 13, 10] := by decide +kernel
theorem restJ_list (c : Str) : (restJ c).cps.toList = (pairF (Str.ofString "Nest") (textL 2 c)).cps.toList ++ [13, 10, 13, 10] ++ (pairF (Str.ofString "Nest") (textL 3 c)).cps.toList := by
  unfold restJ
  rw [app_list, app_list, crlf2]
theorem page3_list (c : Str) : (page3F c).cps.toList = (pairF (Str.ofString "Nest") (textL 1 c)).cps.toList ++ [13, 10, 13, 10] ++ (restJ c).cps.toList ++ [13, 10, 13, 10] := by
  unfold page3F
  rw [app_list, app_list, app_list, empty_list, strF1, strF1, strF1, restJ_list]
  show [] ++ ((pairF (Str.ofString "Nest") (textL 1 c)).cps.toList ++ _) ++ ((pairF (Str.ofString "Nest") (textL 2 c)).cps.toList ++ _) ++ ((pairF (Str.ofString "Nest") (textL 3 c)).cps.toList ++ _) = _
  simp
theorem pair_len (u : Str) : (pairF (Str.ofString "Nest") u).length = u.length + 6 := by
  rw [len_list, pair_list, len_list]; simp
theorem page_lens {c : Str} (h : c.length ≤ 14) : (page2F c).length ≤ 400 ∧ (page3F c).length ≤ 400 ∧ (restJ c).length ≤ 400 ∧ (pairF (Str.ofString "Nest") (textL 2 c)).length ≤ 400 ∧ (pairF (Str.ofString "Nest") (textL 3 c)).length ≤ 400 := by
  obtain ⟨h1, h2, h3⟩ := text_len h
  have e1 := pair_len (textL 1 c)
  have e2 := pair_len (textL 2 c)
  have e3 := pair_len (textL 3 c)
  have f2 : (page2F c).length = (pairF (Str.ofString "Nest") (textL 1 c)).length + (pairF (Str.ofString "Nest") (textL 2 c)).length + 8 := by
    rw [len_list, page2_list, len_list, len_list]; simp; omega
  have fJ : (restJ c).length = (pairF (Str.ofString "Nest") (textL 2 c)).length + (pairF (Str.ofString "Nest") (textL 3 c)).length + 4 := by
    rw [len_list, restJ_list, len_list, len_list]; simp; omega
  have f3 : (page3F c).length = (pairF (Str.ofString "Nest") (textL 1 c)).length + (restJ c).length + 8 := by
    rw [len_list, page3_list, len_list (pairF _ _), len_list (restJ c)]; simp; omega
  have b1 : (pairF (Str.ofString "Nest") (textL 1 c)).length ≤ 40 := e1 ▸ Nat.add_le_add_right h1 6
  have b2 : (pairF (Str.ofString "Nest") (textL 2 c)).length ≤ 80 := e2 ▸ Nat.add_le_add_right h2 6
  have b3 : (pairF (Str.ofString "Nest") (textL 3 c)).length ≤ 160 := e3 ▸ Nat.add_le_add_right h3 6
  have bJ : (restJ c).length ≤ 244 := fJ ▸ Nat.add_le_add_right (Nat.add_le_add b2 b3) 4
  exact ⟨f2 ▸ Nat.le_trans (Nat.add_le_add_right (Nat.add_le_add b1 b2) 8) (by decide), f3 ▸ Nat.le_trans (Nat.add_le_add_right (Nat.add_le_add b1 bJ) 8) (by decide), Nat.le_trans bJ (by decide), Nat.le_trans b2 (by decide), Nat.le_trans b3 (by decide)⟩
theorem cr_str : crS = Str.ofString "\r" := by decide +kernel
theorem line_cr (l : Nat) (c : Str) : pairF (Str.ofString "Nest") (textL l c) ++ crS = Str.ofString "Nest: " ++ wrF l c ++ Str.ofString "\r" := by rw [wrF_text, nest_pair, cr_str]
theorem app_empty (a : Str) : a ++ Str.ofString "" = a := by
  apply str_ext; rw [app_list, empty_list, List.append_nil]
theorem line_no (l : Nat) (c : Str) : pairF (Str.ofString "Nest") (textL l c) = Str.ofString "Nest: " ++ wrF l c ++ Str.ofString "" := by rw [wrF_text, nest_pair, app_empty]
theorem sd2_0 {c : Str} (h : goodV c) : sdF (page2F c) = (Str.ofString "Nest: " ++ wrF 1 c ++ Str.ofString "\r", pairF (Str.ofString "Nest") (textL 2 c)) := by
  rw [← line_cr]
  refine sd_page [pairF (Str.ofString "Nest") (textL 2 c)] [13, 10, 13, 10] (text_line h 0) (page2_list c) sp_crlf2 (by simp) ?_ (text_line h 1).last ?_
  · rfl
  · intro q hq; rw [List.mem_singleton.mp hq]; exact (text_line h 1).free
theorem sd2_1 {c : Str} (h : goodV c) : sdF (pairF (Str.ofString "Nest") (textL 2 c)) = (Str.ofString "Nest: " ++ wrF 2 c ++ Str.ofString "", Str.ofString "") := by
  rw [sd_line (text_line h 1), ← line_no]
theorem sd3_0 {c : Str} (h : goodV c) : sdF (page3F c) = (Str.ofString "Nest: " ++ wrF 1 c ++ Str.ofString "\r", restJ c) := by
  rw [← line_cr]
  refine sd_page [pairF (Str.ofString "Nest") (textL 2 c) ++ crS, crS, pairF (Str.ofString "Nest") (textL 3 c)] [13, 10, 13, 10] (text_line h 0) (page3_list c) sp_crlf2 (by simp) ?_ ?_ ?_
  · rw [restJ_list]
    show _ = (pairF (Str.ofString "Nest") (textL 2 c) ++ crS).cps.toList ++ 10 :: ([13] ++ 10 :: (pairF (Str.ofString "Nest") (textL 3 c)).cps.toList)
    rw [app_list]
    show _ = _ ++ [13] ++ _
    simp
  · obtain ⟨m, b, e, hb⟩ := (text_line h 2).last
    exact ⟨_, b, by rw [restJ_list, e, ← List.append_assoc], hb⟩
  · intro q hq
    simp only [List.mem_cons, List.not_mem_nil, or_false] at hq
    rcases hq with rfl | rfl | rfl
    · rw [app_list]
      intro q
      rcases List.mem_append.mp q with q | q
      · exact (text_line h 1).free q
      · simp [crS] at q
    · simp [crS]
    · exact (text_line h 2).free
theorem sd3_1 {c : Str} (h : goodV c) : sdF (restJ c) = (Str.ofString "Nest: " ++ wrF 2 c ++ Str.ofString "\r", pairF (Str.ofString "Nest") (textL 3 c)) := by
  rw [← line_cr]
  refine sd_page [pairF (Str.ofString "Nest") (textL 3 c)] [] (text_line h 1) (by rw [restJ_list, List.append_nil]) (fun _ h => nomatch h) (by simp) ?_ (text_line h 2).last ?_
  · rfl
  · intro q hq; rw [List.mem_singleton.mp hq]; exact (text_line h 2).free
theorem sd3_2 {c : Str} (h : goodV c) : sdF (pairF (Str.ofString "Nest") (textL 3 c)) = (Str.ofString "Nest: " ++ wrF 3 c ++ Str.ofString "", Str.ofString "") := by
  rw [sd_line (text_line h 2), ← line_no]
theorem wr_len {c : Str} (h : c.length ≤ 14) : (wrF 1 c).length ≤ 200 ∧ (wrF 2 c).length ≤ 200 ∧ (wrF 3 c).length ≤ 200 := by
  have := text_len h
  rw [wrF_text, wrF_text, wrF_text]; omega
theorem parted_eq {c line bare e : Str} (hT : TextOk c) (l : Nat) (he : 92 ∉ e.cps.toList) (hl : line = Str.ofString "Nest: " ++ wrF l c ++ e) (hb : bare.cps.toList = [78, 101, 115, 116, 58, 32] ++ bareL l c.cps.toList ++ e.cps.toList) (row : Str) :
    (replAll line (pairsOf row) == bare) = goesF row (l : Int) := by
  obtain ⟨pre, ep, _⟩ := hT.tail
  obtain ⟨T, hv, hp, ha, hq⟩ := tail_toks pre
  refine row_lays' (v := c) (T := T) (by rw [ep, hv]) hp ha hq l (pre := [78, 101, 115, 116, 58, 32]) (post := e.cps.toList) (by decide) he ?_ hb row
  rw [hl, wrF_text, nest_pair, app_list, pair_list]
noncomputable def goodL : Nat → List Str
  | 1 => [Str.ofString "BQ", Str.ofString "QB", Str.ofString "QQB"]
  | 2 => [Str.ofString "BBQ", Str.ofString "BQBQ", Str.ofString "BQQB", Str.ofString "QBBQ", Str.ofString "QBQB"]
  | _ => [Str.ofString "BBBQ"]
theorem good_1 : (rowsF.filter fun r => goesF r 1) = goodL 1 := by decide +kernel
theorem good_2 : (rowsF.filter fun r => goesF r 2) = goodL 2 := by decide +kernel
theorem good_3 : (rowsF.filter fun r => goesF r 3) = goodL 3 := by decide +kernel
theorem rest_1 : (rowsF.filter fun r => !goesF r 1) = rowsF.filter fun z => !((goodL 1).any fun x => x == z) := by decide +kernel
theorem rest_2 : (rowsF.filter fun r => !goesF r 2) = rowsF.filter fun z => !((goodL 2).any fun x => x == z) := by decide +kernel
theorem rest_3 : (rowsF.filter fun r => !goesF r 3) = rowsF.filter fun z => !((goodL 3).any fun x => x == z) := by decide +kernel
theorem rows_len : rowsF.length ≤ 40 := by decide +kernel
theorem rows_short : ∀ r ∈ rowsF, r.length ≤ 4 := by decide +kernel
theorem rows_ok : ∀ x ∈ rowsF, okT x := by
  intro x hx
  have h : ∀ x ∈ rowsF, ∀ c ∈ x.cps.toList, c < 0x110000 := by decide +kernel
  exact h x hx
theorem good_in (l : Nat) (h : goodL l = rowsF.filter fun r => goesF r l) : ∀ x ∈ goodL l, okT x := fun x hx => by
  rw [h] at hx
  exact rows_ok x (List.mem_filter.mp hx).1
theorem strs_one {ys : List Value} {a : Str} (h : StrsAre ys [a]) : ∃ ta, ys = [.str a ta] := by
  cases h with | cons _ ta h => cases h; exact ⟨ta, rfl⟩
theorem strs_three {ys : List Value} {a b c : Str} (h : StrsAre ys [a, b, c]) : ∃ ta tb tc, ys = [.str a ta, .str b tb, .str c tc] := by
  cases h with | cons _ ta h => obtain ⟨tb, tc, rfl⟩ := strs_two h; exact ⟨ta, tb, tc, rfl⟩
theorem strs_five {ys : List Value} {a b c d e : Str} (h : StrsAre ys [a, b, c, d, e]) : ∃ ta tb tc td te, ys = [.str a ta, .str b tb, .str c tc, .str d td, .str e te] := by
  cases h with | cons _ ta h => obtain ⟨tb, tc, td, te, rfl⟩ := strs_four h; exact ⟨ta, tb, tc, td, te, rfl⟩
theorem strs_6 {ys : List Value} {a b c d e f : Str} (h : StrsAre ys [a, b, c, d, e, f]) : ∃ ta tb tc td te tf, ys = [.str a ta, .str b tb, .str c tc, .str d td, .str e te, .str f tf] := by
  cases h with | cons _ ta h => obtain ⟨tb, tc, td, te, tf, rfl⟩ := strs_five h; exact ⟨ta, tb, tc, td, te, tf, rfl⟩
theorem pairs_1 : flat2 (pairsOf (Str.ofString "BQ")) = [Str.ofString "\\\\", Str.ofString "\\", Str.ofString "\\\"", Str.ofString "\""] := by decide +kernel
theorem pairs_2 : flat2 (pairsOf (Str.ofString "BBQ")) = [Str.ofString "\\\\", Str.ofString "\\", Str.ofString "\\\\", Str.ofString "\\", Str.ofString "\\\"", Str.ofString "\""] := by decide +kernel
theorem pairs_3 : flat2 (pairsOf (Str.ofString "BBBQ")) = [Str.ofString "\\\\", Str.ofString "\\", Str.ofString "\\\\", Str.ofString "\\", Str.ofString "\\\\", Str.ofString "\\", Str.ofString "\\\"", Str.ofString "\""] := by decide +kernel
theorem ok_slash : okPair (Str.ofString "\\\\", Str.ofString "\\") := ⟨by decide +kernel, by decide +kernel, by decide +kernel⟩
section
variable {prog : Program} {w : World} {A : Around} {E : Value → Shared → Prop} {s : Shared} {h₀ : Heap} {L D yes no D6 G K : Addr} {news : List (Addr × Obj)} {Q : Value → Shared → Prop} {ys ns gv kv : List Value} {xs zs : List Str} {ky kn gn kk : Nat}
theorem ne_parted (N : News h₀ L s.heap news) (hD : (D, tupObj [.ref yes, .ref no]) ∈ news) (hy : (yes, W.listOf ys.toArray ky) ∈ news) (hn : (no, W.listOf ns.toArray kn) ∈ news) (hD6 : (D6, tupObj [.ref G, .ref K]) ∈ news) (hG : (G, W.listOf gv.toArray gn) ∈ news) (hK : (K, W.listOf kv.toArray kk) ∈ news)
    (sy : StrsAre ys xs) (sn : StrsAre ns zs) (sg : StrsAre gv xs) (sk : StrsAre kv zs) (ox : ∀ x ∈ xs, okT x) (oz : ∀ x ∈ zs, okT x) (hu : A.units + 64 < cLine) (h : Q (.bool false) s) : wpAny (model prog w) A (compareOp .NotEq (.ref D) (.ref D6)) Q E s := by
  refine ne_alike (d := .tuple [.list (xs.map PyData.str), .list (zs.map PyData.str)])
    (reads_tuple_at (N.get hD) rfl rfl (.cons (reads_list_at (N.get hy) rfl rfl (by simpa using reads_strs sy)) (.cons (reads_list_at (N.get hn) rfl rfl (by simpa using reads_strs sn)) .nil)))
    (reads_tuple_at (N.get hD6) rfl rfl (.cons (reads_list_at (N.get hG) rfl rfl (by simpa using reads_strs sg)) (.cons (reads_list_at (N.get hK) rfl rfl (by simpa using reads_strs sk)) .nil))) ?_ hu h
  simp [shaped, PyData.canLay0, PyData.canLayAll0, PyData.depth, PyData.depthAll, lay_strs ox, lay_strs oz, depth_strs]
end
theorem store_good {M : Model} {A : Around} {E : Value → Shared → Prop} {s : Shared} {h₀ : Heap} {L G a : Addr} {m : Str → Option Value} {news : List (Addr × Obj)} {Q : Unit → Shared → Prop} {cn x : Str} {cs : Scope} {ccd : Value} {cl : List (Str × Addr)} {gv : List Value} {o2 oL : Obj} {v0 : Option Value} {vL : Value} (mid : List (Addr × Obj))
    (F : Fr h₀ L s.heap m) (hc : cl.lookup x = some (L + 1 + 1 + 1)) (N : News h₀ L s.heap news) (hcL : oL.data = .cell (some vL)) (hG : (G, lst gv) ∈ news) (hC : (L + 1 + 1 + 1, o2) ∈ news) (hL : (L + 1 + 1, oL) ∈ news) (hd : o2.data = .cell v0) (hs : ∀ q ∈ mid, q ∈ news) (hr : ∀ q ∈ mid, @Ne Nat q.1 (L + 1 + 1 + 1))
    (hk : cs.kind = .function) (hx : (envX cn cs L a ccd cl).kindOf x = some .cell)
    (h : ∀ h' o', Fr h₀ L h' m → News h₀ L h' ((L + 1 + 1 + 1, o') :: (G, lst gv) :: (L + 1 + 1, oL) :: mid) → o'.data = .cell (some (.ref G)) → Q () { s with heap := h' }) :
    wpAny M A (storeName (envX cn cs L a ccd cl) x (.ref G)) Q E s := by
  refine storeX_C F (cb_drop (news := (L + 1 + 1 + 1, o2) :: (G, lst gv) :: (L + 1 + 1, oL) :: mid) N ?_) hc (.head ?_) hd h hk hx
  · intro q hq
    simp only [List.mem_cons] at hq
    rcases hq with rfl | rfl | rfl | hq
    · exact hC
    · exact hG
    · exact hL
    · exact hs q hq
  · intro q hq
    simp only [List.mem_cons] at hq
    rcases hq with rfl | rfl | hq
    · exact data_ne N hG hC rfl hd (by simp)
    · exact Nat.ne_of_lt (Nat.lt_succ_self _)
    · exact hr q hq
theorem part_off {h₀ h : Heap} {L I G R : Addr} {gv : List Value} {rv : List Value} {rn : Nat} {oG oL oI : Obj} (N : News h₀ L h ((R, W.listOf rv.toArray rn) :: (242, tabObj #[]) :: [(L + 1 + 1 + 1, oG), (G, lst gv), (L + 1 + 1, oL), (I, oI)])) (hL : 242 < L) (hI : @Ne Nat 242 I) :
    ∀ q ∈ [(L + 1 + 1 + 1, oG), (G, lst gv), (L + 1 + 1, oL), (I, oI)], q.1 ≠ 242 := by
  have hG : G ≠ 242 := list_ne_tab N (.tail _ (.tail _ (.tail _ (.head _)))) (.tail _ (.head _))
  intro q hq
  simp only [List.mem_cons, List.not_mem_nil, or_false] at hq
  rcases hq with rfl | rfl | rfl | rfl
  · exact Nat.ne_of_gt (Nat.lt_trans hL (Nat.lt_trans (Nat.lt_succ_self _) (Nat.lt_trans (Nat.lt_succ_self _) (Nat.lt_succ_self _))))
  · exact hG
  · exact Nat.ne_of_gt (Nat.lt_trans hL (Nat.lt_trans (Nat.lt_succ_self _) (Nat.lt_succ_self _)))
  · exact Ne.symm hI
section
variable {M : Model} {A : Around} {E : Value → Shared → Prop} {s : Shared} {h₀ : Heap} {L I R a : Addr} {m : Str → Option Value} {Q : Unit → Shared → Prop} {cn x : Str} {cs : Scope} {ccd v : Value} {cl : List (Str × Addr)} {rv : List Value} {rn : Nat} {oI w2 w1 : Obj} {v1 : Option Value}
theorem cell_lt {L : Nat} (hL : 242 < L) : @Ne Nat 242 (L + 1 + 1) ∧ @Ne Nat 242 (L + 1 + 1 + 1) := by omega
theorem store_level0 (F : Fr h₀ L s.heap m) (hc : cl.lookup x = some (L + 1 + 1)) (N : News h₀ L s.heap [(I, oI), (R, W.listOf rv.toArray rn), (242, tabObj #[]), (L + 1 + 1 + 1, w2), (L + 1 + 1, w1)]) (hd : w1.data = .cell v1) (hL : 242 < L) (hI : ∀ p ∈ [(R, W.listOf rv.toArray rn), (242, tabObj #[]), (L + 1 + 1 + 1, w2), (L + 1 + 1, w1)], p.1 ≠ I)
    (hk : cs.kind = .function) (hx : (envX cn cs L a ccd cl).kindOf x = some .cell)
    (h : ∀ h' o', Fr h₀ L h' m → News h₀ L h' [(I, oI), (R, W.listOf rv.toArray rn), (242, tabObj #[]), (L + 1 + 1 + 1, w2), (L + 1 + 1, o')] → o'.data = .cell (some v) → Q () { s with heap := h' }) :
    wpAny M A (storeName (envX cn cs L a ccd cl) x v) Q E s := by
  have hR : R ≠ L + 1 + 1 := data_ne N (.tail _ (.head _)) (.tail _ (.tail _ (.tail _ (.tail _ (.head _))))) rfl hd (by simp)
  refine storeX_C F N hc (.tail ?_ (.tail hR (.tail (cell_lt hL).1 (.tail ?_ (.head fun _ h => nomatch h))))) hd h hk hx
  · exact Ne.symm (hI (L + 1 + 1, w1) (.tail _ (.tail _ (.tail _ (.head _)))))
  · exact Nat.ne_of_gt (Nat.lt_succ_self _)
theorem store_level1 {c' : Addr} {oc : Obj} {vs0 : Array Value} {ps : Array Value} (F : Fr h₀ L s.heap m) (hc : cl.lookup x = some (L + 1 + 1)) (N : News h₀ L s.heap [(I, oI), (R, W.listOf rv.toArray rn), (c', oc), (242, tabObj ps), (L + 1 + 1 + 1, w2), (L + 1 + 1, w1)]) (hoc : oc.data = .fields vs0) (hd : w1.data = .cell v1) (hL : 242 < L) (hI : ∀ p ∈ [(R, W.listOf rv.toArray rn), (c', oc), (242, tabObj ps), (L + 1 + 1 + 1, w2), (L + 1 + 1, w1)], p.1 ≠ I)
    (hk : cs.kind = .function) (hx : (envX cn cs L a ccd cl).kindOf x = some .cell)
    (h : ∀ h' o', Fr h₀ L h' m → News h₀ L h' [(I, oI), (R, W.listOf rv.toArray rn), (c', oc), (242, tabObj ps), (L + 1 + 1 + 1, w2), (L + 1 + 1, o')] → o'.data = .cell (some v) → Q () { s with heap := h' }) :
    wpAny M A (storeName (envX cn cs L a ccd cl) x v) Q E s := by
  have hR : R ≠ L + 1 + 1 := data_ne N (.tail _ (.head _)) (.tail _ (.tail _ (.tail _ (.tail _ (.tail _ (.head _)))))) rfl hd (by simp)
  have hc2 : c' ≠ L + 1 + 1 := data_ne N (.tail _ (.tail _ (.head _))) (.tail _ (.tail _ (.tail _ (.tail _ (.tail _ (.head _)))))) hoc hd (by simp)
  refine storeX_C F N hc (.tail ?_ (.tail hR (.tail hc2 (.tail (cell_lt hL).1 (.tail ?_ (.head fun _ h => nomatch h)))))) hd h hk hx
  · exact Ne.symm (hI (L + 1 + 1, w1) (.tail _ (.tail _ (.tail _ (.tail _ (.head _))))))
  · exact Nat.ne_of_gt (Nat.lt_succ_self _)
end
theorem q_str : (Str.ofString "\"").cps.toList = [34] := by decide +kernel
theorem bare_1 (c e : Str) : (Str.ofString "Nest: k-1=\"" ++ c ++ Str.ofString "\"" ++ e).cps.toList = [78, 101, 115, 116, 58, 32] ++ bareL 1 c.cps.toList ++ e.cps.toList := by
  rw [app_list, app_list, app_list, q_str, show (Str.ofString "Nest: k-1=\"").cps.toList = [78, 101, 115, 116, 58, 32, 107, 45, 49, 61, 34] from by decide +kernel]
  simp [bareL]
theorem bare_2 (c e : Str) : (Str.ofString "Nest: k-1=\"k-1=\"" ++ c ++ Str.ofString "\"\"" ++ e).cps.toList = [78, 101, 115, 116, 58, 32] ++ bareL 2 c.cps.toList ++ e.cps.toList := by
  rw [app_list, app_list, app_list, show (Str.ofString "\"\"").cps.toList = [34, 34] from by decide +kernel, show (Str.ofString "Nest: k-1=\"k-1=\"").cps.toList = [78, 101, 115, 116, 58, 32, 107, 45, 49, 61, 34, 107, 45, 49, 61, 34] from by decide +kernel]
  simp [bareL]
theorem bare_3 (c e : Str) : (Str.ofString "Nest: k-1=\"k-1=\"k-1=\"" ++ c ++ Str.ofString "\"\"\"" ++ e).cps.toList = [78, 101, 115, 116, 58, 32] ++ bareL 3 c.cps.toList ++ e.cps.toList := by
  rw [app_list, app_list, app_list, show (Str.ofString "\"\"\"").cps.toList = [34, 34, 34] from by decide +kernel, show (Str.ofString "Nest: k-1=\"k-1=\"k-1=\"").cps.toList = [78, 101, 115, 116, 58, 32, 107, 45, 49, 61, 34, 107, 45, 49, 61, 34, 107, 45, 49, 61, 34] from by decide +kernel]
  simp [bareL]
theorem line_lens {c e : Str} (h : c.length ≤ 14) (he : e.length ≤ 1) : ¬ 1000 < (Str.ofString "Nest: " ++ wrF 1 c ++ e).length ∧ ¬ 1000 < (Str.ofString "Nest: " ++ wrF 2 c ++ e).length ∧ ¬ 1000 < (Str.ofString "Nest: " ++ wrF 3 c ++ e).length := by
  have := wr_len h
  have hc : (Str.ofString "Nest: ").length = 6 := by decide +kernel
  simp only [app_len]
  omega
end Mine
end
section
open PySem PySem.W PySem.Calls PyProof.Rows PySem.Spec PyProof.Rows.LCg
set_option Elab.async false
set_option maxRecDepth 100000
set_option maxHeartbeats 4000000
namespace Mine
noncomputable abbrev recOf {q : Program} {loose : List Str} {XP : (Str → Option Value) → Heap → Prop} {YP : World → Heap → Prop} {r : RowW} {d : DefRec} {kwd : List (Str × Expr)} {run : Value → List Value → Sem Value} {H : Prop} (_ : WalkO q loose XP YP r d kwd run → H) : DefRec := d
noncomputable abbrev lawRec : DefRec := recOf hd
noncomputable abbrev lawB (n : Nat) : List Stmt := List.drop n lawRec.body
noncomputable abbrev lawE (L : Nat) (fa : Addr) (cd : Value) : Env := envOfC (Str.ofString "law") lawRec.scope L fa cd
noncomputable abbrev lawW (w : World) (L : Nat) (fa : Addr) (cd : Value) (n : Nat) (Q : Flow → Shared → Prop) (E : Value → Shared → Prop) (s : Shared) : Prop :=
  wpAny (model Challenge.rw_pm0051_01.row.prog w) (callerA.deeper (lawE L fa cd)) (execs (lawB n) (lawE L fa cd)) Q E s
theorem cutK {M : Model} {A : Around} {E : Value → Shared → Prop} {env : Env} {s : Shared} {Q : Flow → Shared → Prop} (n : Nat) (l : List Stmt)
    (h : ∀ K : Shared → Prop, (∀ s', wpAny M A (execs (l.drop n) env) Q E s' → K s') → wpAny M A (execs (l.take n) env) (GoesOn K) E s) : wpAny M A (execs l env) Q E s :=
  execs_cut n _ l (h _ fun _ x => x) fun _ x => x
noncomputable abbrev forBody (l : List Stmt) : List Stmt := match l with | .For _ _ b _ _ :: _ => b | _ => []
noncomputable abbrev lvB (n : Nat) : List Stmt := List.drop n (forBody (lawB 22))
noncomputable abbrev lvW (w : World) (L : Nat) (fa : Addr) (cd : Value) (n : Nat) (Q : Flow → Shared → Prop) (E : Value → Shared → Prop) (s : Shared) : Prop :=
  wpAny (model Challenge.rw_pm0051_01.row.prog w) (callerA.deeper (lawE L fa cd)) (execs (lvB n) (lawE L fa cd)) Q E s
section
variable {h₀ h : Heap} {L : Addr} {a b c d a' b' c' d' : Value} {p : Str} {t : Tok} {M : Str → Option Value}
theorem fr_m5E (F : Fr h₀ L h (m5 a b c d (mE p t M))) : Fr h₀ L h (m5 a b c d M) := by
  have e : m5 a b c d (mE p t M) = m5 a b c d M := by
    funext y
    by_cases h3 : y = Str.ofString "rest"
    · subst h3; rfl
    · unfold m5 mE; simp only [if_neg h3]
  rwa [e] at F
theorem fr_m55 (F : Fr h₀ L h (m5 a b c d (m5 a' b' c' d' M))) : Fr h₀ L h (m5 a b c d M) := by
  have e : m5 a b c d (m5 a' b' c' d' M) = m5 a b c d M := by
    funext y
    unfold m5
    by_cases h1 : y = Str.ofString "bare"
    · simp only [if_pos h1]
    · by_cases h2 : y = Str.ofString "end"
      · simp only [if_neg h1, if_pos h2]
      · by_cases h3 : y = Str.ofString "rest"
        · simp only [if_neg h1, if_neg h2, if_pos h3]
        · by_cases h4 : y = Str.ofString "line"
          · simp only [if_neg h1, if_neg h2, if_neg h3, if_pos h4]
          · simp only [if_neg h1, if_neg h2, if_neg h3, if_neg h4]
  rwa [e] at F
end
noncomputable def JM2 (pI : Nat → Str) (base : Str → Option Value) : Nat → (Str → Option Value) → Prop
  | 0, m => ∃ tr, m = mE (pI 0) tr base
  | i + 1, m => ∃ ba en li t, m = m5 ba en li (.str (pI (i + 1)) t) base
theorem for_law2 {prog : Program} {w : World} {A : Around} {E : Value → Shared → Prop} {s : Shared} {h₀ : Heap} {L : Addr} {env : Env} {x : Str} {body : List Stmt} {Q : Flow → Shared → Prop} {px : Pos} {n : Nat} {r : Addr} {a b : Int} {t u v tr : Tok} {base : Str → Option Value} {R : Addr} {rv : List Value} {rn : Nat} {w2 w1 : Obj} (pI : Nat → Str)
    (hh : A.handled = none) (hE : PassesOwn (model prog w) A env E) (hr : IsRange s.heap r a b 1 t u v) (hsm : Builtin.Range.small a b 1 = true) (hn : Builtin.Range.rangeSize a b 1 = ((n : Nat) : Int))
    (F : Fr h₀ L s.heap (mE (pI 0) tr base)) (N : News h₀ L s.heap [(R, W.listOf rv.toArray rn), (242, tabObj #[]), (L + 1 + 1 + 1, w2), (L + 1 + 1, w1)])
    (turn : ∀ i m₁ news₁ h tk t I oI, i < n → JM2 pI base i m₁ ∧ JN L R rv rn w2 w1 i news₁ → (∀ p ∈ news₁, p.1 ≠ I) → Fr h₀ L h m₁ → News h₀ L h ((I, oI) :: news₁) →
      wpAny (model prog w) A (storeName env x (.int (a + (i : Int)) t)) (fun _ s₂ => wpAny (model prog w) A (execs body env) (TurnPost h₀ L { s with heap := h, toks := tk } I oI (fun m' n' => JM2 pI base (i + 1) m' ∧ JN L R rv rn w2 w1 (i + 1) n') Q) E s₂) E { s with heap := h, toks := tk })
    (done : ∀ m₁ news₁ h tk, JM2 pI base n m₁ ∧ JN L R rv rn w2 w1 n news₁ → Fr h₀ L h m₁ → News h₀ L h news₁ → Q .next { s with heap := h, toks := tk }) :
    wpAny (model prog w) A (pyIter (.ref r)) (fun it s₂ => codeAny (model prog w) A (.forLoop (.Name x px) it body [] env) (fun r s' => match r with | .ok f => Q f s' | .error e => cameBackBy (model prog w) A env E e s') s₂) E s :=
  for_cell (fun i m news => JM2 pI base i m ∧ JN L R rv rn w2 w1 i news) hh hE hr hsm hn F N ⟨⟨tr, rfl⟩, rfl⟩ turn done
theorem pick_last (u v : List Value) (n : Nat) (h : v.length = n) (hn : 0 < n) : kms_pick (u ++ v).toArray.toList (some (-(n : Int))) none = v := by
  have e : (u ++ v).toArray.toList = u ++ v := rfl
  rw [e]
  unfold kms_pick
  have hl : (u ++ v).length = u.length + n := by rw [List.length_append, h]
  have h0 : (-(n : Int)) < 0 := Int.neg_neg_of_pos (Int.ofNat_lt.mpr hn)
  have h1 : kms_lo (some (-(n : Int))) (u ++ v).length = u.length := by
    rw [hl]; unfold kms_lo; dsimp only
    rw [if_pos h0, Int.neg_neg, Int.toNat_natCast, Nat.add_sub_cancel]
  have h2 : kms_hi none (u ++ v).length = u.length + n := by rw [hl]; rfl
  rw [h1, h2, List.drop_left, ← h]
  rw [Nat.add_sub_cancel_left, List.take_length]
noncomputable def lvs : Nat → List Str
  | 0 => lv 0
  | i + 1 => lvs i ++ lv (i + 1)
noncomputable abbrev mRow (R : Addr) (M : Str → Option Value) : Str → Option Value := fun y => if y = Str.ofString "rows" then some (.ref R) else M y
theorem strsAre_split : ∀ {a b : List Str} {vs : List Value}, StrsAre vs (a ++ b) → ∃ u v, vs = u ++ v ∧ StrsAre u a ∧ StrsAre v b
  | [], _, vs, h => ⟨[], vs, rfl, .nil, h⟩
  | x :: a, b, vs, h => by
    cases h with
    | cons y t r =>
      obtain ⟨u, v, rfl, hu, hv⟩ := strsAre_split r
      exact ⟨_ :: u, v, rfl, .cons _ _ hu, hv⟩
end Mine
end
section
open PySem PySem.W PySem.Calls PyProof.Rows
set_option Elab.async false
set_option maxRecDepth 100000
set_option maxHeartbeats 40000000
namespace Mine
theorem anew_CS0 : True := by
  w_top off
  exact True.intro
section
variable {w : World} {p : Program} {loose : List Str} {mean : ExcName → Option Value} {mg mb : Str → Option Value} {h₀ : Heap} {L : Nat} {fa : Addr} {cd : Value} {m : Str → Option Value} {w2 w1 : Obj} {Q : Flow → Shared → Prop} {E : Value → Shared → Prop} {s : Shared}
variable {text : Str} {tt tp tw tv tc td tn tT t2n t2 tkA tkB : Tok} {D B x1 d1 l1 x2 d2 l2 T T2 D2 R : Addr} {ys vs rv : List Value} {ns : List Int} {oB : Obj} {hs1 hs2 : Int} {k1 k2 rn : Nat} {bo to si : Value} {fr : Bool}
set_option maxHeartbeats 40000000
variable {ba en li re : Value} {bare e line nxt : Str} {tb te tli tre tl : Tok} {I c' G : Addr} {oI oc oL oG wG wL : Obj} {vs0 : Array Value} {t0 : Tok} {mZ : Str → Option Value} {dI : Int} {v0 vL v1 : Option Value} {gv : List Value}
theorem S0 (hX : (hd.heap_39 w.params).In h₀) (hTp : Top p loose mean mg mb h₀) (hBl : Below callerA h₀ [] h₀) (hE : PassesOwn (model Challenge.rw_pm0051_01.row.prog w) (callerA.deeper (lawE L fa cd)) (lawE L fa cd) E) (hl0 : 242 < L) {aS : Addr} {us : List Value} {zs : List Int} {w0 : Obj} (hw0 : w0.data = .cell v0)
    (hI : IntsAre us zs) (hSc : h₀.IsList aS us.toArray) (hlen : zs.length ≤ 63)
    (F0 : Fr h₀ L s.heap (fun y => if y = Str.ofString "script" then some (.ref aS) else m y)) (N0 : News h₀ L s.heap [(L + 1 + 1 + 1, w2), (L + 1 + 1, w1), (L + 1, w0), (242, tabObj #[])])
    (hQ : ∀ h' tk text tt D vs ns B ys oB, TextOk text → StrsAre ys (bads text) → IntsAre vs ns → ns.length ≤ 6 → oB.data = .cell (some (.ref B)) → Fr h₀ L h' (m1 text tt D (fun y => if y = Str.ofString "script" then some (.ref aS) else m y)) → News h₀ L h' (led0 L B D ys vs oB w2 w1) → lawW w L fa cd 3 Q E { s with heap := h', toks := tk }) :
    lawW w L fa cd 0 Q E s := by
  revert hX; unfold lawW; k_fill; intro hX
  obtain ⟨h1, g1, n1, tk1, os1⟩ := s
  refine cutK 3 _ ?_
  intro K9 hK9
  dsimp only [lawB, lawRec, recOf, lawE, List.drop, List.take]
  dsimp only [lawE, lawRec, recOf] at hE
  repeat' (first | (k_unfold; (try dsimp only)) | (k_end; kc_close) | ((with_reducible show wpAny _ _ (binaryOp Operator.Add (Value.str (Txt.join _ _) _) (Value.str _ _)) _ _ _); with_reducible (k_dflt (refine' add_text (by decide) ?_); intro q9text q9t' q9tk' q9hText)) | ((with_reducible show wpAny _ _ (exec (Stmt.Assign (_ :: _) (Expr.ListComp ..) _) _) _ _ _); (k_here; refine wpAny_Assign_Name ?_)) | ((with_reducible show wpAny _ _ (call (Value.builtin "str.join") [Value.str _ _, Value.ref _]) _ _ _); with_reducible (k_dflt (first | ((with_reducible rename StrsAre _ (List.map drawF _) => q9saY); refine' join0 1 6 q9saY (by exact News.isList (by k_asm) (by k_mem)) (by exact draw_lens _) (by exact draw_n _ _ (by decide)) (by decide) ?_; clear q9saY; intro _ _ _ _) | ((with_reducible rename StrsAre _ (List.filter (fun z => z == Str.ofString "a") _) => q9saY); refine' join_plain (by with_reducible assumption) q9saY (by exact News.isList (by k_asm) (by k_mem)) ?_; clear q9saY; intro _ _ _ _ _ _) | ((with_reducible rename StrsAre _ (List.filter (fun z => !decide (z ∈ bads _)) _) => q9saY); refine' join_clean (by with_reducible assumption) q9saY (by exact News.isList (by k_asm) (by k_mem)) ?_; clear q9saY; intro _ _ _)))) | ((with_reducible show wpAny _ _ (eval (Expr.ListComp ..) _) _ _ _); with_reducible (k_here; k_dflt (first | ((with_reducible show wpAny _ _ (eval (Expr.ListComp _ [⟨Expr.Name _ _, _, [], _⟩] _ _) _) _ _ _); refine lcs_U (_F₀ := by k_asm) (by with_unfolding_all rfl) (by decide) (by rfl) (by decide) (by rfl) ?_) | ((with_reducible show wpAny _ _ (eval (Expr.ListComp _ [⟨Expr.Name _ _, _, [_], _⟩] _ _) _) _ _ _); refine lcs_T (_F₀ := by k_asm) (by with_unfolding_all rfl) (by decide) (by rfl) (by decide) (by rfl) ?_)))) | ((with_reducible show InPost ..); with_reducible (k_here; k_dflt (refine' ⟨_, _, rfl, (by k_asm), cb_drop (by k_asm) (by kcj_all), ?_⟩))) | walk1 | (dsimp only; walk1) | (leave1; (try dsimp only)))
  rename Fr _ _ _ _ => F1; rename News _ _ _ _ => N1
  rename IntsAre _ (List.take _ _) => hDr
  have hDk : IntsAre _ _ := hDr
  refine genU_ints drawF hDr rfl F1 N1 (inSrc_list rfl N1 (.head _)) (fun p hp => by rw [List.mem_singleton.mp hp]; exact .head _) ?sz ?turn ?fin
  case sz => rw [List.length_take]; omega
  case turn =>
    intro z t I oI C oC D m₂ ys h tk E' hz hC hx F2 N2 off ne
    clear F1 N1
    repeat' (first | (k_unfold; (try dsimp only)) | (k_end; kc_close) | ((with_reducible show wpAny _ _ (binaryOp Operator.Add (Value.str (Txt.join _ _) _) (Value.str _ _)) _ _ _); with_reducible (k_dflt (refine' add_text (by decide) ?_); intro q9text q9t' q9tk' q9hText)) | ((with_reducible show wpAny _ _ (exec (Stmt.Assign (_ :: _) (Expr.ListComp ..) _) _) _ _ _); (k_here; refine wpAny_Assign_Name ?_)) | ((with_reducible show wpAny _ _ (call (Value.builtin "str.join") [Value.str _ _, Value.ref _]) _ _ _); with_reducible (k_dflt (first | ((with_reducible rename StrsAre _ (List.map drawF _) => q9saY); refine' join0 1 6 q9saY (by exact News.isList (by k_asm) (by k_mem)) (by exact draw_lens _) (by exact draw_n _ _ (by decide)) (by decide) ?_; clear q9saY; intro _ _ _ _) | ((with_reducible rename StrsAre _ (List.filter (fun z => z == Str.ofString "a") _) => q9saY); refine' join_plain (by with_reducible assumption) q9saY (by exact News.isList (by k_asm) (by k_mem)) ?_; clear q9saY; intro _ _ _ _ _ _) | ((with_reducible rename StrsAre _ (List.filter (fun z => !decide (z ∈ bads _)) _) => q9saY); refine' join_clean (by with_reducible assumption) q9saY (by exact News.isList (by k_asm) (by k_mem)) ?_; clear q9saY; intro _ _ _)))) | ((with_reducible show wpAny _ _ (eval (Expr.ListComp ..) _) _ _ _); with_reducible (k_here; k_dflt (first | ((with_reducible show wpAny _ _ (eval (Expr.ListComp _ [⟨Expr.Name _ _, _, [], _⟩] _ _) _) _ _ _); refine lcs_U (_F₀ := by k_asm) (by with_unfolding_all rfl) (by decide) (by rfl) (by decide) (by rfl) ?_) | ((with_reducible show wpAny _ _ (eval (Expr.ListComp _ [⟨Expr.Name _ _, _, [_], _⟩] _ _) _) _ _ _); refine lcs_T (_F₀ := by k_asm) (by with_unfolding_all rfl) (by decide) (by rfl) (by decide) (by rfl) ?_)))) | ((with_reducible show InPost ..); with_reducible (k_here; k_dflt (refine' ⟨_, _, rfl, (by k_asm), cb_drop (by k_asm) (by kcj_all), ?_⟩))) | walk1 | (dsimp only; walk1) | (leave1; (try dsimp only)))
    · rename z.fmod 8 < 7 => hlt
      unfold drawF; dsimp only; rw [if_pos hlt]; exact IsText.mk
    · rename ¬ z.fmod 8 < 7 => hlt
      unfold drawF; dsimp only; rw [if_neg hlt]; exact IsText.mk
  case fin =>
    intro q ys hy
    clear F1 N1
    repeat' (first | (k_unfold; (try dsimp only)) | (k_end; kc_close) | ((with_reducible show wpAny _ _ (binaryOp Operator.Add (Value.str (Txt.join _ _) _) (Value.str _ _)) _ _ _); with_reducible (k_dflt (refine' add_text (by decide) ?_); intro q9text q9t' q9tk' q9hText)) | ((with_reducible show wpAny _ _ (exec (Stmt.Assign (_ :: _) (Expr.ListComp ..) _) _) _ _ _); (k_here; refine wpAny_Assign_Name ?_)) | ((with_reducible show wpAny _ _ (call (Value.builtin "str.join") [Value.str _ _, Value.ref _]) _ _ _); with_reducible (k_dflt (first | ((with_reducible rename StrsAre _ (List.map drawF _) => q9saY); refine' join0 1 6 q9saY (by exact News.isList (by k_asm) (by k_mem)) (by exact draw_lens _) (by exact draw_n _ _ (by decide)) (by decide) ?_; clear q9saY; intro _ _ _ _) | ((with_reducible rename StrsAre _ (List.filter (fun z => z == Str.ofString "a") _) => q9saY); refine' join_plain (by with_reducible assumption) q9saY (by exact News.isList (by k_asm) (by k_mem)) ?_; clear q9saY; intro _ _ _ _ _ _) | ((with_reducible rename StrsAre _ (List.filter (fun z => !decide (z ∈ bads _)) _) => q9saY); refine' join_clean (by with_reducible assumption) q9saY (by exact News.isList (by k_asm) (by k_mem)) ?_; clear q9saY; intro _ _ _)))) | ((with_reducible show wpAny _ _ (eval (Expr.ListComp ..) _) _ _ _); with_reducible (k_here; k_dflt (first | ((with_reducible show wpAny _ _ (eval (Expr.ListComp _ [⟨Expr.Name _ _, _, [], _⟩] _ _) _) _ _ _); refine lcs_U (_F₀ := by k_asm) (by with_unfolding_all rfl) (by decide) (by rfl) (by decide) (by rfl) ?_) | ((with_reducible show wpAny _ _ (eval (Expr.ListComp _ [⟨Expr.Name _ _, _, [_], _⟩] _ _) _) _ _ _); refine lcs_T (_F₀ := by k_asm) (by with_unfolding_all rfl) (by decide) (by rfl) (by decide) (by rfl) ?_)))) | ((with_reducible show InPost ..); with_reducible (k_here; k_dflt (refine' ⟨_, _, rfl, (by k_asm), cb_drop (by k_asm) (by kcj_all), ?_⟩))) | walk1 | (dsimp only; walk1) | (leave1; (try dsimp only)))
    rename Fr _ _ _ _ => F1; rename News _ _ _ _ => N1
    rename TextOk _ => hText
    refine genT_of (own := []) (its := signsOf _) badS (fun z => z) rfl F1 N1 (inSrc_str rfl) (fun _ h => nomatch h) signAt_of (signsOf_length _).symm (sz_of (by have := hText.len; omega)) ?turnB ?finB
    case turnB =>
      intro z t I oI C oC D m₂ ys h tk E' hz hC hx F2 N2 off ne
      obtain ⟨c, hc, rfl⟩ := List.mem_map.mp hz
      clear F1 N1
      repeat' (first | (k_unfold; (try dsimp only)) | (k_end; kc_close) | ((with_reducible show wpAny _ _ (binaryOp Operator.Add (Value.str (Txt.join _ _) _) (Value.str _ _)) _ _ _); with_reducible (k_dflt (refine' add_text (by decide) ?_); intro q9text q9t' q9tk' q9hText)) | ((with_reducible show wpAny _ _ (exec (Stmt.Assign (_ :: _) (Expr.ListComp ..) _) _) _ _ _); (k_here; refine wpAny_Assign_Name ?_)) | ((with_reducible show wpAny _ _ (call (Value.builtin "str.join") [Value.str _ _, Value.ref _]) _ _ _); with_reducible (k_dflt (first | ((with_reducible rename StrsAre _ (List.map drawF _) => q9saY); refine' join0 1 6 q9saY (by exact News.isList (by k_asm) (by k_mem)) (by exact draw_lens _) (by exact draw_n _ _ (by decide)) (by decide) ?_; clear q9saY; intro _ _ _ _) | ((with_reducible rename StrsAre _ (List.filter (fun z => z == Str.ofString "a") _) => q9saY); refine' join_plain (by with_reducible assumption) q9saY (by exact News.isList (by k_asm) (by k_mem)) ?_; clear q9saY; intro _ _ _ _ _ _) | ((with_reducible rename StrsAre _ (List.filter (fun z => !decide (z ∈ bads _)) _) => q9saY); refine' join_clean (by with_reducible assumption) q9saY (by exact News.isList (by k_asm) (by k_mem)) ?_; clear q9saY; intro _ _ _)))) | ((with_reducible show wpAny _ _ (eval (Expr.ListComp ..) _) _ _ _); with_reducible (k_here; k_dflt (first | ((with_reducible show wpAny _ _ (eval (Expr.ListComp _ [⟨Expr.Name _ _, _, [], _⟩] _ _) _) _ _ _); refine lcs_U (_F₀ := by k_asm) (by with_unfolding_all rfl) (by decide) (by rfl) (by decide) (by rfl) ?_) | ((with_reducible show wpAny _ _ (eval (Expr.ListComp _ [⟨Expr.Name _ _, _, [_], _⟩] _ _) _) _ _ _); refine lcs_T (_F₀ := by k_asm) (by with_unfolding_all rfl) (by decide) (by rfl) (by decide) (by rfl) ?_)))) | ((with_reducible show InPost ..); with_reducible (k_here; k_dflt (refine' ⟨_, _, rfl, (by k_asm), cb_drop (by k_asm) (by kcj_all), ?_⟩))) | walk1 | (dsimp only; walk1) | (leave1; (try dsimp only)))
      all_goals first
        | exact IsText.mk
        | (rename @LT.lt (List Nat) _ _ _ => h1; rename (_ != _) = true => h2; exact bad_a h1 h2)
        | (rename (_ == _) = true => h2; exact bad_b h2)
        | (rename (_ != _) = false => h2; rename (_ == _) = false => h3; exact bad_c h2 h3)
        | (rename ¬ @LT.lt (List Nat) _ _ _ => h1; rename (_ == _) = false => h3; exact bad_d h1 h3)
    case finB =>
      intro q ys hy
      rw [List.map_id'] at hy
      clear F1 N1
      repeat' (first | (k_unfold; (try dsimp only)) | (k_end; kc_close) | ((with_reducible show wpAny _ _ (binaryOp Operator.Add (Value.str (Txt.join _ _) _) (Value.str _ _)) _ _ _); with_reducible (k_dflt (refine' add_text (by decide) ?_); intro q9text q9t' q9tk' q9hText)) | ((with_reducible show wpAny _ _ (exec (Stmt.Assign (_ :: _) (Expr.ListComp ..) _) _) _ _ _); (k_here; refine wpAny_Assign_Name ?_)) | ((with_reducible show wpAny _ _ (call (Value.builtin "str.join") [Value.str _ _, Value.ref _]) _ _ _); with_reducible (k_dflt (first | ((with_reducible rename StrsAre _ (List.map drawF _) => q9saY); refine' join0 1 6 q9saY (by exact News.isList (by k_asm) (by k_mem)) (by exact draw_lens _) (by exact draw_n _ _ (by decide)) (by decide) ?_; clear q9saY; intro _ _ _ _) | ((with_reducible rename StrsAre _ (List.filter (fun z => z == Str.ofString "a") _) => q9saY); refine' join_plain (by with_reducible assumption) q9saY (by exact News.isList (by k_asm) (by k_mem)) ?_; clear q9saY; intro _ _ _ _ _ _) | ((with_reducible rename StrsAre _ (List.filter (fun z => !decide (z ∈ bads _)) _) => q9saY); refine' join_clean (by with_reducible assumption) q9saY (by exact News.isList (by k_asm) (by k_mem)) ?_; clear q9saY; intro _ _ _)))) | ((with_reducible show wpAny _ _ (eval (Expr.ListComp ..) _) _ _ _); with_reducible (k_here; k_dflt (first | ((with_reducible show wpAny _ _ (eval (Expr.ListComp _ [⟨Expr.Name _ _, _, [], _⟩] _ _) _) _ _ _); refine lcs_U (_F₀ := by k_asm) (by with_unfolding_all rfl) (by decide) (by rfl) (by decide) (by rfl) ?_) | ((with_reducible show wpAny _ _ (eval (Expr.ListComp _ [⟨Expr.Name _ _, _, [_], _⟩] _ _) _) _ _ _); refine lcs_T (_F₀ := by k_asm) (by with_unfolding_all rfl) (by decide) (by rfl) (by decide) (by rfl) ?_)))) | ((with_reducible show InPost ..); with_reducible (k_here; k_dflt (refine' ⟨_, _, rfl, (by k_asm), cb_drop (by k_asm) (by kcj_all), ?_⟩))) | walk1 | (dsimp only; walk1) | (leave1; (try dsimp only)))
      rename Fr _ _ _ _ => F9; rename News _ _ _ _ => N9; rename PySem.Obj.data _ = _ => hc9
      exact ⟨rfl, hK9 _ (hQ _ _ _ _ _ _ _ _ _ _ hText hy hDk (by rw [List.length_take]; exact Nat.min_le_left _ _) hc9 F9 (cb_drop N9 (by kcj_all)))⟩
end
end Mine
end
section
open PySem PySem.W PySem.Calls PyProof.Rows
set_option Elab.async false
set_option maxRecDepth 100000
set_option maxHeartbeats 40000000
namespace Mine
theorem anew_CS1 : True := by
  w_top off
  exact True.intro
section
variable {w : World} {p : Program} {loose : List Str} {mean : ExcName → Option Value} {mg mb : Str → Option Value} {h₀ : Heap} {L : Nat} {fa : Addr} {cd : Value} {m : Str → Option Value} {w2 w1 : Obj} {Q : Flow → Shared → Prop} {E : Value → Shared → Prop} {s : Shared}
variable {text : Str} {tt tp tw tv tc td tn tT t2n t2 tkA tkB : Tok} {D B x1 d1 l1 x2 d2 l2 T T2 D2 R : Addr} {ys vs rv : List Value} {ns : List Int} {oB : Obj} {hs1 hs2 : Int} {k1 k2 rn : Nat} {bo to si : Value} {fr : Bool}
set_option maxHeartbeats 40000000
variable {ba en li re : Value} {bare e line nxt : Str} {tb te tli tre tl : Tok} {I c' G : Addr} {oI oc oL oG wG wL : Obj} {vs0 : Array Value} {t0 : Tok} {mZ : Str → Option Value} {dI : Int} {v0 vL v1 : Option Value} {gv : List Value}
theorem S1 (hX : (hd.heap_39 w.params).In h₀) (hTp : Top p loose mean mg mb h₀) (hBl : Below callerA h₀ [] h₀)
    (hText : TextOk text) (F1 : Fr h₀ L s.heap (m1 text tt D m)) (N1 : News h₀ L s.heap (led0 L B D ys vs oB w2 w1))
    (hQ : ∀ h' tk tp tw x1 d1 l1 hs1 tkA k1 x2 d2 l2 hs2 tkB k2, Ord2 (led0 L B D ys vs oB w2 w1) x1 d1 l1 x2 d2 l2 → Fr h₀ L h' (m2 (plainF text) tp tw x1 x2 (m1 text tt D m)) → News h₀ L h' (tabled x2 d2 l2 hs2 tkB k2 [] 0 (tabled x1 d1 l1 hs1 tkA k1 [] 0 (led0 L B D ys vs oB w2 w1))) → lawW w L fa cd 5 Q E { s with heap := h', toks := tk }) :
    lawW w L fa cd 3 Q E s := by
  revert hX; unfold lawW; k_fill; intro hX
  obtain ⟨h1, g1, n1, tk1, os1⟩ := s
  refine cutK 2 _ ?_
  intro K9 hK9
  dsimp only [lawB, lawRec, recOf, lawE, List.drop, List.take]
  repeat' (first | (k_unfold; (try dsimp only)) | (k_end; kc_close) | ((with_reducible show wpAny _ _ (call (Value.builtin "str.join") [Value.str _ _, Value.ref _]) _ _ _); with_reducible (k_dflt (first | ((with_reducible rename StrsAre _ (List.map drawF _) => q9saY); refine' join0 1 6 q9saY (by exact News.isList (by k_asm) (by k_mem)) (by exact draw_lens _) (by exact draw_n _ _ (by decide)) (by decide) ?_; clear q9saY; intro _ _ _ _) | ((with_reducible rename StrsAre _ (List.filter (fun z => z == Str.ofString "a") _) => q9saY); refine' join_plain (by with_reducible assumption) q9saY (by exact News.isList (by k_asm) (by k_mem)) ?_; clear q9saY; intro _ _ _ _ _ _) | ((with_reducible rename StrsAre _ (List.filter (fun z => !decide (z ∈ bads _)) _) => q9saY); refine' join_clean (by with_reducible assumption) q9saY (by exact News.isList (by k_asm) (by k_mem)) ?_; clear q9saY; intro _ _ _)))) | ((with_reducible show wpAny _ _ (call (Value.ref 184) ([] ++ [])) _ _ _); with_reducible (k_dflt (refine' c_headers _ _ _ _ _ _ _ _ _ _ _ _ _ _ _ _ _ _ _ _ (by k_asm) (by k_asm) (by k_in) (by k_asm) (by k_asm) (by k_room) (by k_room) ?_); intro q9rv q9h' q9tk' q9nw q9hr q9F'; refine park2 q9rv q9nw ?_; intro q9Kp q9hKp; obtain ⟨q9hx, q9hd, q9hl, q9hhs, q9htk, q9hk, q9er, q9en, q9o1, q9o2, q9o3⟩ := q9hr; cases q9en; cases q9er; refine q9hKp _ _ ?_; clear q9hKp q9Kp; intro q9N'; (have q9ox := ne_lt1 q9o2); (have q9od := ne_lt1 (Nat.lt_trans q9o1 q9o2)); (have q9oq := all_ne1 q9o3 (Nat.lt_trans q9o1 q9o2)))) | ((with_reducible show wpAny _ _ (eval (Expr.ListComp ..) _) _ _ _); with_reducible (k_here; k_dflt (first | ((with_reducible show wpAny _ _ (eval (Expr.ListComp _ [⟨Expr.Name _ _, _, [], _⟩] _ _) _) _ _ _); refine lcs_U (_F₀ := by k_asm) (by with_unfolding_all rfl) (by decide) (by rfl) (by decide) (by rfl) ?_) | ((with_reducible show wpAny _ _ (eval (Expr.ListComp _ [⟨Expr.Name _ _, _, [_], _⟩] _ _) _) _ _ _); refine lcs_T (_F₀ := by k_asm) (by with_unfolding_all rfl) (by decide) (by rfl) (by decide) (by rfl) ?_)))) | ((with_reducible show InPost ..); with_reducible (k_here; k_dflt (refine' ⟨_, _, rfl, (by k_asm), cb_drop (by k_asm) (by kcj_all), ?_⟩))) | walk1 | (dsimp only; walk1) | (leave1; (try dsimp only)))
  rename Fr _ _ _ _ => F2; rename News _ _ _ _ => N2
  refine genT_of (own := []) (its := signsOf _) (fun z => z == Str.ofString "a") (fun z => z) rfl F2 N2 (inSrc_str rfl) (fun _ h => nomatch h) signAt_of (signsOf_length _).symm (sz_of (by have := hText.len; omega)) ?turnP ?finP
  case turnP =>
    intro z t I oI C oC D m₂ ys h tk E' hz hC hx F3 N3 off ne
    clear F2 N2
    repeat' (first | (k_unfold; (try dsimp only)) | (k_end; kc_close) | ((with_reducible show wpAny _ _ (call (Value.builtin "str.join") [Value.str _ _, Value.ref _]) _ _ _); with_reducible (k_dflt (first | ((with_reducible rename StrsAre _ (List.map drawF _) => q9saY); refine' join0 1 6 q9saY (by exact News.isList (by k_asm) (by k_mem)) (by exact draw_lens _) (by exact draw_n _ _ (by decide)) (by decide) ?_; clear q9saY; intro _ _ _ _) | ((with_reducible rename StrsAre _ (List.filter (fun z => z == Str.ofString "a") _) => q9saY); refine' join_plain (by with_reducible assumption) q9saY (by exact News.isList (by k_asm) (by k_mem)) ?_; clear q9saY; intro _ _ _ _ _ _) | ((with_reducible rename StrsAre _ (List.filter (fun z => !decide (z ∈ bads _)) _) => q9saY); refine' join_clean (by with_reducible assumption) q9saY (by exact News.isList (by k_asm) (by k_mem)) ?_; clear q9saY; intro _ _ _)))) | ((with_reducible show wpAny _ _ (call (Value.ref 184) ([] ++ [])) _ _ _); with_reducible (k_dflt (refine' c_headers _ _ _ _ _ _ _ _ _ _ _ _ _ _ _ _ _ _ _ _ (by k_asm) (by k_asm) (by k_in) (by k_asm) (by k_asm) (by k_room) (by k_room) ?_); intro q9rv q9h' q9tk' q9nw q9hr q9F'; refine park2 q9rv q9nw ?_; intro q9Kp q9hKp; obtain ⟨q9hx, q9hd, q9hl, q9hhs, q9htk, q9hk, q9er, q9en, q9o1, q9o2, q9o3⟩ := q9hr; cases q9en; cases q9er; refine q9hKp _ _ ?_; clear q9hKp q9Kp; intro q9N'; (have q9ox := ne_lt1 q9o2); (have q9od := ne_lt1 (Nat.lt_trans q9o1 q9o2)); (have q9oq := all_ne1 q9o3 (Nat.lt_trans q9o1 q9o2)))) | ((with_reducible show wpAny _ _ (eval (Expr.ListComp ..) _) _ _ _); with_reducible (k_here; k_dflt (first | ((with_reducible show wpAny _ _ (eval (Expr.ListComp _ [⟨Expr.Name _ _, _, [], _⟩] _ _) _) _ _ _); refine lcs_U (_F₀ := by k_asm) (by with_unfolding_all rfl) (by decide) (by rfl) (by decide) (by rfl) ?_) | ((with_reducible show wpAny _ _ (eval (Expr.ListComp _ [⟨Expr.Name _ _, _, [_], _⟩] _ _) _) _ _ _); refine lcs_T (_F₀ := by k_asm) (by with_unfolding_all rfl) (by decide) (by rfl) (by decide) (by rfl) ?_)))) | ((with_reducible show InPost ..); with_reducible (k_here; k_dflt (refine' ⟨_, _, rfl, (by k_asm), cb_drop (by k_asm) (by kcj_all), ?_⟩))) | walk1 | (dsimp only; walk1) | (leave1; (try dsimp only)))
    all_goals exact IsText.mk
  case finP =>
    intro q ys' hy'
    rw [List.map_id'] at hy'
    clear F2 N2
    repeat' (first | (k_unfold; (try dsimp only)) | (k_end; kc_close) | ((with_reducible show wpAny _ _ (call (Value.builtin "str.join") [Value.str _ _, Value.ref _]) _ _ _); with_reducible (k_dflt (first | ((with_reducible rename StrsAre _ (List.map drawF _) => q9saY); refine' join0 1 6 q9saY (by exact News.isList (by k_asm) (by k_mem)) (by exact draw_lens _) (by exact draw_n _ _ (by decide)) (by decide) ?_; clear q9saY; intro _ _ _ _) | ((with_reducible rename StrsAre _ (List.filter (fun z => z == Str.ofString "a") _) => q9saY); refine' join_plain (by with_reducible assumption) q9saY (by exact News.isList (by k_asm) (by k_mem)) ?_; clear q9saY; intro _ _ _ _ _ _) | ((with_reducible rename StrsAre _ (List.filter (fun z => !decide (z ∈ bads _)) _) => q9saY); refine' join_clean (by with_reducible assumption) q9saY (by exact News.isList (by k_asm) (by k_mem)) ?_; clear q9saY; intro _ _ _)))) | ((with_reducible show wpAny _ _ (call (Value.ref 184) ([] ++ [])) _ _ _); with_reducible (k_dflt (refine' c_headers _ _ _ _ _ _ _ _ _ _ _ _ _ _ _ _ _ _ _ _ (by k_asm) (by k_asm) (by k_in) (by k_asm) (by k_asm) (by k_room) (by k_room) ?_); intro q9rv q9h' q9tk' q9nw q9hr q9F'; refine park2 q9rv q9nw ?_; intro q9Kp q9hKp; obtain ⟨q9hx, q9hd, q9hl, q9hhs, q9htk, q9hk, q9er, q9en, q9o1, q9o2, q9o3⟩ := q9hr; cases q9en; cases q9er; refine q9hKp _ _ ?_; clear q9hKp q9Kp; intro q9N'; (have q9ox := ne_lt1 q9o2); (have q9od := ne_lt1 (Nat.lt_trans q9o1 q9o2)); (have q9oq := all_ne1 q9o3 (Nat.lt_trans q9o1 q9o2)))) | ((with_reducible show wpAny _ _ (eval (Expr.ListComp ..) _) _ _ _); with_reducible (k_here; k_dflt (first | ((with_reducible show wpAny _ _ (eval (Expr.ListComp _ [⟨Expr.Name _ _, _, [], _⟩] _ _) _) _ _ _); refine lcs_U (_F₀ := by k_asm) (by with_unfolding_all rfl) (by decide) (by rfl) (by decide) (by rfl) ?_) | ((with_reducible show wpAny _ _ (eval (Expr.ListComp _ [⟨Expr.Name _ _, _, [_], _⟩] _ _) _) _ _ _); refine lcs_T (_F₀ := by k_asm) (by with_unfolding_all rfl) (by decide) (by rfl) (by decide) (by rfl) ?_)))) | ((with_reducible show InPost ..); with_reducible (k_here; k_dflt (refine' ⟨_, _, rfl, (by k_asm), cb_drop (by k_asm) (by kcj_all), ?_⟩))) | walk1 | (dsimp only; walk1) | (leave1; (try dsimp only)))
    rename Fr _ _ _ _ => F9; rename News _ _ _ _ => N9
    refine ⟨rfl, hK9 _ (hQ _ _ _ _ _ _ _ _ _ _ _ _ _ _ _ _ ?O F9 (cb_drop N9 (by kcj_all)))⟩
    exact ord2_of (b3 := by assumption) (a3 := by assumption) (a1 := by assumption) (a2 := by assumption) (b1 := by assumption) (b2 := by assumption)
end
end Mine
end
section
open PySem PySem.W PySem.Calls PyProof.Rows
set_option Elab.async false
set_option maxRecDepth 100000
set_option maxHeartbeats 40000000
namespace Mine
theorem anew_CS2 : True := by
  w_top off
  exact True.intro
section
variable {w : World} {p : Program} {loose : List Str} {mean : ExcName → Option Value} {mg mb : Str → Option Value} {h₀ : Heap} {L : Nat} {fa : Addr} {cd : Value} {m : Str → Option Value} {w2 w1 : Obj} {Q : Flow → Shared → Prop} {E : Value → Shared → Prop} {s : Shared}
variable {text : Str} {tt tp tw tv tc td tn tT t2n t2 tkA tkB : Tok} {D B x1 d1 l1 x2 d2 l2 T T2 D2 R : Addr} {ys vs rv : List Value} {ns : List Int} {oB : Obj} {hs1 hs2 : Int} {k1 k2 rn : Nat} {bo to si : Value} {fr : Bool}
set_option maxHeartbeats 40000000
variable {ba en li re : Value} {bare e line nxt : Str} {tb te tli tre tl : Tok} {I c' G : Addr} {oI oc oL oG wG wL : Obj} {vs0 : Array Value} {t0 : Tok} {mZ : Str → Option Value} {dI : Int} {v0 vL v1 : Option Value} {gv : List Value}
theorem S2 (hX : (hd.heap_39 w.params).In h₀) (hTp : Top p loose mean mg mb h₀) (hBl : Below callerA h₀ [] h₀)
    (hText : TextOk text) (hO : Ord2 (led0 L B D ys vs oB w2 w1) x1 d1 l1 x2 d2 l2) (F1 : Fr h₀ L s.heap (m2 (plainF text) tp tw x1 x2 (m1 text tt D m))) (N1 : News h₀ L s.heap (tabled x2 d2 l2 hs2 tkB k2 [] 0 (tabled x1 d1 l1 hs1 tkA k1 [] 0 (led0 L B D ys vs oB w2 w1))))
    (hQ : ∀ h' tk T tn tT tv, @LT.lt Nat _ l2 T → Fr h₀ L h' (m3 (valF (plainF text)) tv (m2 (plainF text) tp tw x1 x2 (m1 text tt D m))) → News h₀ L h' (tabled x2 d2 l2 hs2 tkB k2 [.ref T] 1 ((T, tupObj [.str (Str.ofString "Nest") tn, .str (valF (plainF text)) tT]) :: tabled x1 d1 l1 hs1 tkA k1 [] 0 (led0 L B D ys vs oB w2 w1))) → lawW w L fa cd 7 Q E { s with heap := h', toks := tk }) :
    lawW w L fa cd 5 Q E s := by
  revert hX; unfold lawW; k_fill; intro hX
  obtain ⟨h1, g1, n1, tk1, os1⟩ := s
  refine cutK 2 _ ?_
  intro K9 hK9
  dsimp only [lawB, lawRec, recOf, lawE, List.drop, List.take]
  dsimp only [m1, m2, m3, tabled, led0] at F1 N1
  have hx2l := hO.x2l; have hd2l := hO.d2l
  have hrl := hO.rest2 (o1 := instObj 184 d1) (o2 := dictOf [⟨hs1, .str (Str.ofString "_headers") tkA, .ref l1⟩] k1) (o3 := W.listOf #[] 0)
  have hp0 := (plain_len hText).1; have hp1 := (plain_len hText).2; have hpg := plain_good text
  have hc1 : (Str.ofString "a; k-2=\"").length = 8 := by decide +kernel
  repeat' (first | (k_unfold; (try dsimp only)) | (k_end; kc_close) | ((with_reducible show wpAny _ _ (binaryOp Operator.Add (Value.str _ _) (Value.str _ _)) _ _ _); with_reducible (k_dflt (refine' my_add (by first | omega | decide +kernel) (by first | omega | decide +kernel) ?_); intro _ _ _)) | ((with_reducible show wpAny _ _ (call (Value.ref 181) [Value.ref _, Value.str _ _, Value.str _ _] _) _ _ _); with_reducible (k_dflt (refine' c_addI _ _ _ _ _ _ _ _ _ _ _ _ _ (by with_reducible assumption) (by with_reducible assumption) (by with_reducible assumption) ?_ (by omega) (by with_reducible assumption) (by with_reducible assumption) _ _ _ _ _ _ _ _ _ _ _ _ _ _ _ _ _ _ _ _ (by k_asm) (by k_asm) (by k_in) (by k_asm) (by k_asm) (by k_room) (by k_room) ?_; (try any_goals ((fail_if_success with_reducible show wpAny _ _ _ _ _ _); exact Nat.zero_le _))); intro q9rv q9h' q9tk' q9nw q9hr q9F'; refine park2 q9rv q9nw ?_; intro q9Kp q9hKp; obtain ⟨q9TT, q9tt, q9er, q9en, q9ho⟩ := q9hr; cases q9en; cases q9er; refine q9hKp _ _ ?_; clear q9hKp q9Kp; intro q9N'; (replace q9N' := news_rotT q9N'); (try simp only [List.nil_append, List.cons_append] at q9N'))) | walk1 | (dsimp only; walk1) | (leave1; (try dsimp only)))
  rename Fr _ _ _ _ => F9; rename News _ _ _ _ => N9
  with_reducible rename _ ∧ _ ∧ _ ∧ ∀ q ∈ (_ : List (Addr × Obj)), @LT.lt Nat _ q.1 _ => hTT
  rw [val_eq] at N9
  exact ⟨rfl, hK9 _ (hQ _ _ _ _ _ _ hTT.2.2.1 F9 N9)⟩
end
end Mine
end
section
open PySem PySem.W PySem.Calls PyProof.Rows
set_option Elab.async false
set_option maxRecDepth 100000
set_option maxHeartbeats 40000000
namespace Mine
theorem anew_CS3g : True := by
  w_top off
  exact True.intro
section
variable {w : World} {p : Program} {loose : List Str} {mean : ExcName → Option Value} {mg mb : Str → Option Value} {h₀ : Heap} {L : Nat} {fa : Addr} {cd : Value} {m : Str → Option Value} {w2 w1 : Obj} {Q : Flow → Shared → Prop} {E : Value → Shared → Prop} {s : Shared}
variable {text : Str} {tt tp tw tv tc td tn tT t2n t2 tkA tkB : Tok} {D B x1 d1 l1 x2 d2 l2 T T2 D2 R : Addr} {ys vs rv : List Value} {ns : List Int} {oB : Obj} {hs1 hs2 : Int} {k1 k2 rn : Nat} {bo to si : Value} {fr : Bool}
set_option maxHeartbeats 40000000
variable {ba en li re : Value} {bare e line nxt : Str} {tb te tli tre tl : Tok} {I c' G : Addr} {oI oc oL oG wG wL : Obj} {vs0 : Array Value} {t0 : Tok} {mZ : Str → Option Value} {dI : Int} {v0 vL v1 : Option Value} {gv : List Value}
theorem S3g (hX : (hd.heap_39 w.params).In h₀) (hTp : Top p loose mean mg mb h₀) (hBl : Below callerA h₀ [] h₀)
    (hText : TextOk text) (hO : Ord2 (led0 L B D ys vs oB w2 w1) x1 d1 l1 x2 d2 l2) (hT : @LT.lt Nat _ l2 T) (hbad : bads text = []) (hy : StrsAre ys (bads text)) (hcB : oB.data = .cell (some (.ref B))) (F1 : Fr h₀ L s.heap (m3 (valF (plainF text)) tv (m2 (plainF text) tp tw x1 x2 (m1 text tt D m)))) (N1 : News h₀ L s.heap (tabled x2 d2 l2 hs2 tkB k2 [.ref T] 1 ((T, tupObj [.str (Str.ofString "Nest") tn, .str (valF (plainF text)) tT]) :: tabled x1 d1 l1 hs1 tkA k1 [] 0 (led0 L B D ys vs oB w2 w1))))
    (hQ : ∀ h' tk T2 t2n t2 D2, (∀ q ∈ ledG x2 d2 l2 hs2 tkB k2 T T2 (tupObj [.str (Str.ofString "Nest") tn, .str (valF (plainF text)) tT]) (tupObj [.str (Str.ofString "nest") t2n, .str (fmtF (Str.ofString "k-1") text) t2]) (tabled x1 d1 l1 hs1 tkA k1 [] 0 (led0 L B D ys vs oB w2 w1)), q.1 ≠ D2) → Fr h₀ L h' (mT (.ref D2) (m3 (valF (plainF text)) tv (m2 (plainF text) tp tw x1 x2 (m1 text tt D m)))) → News h₀ L h' ((D2, W.listOf [.ref T, .ref T2].toArray 0) :: ledG x2 d2 l2 hs2 tkB k2 T T2 (tupObj [.str (Str.ofString "Nest") tn, .str (valF (plainF text)) tT]) (tupObj [.str (Str.ofString "nest") t2n, .str (fmtF (Str.ofString "k-1") text) t2]) (tabled x1 d1 l1 hs1 tkA k1 [] 0 (led0 L B D ys vs oB w2 w1))) → lawW w L fa cd 10 Q E { s with heap := h', toks := tk }) :
    lawW w L fa cd 7 Q E s := by
  revert hX; unfold lawW; k_fill; intro hX
  obtain ⟨h1, g1, n1, tk1, os1⟩ := s
  refine cutK 3 _ ?_
  intro K9 hK9
  dsimp only [lawB, lawRec, recOf, lawE, List.drop, List.take]
  dsimp only [m1, m2, m3, tabled, led0] at F1 N1
  have hx2l := hO.x2l; have hd2l := hO.d2l
  have hrl := hO.rest2T (oT := tupObj [.str (Str.ofString "Nest") tn, .str (valF (plainF text)) tT]) (o1 := instObj 184 d1) (o2 := dictOf [⟨hs1, .str (Str.ofString "_headers") tkA, .ref l1⟩] k1) (o3 := W.listOf #[] 0) hT
  have hgv := bads_nil hbad
  have hHN : HoldNe := trivial
  have hnl4 : (Str.ofString "nest").length ≤ 10 := by decide +kernel
  have hlen := hText.len
  have hn1 := goodN_nest; have hn2 := goodN_k1
  repeat' (first | (k_unfold; (try dsimp only)) | (k_end; kc_close) | ((with_reducible show wpAny _ _ (compareOp CmpOp.Eq (Value.ref _) (Value.ref _)) _ _ _); with_reducible (k_dflt (refine' eq_nil_yes (by with_reducible assumption) (by with_reducible assumption) (by with_reducible assumption) (by k_mem) (by k_mem) (by ke_room) ?_))) | ((with_reducible show wpAny _ _ (compareOp CmpOp.NotEq (Value.ref _) (Value.ref _)) _ _ _); with_reducible ((with_reducible rename HoldNe => q9hHN); refine Hold.mk ?_)) | ((with_reducible show wpAny _ _ (compareOp CmpOp.NotEq (Value.str _ _) (Value.str _ _)) _ _ _); with_reducible ((with_reducible rename HoldNe => q9hHN); first | (with_reducible refine ne_str_of rfl ?_) | refine Hold.mk ?_)) | ((with_reducible show wpAny _ _ (call (Value.ref 221) [Value.str _ _, Value.int _ _]) _ _ _); with_reducible ((first | k_dflt (refine' c_written _ _ _ 1 ?_ ?_ (by omega) _ _ _ _ _ _ _ _ _ _ _ _ _ _ _ _ _ _ _ _ (by k_asm) (by k_asm) (by k_in) (by k_asm) (by k_asm) (by k_room) (by k_room) ?_) | k_dflt (refine' c_written _ _ _ 2 ?_ ?_ (by omega) _ _ _ _ _ _ _ _ _ _ _ _ _ _ _ _ _ _ _ _ (by k_asm) (by k_asm) (by k_in) (by k_asm) (by k_asm) (by k_room) (by k_room) ?_) | k_dflt (refine' c_written _ _ _ 3 ?_ ?_ (by omega) _ _ _ _ _ _ _ _ _ _ _ _ _ _ _ _ _ _ _ _ (by k_asm) (by k_asm) (by k_in) (by k_asm) (by k_asm) (by k_room) (by k_room) ?_)); (try any_goals ((fail_if_success with_reducible show wpAny _ _ _ _ _ _); decide)); (try any_goals ((fail_if_success with_reducible show wpAny _ _ _ _ _ _); decide)); intro q9rv q9h' q9tk' q9nw q9hr q9F'; refine park2 q9rv q9nw ?_; intro q9Kp q9hKp; obtain ⟨q9en, q9tt, q9er⟩ := q9hr; cases q9en; cases q9er; refine q9hKp _ _ ?_; clear q9hKp q9Kp; intro q9N')) | ((with_reducible show wpAny _ _ (call (Value.ref _) _ _) _ _ _); with_reducible (k_here; (first | (with_reducible show wpAny _ _ (call (Value.ref 216) _) _ _ _) | (with_reducible show wpAny _ _ (call (Value.ref 109) _) _ _ _) | (with_reducible show wpAny _ _ (call (Value.ref 148) _) _ _ _) | (with_reducible show wpAny _ _ (call (Value.ref 160) _) _ _ _) | (with_reducible show wpAny _ _ (call (Value.builtin "list.append") _) _ _ _)); refine Hold.mk ?_)) | ((with_reducible show wpAny _ _ (newList ..) _ _ _); with_reducible (k_here; k_dflt (refine' newList_K (by k_asm) (by k_asm) ?_ (by first | exact Nat.zero_le _ | exact Nat.le_of_ble_eq_true rfl | size_fits); k_whole); intro q9l' q9h' q9F' q9N' q9l1; (try k_lt q9l1); (try k_sweep))) | walk1 | (dsimp only; walk1) | (leave1; (try dsimp only)))
  unfold Hold
  ((k_dflt (refine' c_refG _ _ _ _ _ _ _ _ _ _ _ _ ?a1 ?a2 ?a3 ?a4 ?a5 ?a6 ?a7 ?a8 ?a9 ?a10 _ _ _ _ _ _ _ _ _ _ _ _ _ _ _ _ _ _ _ _ ?B ?F ?X ?N ?T ?d ?u ?_; (case B => k_asm); (case F => k_asm); (case X => k_in); (case N => with_reducible assumption); (case T => k_asm); (case d => first | exact Nat.le_of_ble_eq_true rfl | ktr_room | (simp only [depth_deeper]; omega) | (dsimp only [Around.deeper, Around.in1]; omega) | (simp only [Around.deeper, Around.in1, ktrTop]; omega)); (case u => first | exact Nat.le_of_ble_eq_true rfl | ktr_room | (simp only [Around.deeper]; omega) | (dsimp only [Around.deeper, Around.in1]; omega) | (simp only [Around.deeper, Around.in1, ktrTop]; omega) | (dsimp only [Around.in1, Around.deeper, callerA]; decide) | exact Nat.le_of_ble_eq_true rfl); (case a1 => with_reducible assumption); (case a2 => with_reducible assumption); (case a3 => with_reducible assumption); (case a4 => (simp only [List.length_cons, List.length_nil]; omega)); (case a5 => first | with_reducible assumption | omega); (case a6 => first | with_reducible assumption | omega); (case a7 => with_reducible assumption); (case a8 => first | with_reducible assumption | omega); (case a9 => with_reducible assumption); (case a10 => with_reducible assumption))))
  intro rv h2 tk2 nw hr F2; refine park2 rv nw ?_; intro Kp hKp; obtain ⟨T2, t2, tr2, rfl, rfl, ho⟩ := hr; refine hKp _ _ ?_; clear hKp Kp; intro N2
  repeat' (first | (k_unfold; (try dsimp only)) | (k_end; kc_close) | ((with_reducible show wpAny _ _ (compareOp CmpOp.Eq (Value.ref _) (Value.ref _)) _ _ _); with_reducible (k_dflt (refine' eq_nil_yes (by with_reducible assumption) (by with_reducible assumption) (by with_reducible assumption) (by k_mem) (by k_mem) (by ke_room) ?_))) | ((with_reducible show wpAny _ _ (compareOp CmpOp.NotEq (Value.ref _) (Value.ref _)) _ _ _); with_reducible ((with_reducible rename HoldNe => q9hHN); refine Hold.mk ?_)) | ((with_reducible show wpAny _ _ (compareOp CmpOp.NotEq (Value.str _ _) (Value.str _ _)) _ _ _); with_reducible ((with_reducible rename HoldNe => q9hHN); first | (with_reducible refine ne_str_of rfl ?_) | refine Hold.mk ?_)) | ((with_reducible show wpAny _ _ (call (Value.ref 221) [Value.str _ _, Value.int _ _]) _ _ _); with_reducible ((first | k_dflt (refine' c_written _ _ _ 1 ?_ ?_ (by omega) _ _ _ _ _ _ _ _ _ _ _ _ _ _ _ _ _ _ _ _ (by k_asm) (by k_asm) (by k_in) (by k_asm) (by k_asm) (by k_room) (by k_room) ?_) | k_dflt (refine' c_written _ _ _ 2 ?_ ?_ (by omega) _ _ _ _ _ _ _ _ _ _ _ _ _ _ _ _ _ _ _ _ (by k_asm) (by k_asm) (by k_in) (by k_asm) (by k_asm) (by k_room) (by k_room) ?_) | k_dflt (refine' c_written _ _ _ 3 ?_ ?_ (by omega) _ _ _ _ _ _ _ _ _ _ _ _ _ _ _ _ _ _ _ _ (by k_asm) (by k_asm) (by k_in) (by k_asm) (by k_asm) (by k_room) (by k_room) ?_)); (try any_goals ((fail_if_success with_reducible show wpAny _ _ _ _ _ _); decide)); (try any_goals ((fail_if_success with_reducible show wpAny _ _ _ _ _ _); decide)); intro q9rv q9h' q9tk' q9nw q9hr q9F'; refine park2 q9rv q9nw ?_; intro q9Kp q9hKp; obtain ⟨q9en, q9tt, q9er⟩ := q9hr; cases q9en; cases q9er; refine q9hKp _ _ ?_; clear q9hKp q9Kp; intro q9N')) | ((with_reducible show wpAny _ _ (call (Value.ref _) _ _) _ _ _); with_reducible (k_here; (first | (with_reducible show wpAny _ _ (call (Value.ref 216) _) _ _ _) | (with_reducible show wpAny _ _ (call (Value.ref 109) _) _ _ _) | (with_reducible show wpAny _ _ (call (Value.ref 148) _) _ _ _) | (with_reducible show wpAny _ _ (call (Value.ref 160) _) _ _ _) | (with_reducible show wpAny _ _ (call (Value.builtin "list.append") _) _ _ _)); refine Hold.mk ?_)) | ((with_reducible show wpAny _ _ (newList ..) _ _ _); with_reducible (k_here; k_dflt (refine' newList_K (by k_asm) (by k_asm) ?_ (by first | exact Nat.zero_le _ | exact Nat.le_of_ble_eq_true rfl | size_fits); k_whole); intro q9l' q9h' q9F' q9N' q9l1; (try k_lt q9l1); (try k_sweep))) | walk1 | (dsimp only; walk1) | (leave1; (try dsimp only)))
  rename News _ _ _ _ => N3
  have N4 := cb_drop (news := ledG x2 d2 l2 hs2 tkB k2 T T2 _ _ (tabled x1 d1 l1 hs1 tkA k1 [] 0 (led0 _ B D ys vs oB _ _))) N3 (by kcj_all)
  clear N3; dsimp only [ledG, tabled, led0] at N4
  unfold Hold
  ((k_dflt (refine' c_get _ _ _ _ _ _ _ _ _ _ _ _ _ ?a1 ?a2 _ _ _ _ _ _ _ _ _ _ _ _ _ _ _ _ _ _ _ _ ?B ?F ?X ?N ?T ?d ?u ?_; (case B => k_asm); (case F => k_asm); (case X => k_in); (case N => with_reducible assumption); (case T => k_asm); (case d => first | exact Nat.le_of_ble_eq_true rfl | ktr_room | (simp only [depth_deeper]; omega) | (dsimp only [Around.deeper, Around.in1]; omega) | (simp only [Around.deeper, Around.in1, ktrTop]; omega)); (case u => first | exact Nat.le_of_ble_eq_true rfl | ktr_room | (simp only [Around.deeper]; omega) | (dsimp only [Around.deeper, Around.in1]; omega) | (simp only [Around.deeper, Around.in1, ktrTop]; omega) | (dsimp only [Around.in1, Around.deeper, callerA]; decide) | exact Nat.le_of_ble_eq_true rfl); (case a1 => (simp only [List.length_cons, List.length_nil]; omega)); (case a2 => with_reducible assumption))))
  intro rv h3 tk3 nw hr F3; refine park2 rv nw ?_; intro Kp hKp; obtain ⟨rfl, rfl⟩ := hr; refine hKp _ _ ?_; clear hKp Kp; intro N3
  repeat' (first | (k_unfold; (try dsimp only)) | (k_end; kc_close) | ((with_reducible show wpAny _ _ (compareOp CmpOp.Eq (Value.ref _) (Value.ref _)) _ _ _); with_reducible (k_dflt (refine' eq_nil_yes (by with_reducible assumption) (by with_reducible assumption) (by with_reducible assumption) (by k_mem) (by k_mem) (by ke_room) ?_))) | ((with_reducible show wpAny _ _ (compareOp CmpOp.NotEq (Value.ref _) (Value.ref _)) _ _ _); with_reducible ((with_reducible rename HoldNe => q9hHN); refine Hold.mk ?_)) | ((with_reducible show wpAny _ _ (compareOp CmpOp.NotEq (Value.str _ _) (Value.str _ _)) _ _ _); with_reducible ((with_reducible rename HoldNe => q9hHN); first | (with_reducible refine ne_str_of rfl ?_) | refine Hold.mk ?_)) | ((with_reducible show wpAny _ _ (call (Value.ref 221) [Value.str _ _, Value.int _ _]) _ _ _); with_reducible ((first | k_dflt (refine' c_written _ _ _ 1 ?_ ?_ (by omega) _ _ _ _ _ _ _ _ _ _ _ _ _ _ _ _ _ _ _ _ (by k_asm) (by k_asm) (by k_in) (by k_asm) (by k_asm) (by k_room) (by k_room) ?_) | k_dflt (refine' c_written _ _ _ 2 ?_ ?_ (by omega) _ _ _ _ _ _ _ _ _ _ _ _ _ _ _ _ _ _ _ _ (by k_asm) (by k_asm) (by k_in) (by k_asm) (by k_asm) (by k_room) (by k_room) ?_) | k_dflt (refine' c_written _ _ _ 3 ?_ ?_ (by omega) _ _ _ _ _ _ _ _ _ _ _ _ _ _ _ _ _ _ _ _ (by k_asm) (by k_asm) (by k_in) (by k_asm) (by k_asm) (by k_room) (by k_room) ?_)); (try any_goals ((fail_if_success with_reducible show wpAny _ _ _ _ _ _); decide)); (try any_goals ((fail_if_success with_reducible show wpAny _ _ _ _ _ _); decide)); intro q9rv q9h' q9tk' q9nw q9hr q9F'; refine park2 q9rv q9nw ?_; intro q9Kp q9hKp; obtain ⟨q9en, q9tt, q9er⟩ := q9hr; cases q9en; cases q9er; refine q9hKp _ _ ?_; clear q9hKp q9Kp; intro q9N')) | ((with_reducible show wpAny _ _ (call (Value.ref _) _ _) _ _ _); with_reducible (k_here; (first | (with_reducible show wpAny _ _ (call (Value.ref 216) _) _ _ _) | (with_reducible show wpAny _ _ (call (Value.ref 109) _) _ _ _) | (with_reducible show wpAny _ _ (call (Value.ref 148) _) _ _ _) | (with_reducible show wpAny _ _ (call (Value.ref 160) _) _ _ _) | (with_reducible show wpAny _ _ (call (Value.builtin "list.append") _) _ _ _)); refine Hold.mk ?_)) | ((with_reducible show wpAny _ _ (newList ..) _ _ _); with_reducible (k_here; k_dflt (refine' newList_K (by k_asm) (by k_asm) ?_ (by first | exact Nat.zero_le _ | exact Nat.le_of_ble_eq_true rfl | size_fits); k_whole); intro q9l' q9h' q9F' q9N' q9l1; (try k_lt q9l1); (try k_sweep))) | walk1 | (dsimp only; walk1) | (leave1; (try dsimp only)))
  unfold Hold
  ((k_dflt (refine' c_items _ _ _ _ _ _ _ _ ?a1 _ _ _ _ _ _ _ _ _ _ _ _ _ _ _ _ _ _ _ _ ?B ?F ?X ?N ?T ?d ?u ?_; (case B => k_asm); (case F => k_asm); (case X => k_in); (case N => with_reducible assumption); (case T => k_asm); (case d => first | exact Nat.le_of_ble_eq_true rfl | ktr_room | (simp only [depth_deeper]; omega) | (dsimp only [Around.deeper, Around.in1]; omega) | (simp only [Around.deeper, Around.in1, ktrTop]; omega)); (case u => first | exact Nat.le_of_ble_eq_true rfl | ktr_room | (simp only [Around.deeper]; omega) | (dsimp only [Around.deeper, Around.in1]; omega) | (simp only [Around.deeper, Around.in1, ktrTop]; omega) | (dsimp only [Around.in1, Around.deeper, callerA]; decide) | exact Nat.le_of_ble_eq_true rfl); (case a1 => (simp only [List.length_cons, List.length_nil]; omega)))))
  intro rv h4 tk4 nw hr F4; refine park2 rv nw ?_; intro Kp hKp; obtain ⟨D2, rfl, rfl, ho2⟩ := hr; refine hKp _ _ ?_; clear hKp Kp; intro N4
  repeat' (first | (k_unfold; (try dsimp only)) | (k_end; kc_close) | ((with_reducible show wpAny _ _ (compareOp CmpOp.Eq (Value.ref _) (Value.ref _)) _ _ _); with_reducible (k_dflt (refine' eq_nil_yes (by with_reducible assumption) (by with_reducible assumption) (by with_reducible assumption) (by k_mem) (by k_mem) (by ke_room) ?_))) | ((with_reducible show wpAny _ _ (compareOp CmpOp.NotEq (Value.ref _) (Value.ref _)) _ _ _); with_reducible ((with_reducible rename HoldNe => q9hHN); refine Hold.mk ?_)) | ((with_reducible show wpAny _ _ (compareOp CmpOp.NotEq (Value.str _ _) (Value.str _ _)) _ _ _); with_reducible ((with_reducible rename HoldNe => q9hHN); first | (with_reducible refine ne_str_of rfl ?_) | refine Hold.mk ?_)) | ((with_reducible show wpAny _ _ (call (Value.ref 221) [Value.str _ _, Value.int _ _]) _ _ _); with_reducible ((first | k_dflt (refine' c_written _ _ _ 1 ?_ ?_ (by omega) _ _ _ _ _ _ _ _ _ _ _ _ _ _ _ _ _ _ _ _ (by k_asm) (by k_asm) (by k_in) (by k_asm) (by k_asm) (by k_room) (by k_room) ?_) | k_dflt (refine' c_written _ _ _ 2 ?_ ?_ (by omega) _ _ _ _ _ _ _ _ _ _ _ _ _ _ _ _ _ _ _ _ (by k_asm) (by k_asm) (by k_in) (by k_asm) (by k_asm) (by k_room) (by k_room) ?_) | k_dflt (refine' c_written _ _ _ 3 ?_ ?_ (by omega) _ _ _ _ _ _ _ _ _ _ _ _ _ _ _ _ _ _ _ _ (by k_asm) (by k_asm) (by k_in) (by k_asm) (by k_asm) (by k_room) (by k_room) ?_)); (try any_goals ((fail_if_success with_reducible show wpAny _ _ _ _ _ _); decide)); (try any_goals ((fail_if_success with_reducible show wpAny _ _ _ _ _ _); decide)); intro q9rv q9h' q9tk' q9nw q9hr q9F'; refine park2 q9rv q9nw ?_; intro q9Kp q9hKp; obtain ⟨q9en, q9tt, q9er⟩ := q9hr; cases q9en; cases q9er; refine q9hKp _ _ ?_; clear q9hKp q9Kp; intro q9N')) | ((with_reducible show wpAny _ _ (call (Value.ref _) _ _) _ _ _); with_reducible (k_here; (first | (with_reducible show wpAny _ _ (call (Value.ref 216) _) _ _ _) | (with_reducible show wpAny _ _ (call (Value.ref 109) _) _ _ _) | (with_reducible show wpAny _ _ (call (Value.ref 148) _) _ _ _) | (with_reducible show wpAny _ _ (call (Value.ref 160) _) _ _ _) | (with_reducible show wpAny _ _ (call (Value.builtin "list.append") _) _ _ _)); refine Hold.mk ?_)) | ((with_reducible show wpAny _ _ (newList ..) _ _ _); with_reducible (k_here; k_dflt (refine' newList_K (by k_asm) (by k_asm) ?_ (by first | exact Nat.zero_le _ | exact Nat.le_of_ble_eq_true rfl | size_fits); k_whole); intro q9l' q9h' q9F' q9N' q9l1; (try k_lt q9l1); (try k_sweep))) | walk1 | (dsimp only; walk1) | (leave1; (try dsimp only)))
  unfold Hold
  rename News _ _ _ _ => N5
  rw [wr1] at N5
  refine ne_two (a := Str.ofString "Nest") (b := valF (plainF text)) (c := Str.ofString "nest") (d := fmtF (Str.ofString "k-1") text) N5 okT_nest (okT_val text) okT_nest' (okT_fmt (okT_text hText)) (by k_mem) (by k_mem) (by k_mem) (by k_mem) (by k_mem) (by k_mem) (by ke_room) ?_
  repeat' (first | (k_unfold; (try dsimp only)) | (k_end; kc_close) | ((with_reducible show wpAny _ _ (compareOp CmpOp.Eq (Value.ref _) (Value.ref _)) _ _ _); with_reducible (k_dflt (refine' eq_nil_yes (by with_reducible assumption) (by with_reducible assumption) (by with_reducible assumption) (by k_mem) (by k_mem) (by ke_room) ?_))) | ((with_reducible show wpAny _ _ (compareOp CmpOp.NotEq (Value.ref _) (Value.ref _)) _ _ _); with_reducible ((with_reducible rename HoldNe => q9hHN); refine Hold.mk ?_)) | ((with_reducible show wpAny _ _ (compareOp CmpOp.NotEq (Value.str _ _) (Value.str _ _)) _ _ _); with_reducible ((with_reducible rename HoldNe => q9hHN); first | (with_reducible refine ne_str_of rfl ?_) | refine Hold.mk ?_)) | ((with_reducible show wpAny _ _ (call (Value.ref 221) [Value.str _ _, Value.int _ _]) _ _ _); with_reducible ((first | k_dflt (refine' c_written _ _ _ 1 ?_ ?_ (by omega) _ _ _ _ _ _ _ _ _ _ _ _ _ _ _ _ _ _ _ _ (by k_asm) (by k_asm) (by k_in) (by k_asm) (by k_asm) (by k_room) (by k_room) ?_) | k_dflt (refine' c_written _ _ _ 2 ?_ ?_ (by omega) _ _ _ _ _ _ _ _ _ _ _ _ _ _ _ _ _ _ _ _ (by k_asm) (by k_asm) (by k_in) (by k_asm) (by k_asm) (by k_room) (by k_room) ?_) | k_dflt (refine' c_written _ _ _ 3 ?_ ?_ (by omega) _ _ _ _ _ _ _ _ _ _ _ _ _ _ _ _ _ _ _ _ (by k_asm) (by k_asm) (by k_in) (by k_asm) (by k_asm) (by k_room) (by k_room) ?_)); (try any_goals ((fail_if_success with_reducible show wpAny _ _ _ _ _ _); decide)); (try any_goals ((fail_if_success with_reducible show wpAny _ _ _ _ _ _); decide)); intro q9rv q9h' q9tk' q9nw q9hr q9F'; refine park2 q9rv q9nw ?_; intro q9Kp q9hKp; obtain ⟨q9en, q9tt, q9er⟩ := q9hr; cases q9en; cases q9er; refine q9hKp _ _ ?_; clear q9hKp q9Kp; intro q9N')) | ((with_reducible show wpAny _ _ (call (Value.ref _) _ _) _ _ _); with_reducible (k_here; (first | (with_reducible show wpAny _ _ (call (Value.ref 216) _) _ _ _) | (with_reducible show wpAny _ _ (call (Value.ref 109) _) _ _ _) | (with_reducible show wpAny _ _ (call (Value.ref 148) _) _ _ _) | (with_reducible show wpAny _ _ (call (Value.ref 160) _) _ _ _) | (with_reducible show wpAny _ _ (call (Value.builtin "list.append") _) _ _ _)); refine Hold.mk ?_)) | ((with_reducible show wpAny _ _ (newList ..) _ _ _); with_reducible (k_here; k_dflt (refine' newList_K (by k_asm) (by k_asm) ?_ (by first | exact Nat.zero_le _ | exact Nat.le_of_ble_eq_true rfl | size_fits); k_whole); intro q9l' q9h' q9F' q9N' q9l1; (try k_lt q9l1); (try k_sweep))) | walk1 | (dsimp only; walk1) | (leave1; (try dsimp only)))
  rename Fr _ _ _ _ => F6; rename News _ _ _ _ => N6
  exact ⟨rfl, hK9 _ (hQ _ _ _ _ _ _ (off_tab ho2) F6 (cb_drop N6 (by kcj_all)))⟩
end
end Mine
end
section
open PySem PySem.W PySem.Calls PyProof.Rows
set_option Elab.async false
set_option maxRecDepth 100000
set_option maxHeartbeats 40000000
namespace Mine
theorem anew_CS3h : True := by
  w_top off
  exact True.intro
section
variable {w : World} {p : Program} {loose : List Str} {mean : ExcName → Option Value} {mg mb : Str → Option Value} {h₀ : Heap} {L : Nat} {fa : Addr} {cd : Value} {m : Str → Option Value} {w2 w1 : Obj} {Q : Flow → Shared → Prop} {E : Value → Shared → Prop} {s : Shared}
variable {text : Str} {tt tp tw tv tc td tn tT t2n t2 tkA tkB : Tok} {D B x1 d1 l1 x2 d2 l2 T T2 D2 R : Addr} {ys vs rv : List Value} {ns : List Int} {oB : Obj} {hs1 hs2 : Int} {k1 k2 rn : Nat} {bo to si : Value} {fr : Bool}
set_option maxHeartbeats 40000000
variable {ba en li re : Value} {bare e line nxt : Str} {tb te tli tre tl : Tok} {I c' G : Addr} {oI oc oL oG wG wL : Obj} {vs0 : Array Value} {t0 : Tok} {mZ : Str → Option Value} {dI : Int} {v0 vL v1 : Option Value} {gv : List Value}
theorem S3h (hX : (hd.heap_39 w.params).In h₀) (hTp : Top p loose mean mg mb h₀) (hBl : Below callerA h₀ [] h₀)
    (hText : TextOk text) (hbad : bads text = []) (hoff : ∀ q ∈ ledG x2 d2 l2 hs2 tkB k2 T T2 (tupObj [.str (Str.ofString "Nest") tn, .str (valF (plainF text)) tT]) (tupObj [.str (Str.ofString "nest") t2n, .str (fmtF (Str.ofString "k-1") text) t2]) (tabled x1 d1 l1 hs1 tkA k1 [] 0 (led0 L B D ys vs oB w2 w1)), q.1 ≠ D2) (hy : StrsAre ys (bads text)) (hcB : oB.data = .cell (some (.ref B))) (F1 : Fr h₀ L s.heap (mT (.ref D2) (m3 (valF (plainF text)) tv (m2 (plainF text) tp tw x1 x2 (m1 text tt D m))))) (N1 : News h₀ L s.heap ((D2, W.listOf [.ref T, .ref T2].toArray 0) :: ledG x2 d2 l2 hs2 tkB k2 T T2 (tupObj [.str (Str.ofString "Nest") tn, .str (valF (plainF text)) tT]) (tupObj [.str (Str.ofString "nest") t2n, .str (fmtF (Str.ofString "k-1") text) t2]) (tabled x1 d1 l1 hs1 tkA k1 [] 0 (led0 L B D ys vs oB w2 w1))))
    (hQ : ∀ h' tk bo to, Fr h₀ L h' (m4 bo to (m3 (valF (plainF text)) tv (m2 (plainF text) tp tw x1 x2 (m1 text tt D m)))) → News h₀ L h' (tabled x1 d1 l1 hs1 tkA k1 [] 0 (led0 L B D ys vs oB w2 w1)) → lawW w L fa cd 13 Q E { s with heap := h', toks := tk }) :
    lawW w L fa cd 10 Q E s := by
  revert hX; unfold lawW; k_fill; intro hX
  obtain ⟨h1, g1, n1, tk1, os1⟩ := s
  refine cutK 3 _ ?_
  intro K9 hK9
  dsimp only [lawB, lawRec, recOf, lawE, List.drop, List.take]
  dsimp only [m1, m2, m3, mT] at F1
  have hgv := bads_nil hbad
  have hHN : HoldNe := trivial
  have hv40 := Nat.not_lt.mpr (val_len hText)
  have hw40 := Nat.not_lt.mpr (wr1_len hText)
  have hlen := hText.len
  have hcN : (Str.ofString "Nest: ").length = 6 := by decide +kernel
  have hcr : (Str.ofString "\r\nnest: ").length = 8 := by decide +kernel
  have hct : (Str.ofString "\n\t").length = 2 := by decide +kernel
  repeat' (first | (k_unfold; (try dsimp only)) | (k_end; kc_close) | ((with_reducible show wpAny _ _ (binaryOp Operator.Add (Value.str _ _) (Value.str _ _)) _ _ _); with_reducible (k_dflt (refine' my_add (by first | omega | decide +kernel) (by first | omega | decide +kernel) ?_); intro _ _ _)) | ((with_reducible show wpAny _ _ (compareOp CmpOp.Eq (Value.ref _) (Value.ref _)) _ _ _); with_reducible (k_dflt (refine' eq_nil_yes (by with_reducible assumption) (by with_reducible assumption) (by with_reducible assumption) (by k_mem) (by k_mem) (by ke_room) ?_))) | ((with_reducible show wpAny _ _ (compareOp CmpOp.NotEq (Value.ref _) (Value.ref _)) _ _ _); with_reducible ((with_reducible rename HoldNe => q9hHN); refine Hold.mk ?_)) | ((with_reducible show wpAny _ _ (call (Value.builtin "list.append") _ _) _ _ _); with_reducible (k_here; (with_reducible rename HoldNe => q9hHN); refine Hold.mk ?_)) | ((with_reducible show wpAny _ _ (call (Value.ref 195) [Value.str _ _]) _ _ _); with_reducible (k_dflt (refine' c_splitdoc _ _ (by omega) _ _ _ _ _ _ _ _ _ _ _ _ _ _ _ _ _ _ _ _ (by k_asm) (by k_asm) (by k_in) (by k_asm) (by k_asm) (by k_room) (by k_room) ?_); intro q9rv q9h' q9tk' q9nw q9hr q9F'; refine park2 q9rv q9nw ?_; intro q9Kp q9hKp; obtain ⟨q9D, q9ta, q9tb, q9er, q9en, q9ho⟩ := q9hr; cases q9en; cases q9er; refine q9hKp _ _ ?_; clear q9hKp q9Kp; intro q9N'; (try ((with_reducible rename sdF _ = (_, _) => q9hsd9); rw [q9hsd9] at q9N'; (try dsimp only at q9N'))))) | ((with_reducible show wpAny _ _ (call (Value.ref 221) [Value.str _ _, Value.int _ _]) _ _ _); with_reducible ((first | k_dflt (refine' c_written _ _ _ 1 ?_ ?_ (by omega) _ _ _ _ _ _ _ _ _ _ _ _ _ _ _ _ _ _ _ _ (by k_asm) (by k_asm) (by k_in) (by k_asm) (by k_asm) (by k_room) (by k_room) ?_) | k_dflt (refine' c_written _ _ _ 2 ?_ ?_ (by omega) _ _ _ _ _ _ _ _ _ _ _ _ _ _ _ _ _ _ _ _ (by k_asm) (by k_asm) (by k_in) (by k_asm) (by k_asm) (by k_room) (by k_room) ?_) | k_dflt (refine' c_written _ _ _ 3 ?_ ?_ (by omega) _ _ _ _ _ _ _ _ _ _ _ _ _ _ _ _ _ _ _ _ (by k_asm) (by k_asm) (by k_in) (by k_asm) (by k_asm) (by k_room) (by k_room) ?_)); (try any_goals ((fail_if_success with_reducible show wpAny _ _ _ _ _ _); decide)); (try any_goals ((fail_if_success with_reducible show wpAny _ _ _ _ _ _); decide)); intro q9rv q9h' q9tk' q9nw q9hr q9F'; refine park2 q9rv q9nw ?_; intro q9Kp q9hKp; obtain ⟨q9en, q9tt, q9er⟩ := q9hr; cases q9en; cases q9er; refine q9hKp _ _ ?_; clear q9hKp q9Kp; intro q9N')) | ((with_reducible show wpAny _ _ (call (Value.ref _) _ _) _ _ _); with_reducible (k_here; (first | (with_reducible show wpAny _ _ (call (Value.ref 216) _) _ _ _) | (with_reducible show wpAny _ _ (call (Value.ref 109) _) _ _ _) | (with_reducible show wpAny _ _ (call (Value.ref 148) _) _ _ _) | (with_reducible show wpAny _ _ (call (Value.ref 160) _) _ _ _) | (with_reducible show wpAny _ _ (call (Value.builtin "list.append") _) _ _ _)); refine Hold.mk ?_)) | ((with_reducible show wpAny _ _ (call (Value.type "str") [Value.ref _]) _ _ _); with_reducible ((with_reducible rename Frag.In (hd.heap_39 _) _ => q9kX9); (with_reducible rename Fr _ _ _ _ => q9kF9); (have q9kk9 := in_keeps q9kX9 q9kF9); k_dflt (refine' kso_call (by first | exact Nat.le_of_ble_eq_true rfl | (dsimp only [Around.in1, Around.deeper]; omega) | (show _ + _ < _; omega)) q9kk9 (by k_inst) (by k_is) (by k_is) ?_; k_whole); clear q9kk9)) | ((with_reducible show StrBack ..); with_reducible (k_here; unfold StrBack; (try dsimp only))) | ((with_reducible show wpAny _ _ (newList ..) _ _ _); with_reducible (k_here; k_dflt (refine' newList_K (by k_asm) (by k_asm) ?_ (by first | exact Nat.zero_le _ | exact Nat.le_of_ble_eq_true rfl | size_fits); k_whole); intro q9l' q9h' q9F' q9N' q9l1; (try k_lt q9l1); (try k_sweep))) | walk1 | (dsimp only; walk1) | (leave1; (try dsimp only)))
  unfold Hold
  rename Fr _ _ _ _ => F6
  refine append_off F6 N1 hoff (Nat.le_of_ble_eq_true rfl) ?_
  intro h5 F7 N8
  clear F6 N1 hoff
  dsimp only [ledG, tabled, led0] at N8
  try dsimp only
  repeat' (first | (k_unfold; (try dsimp only)) | (k_end; kc_close) | ((with_reducible show wpAny _ _ (binaryOp Operator.Add (Value.str _ _) (Value.str _ _)) _ _ _); with_reducible (k_dflt (refine' my_add (by first | omega | decide +kernel) (by first | omega | decide +kernel) ?_); intro _ _ _)) | ((with_reducible show wpAny _ _ (compareOp CmpOp.Eq (Value.ref _) (Value.ref _)) _ _ _); with_reducible (k_dflt (refine' eq_nil_yes (by with_reducible assumption) (by with_reducible assumption) (by with_reducible assumption) (by k_mem) (by k_mem) (by ke_room) ?_))) | ((with_reducible show wpAny _ _ (compareOp CmpOp.NotEq (Value.ref _) (Value.ref _)) _ _ _); with_reducible ((with_reducible rename HoldNe => q9hHN); refine Hold.mk ?_)) | ((with_reducible show wpAny _ _ (call (Value.builtin "list.append") _ _) _ _ _); with_reducible (k_here; (with_reducible rename HoldNe => q9hHN); refine Hold.mk ?_)) | ((with_reducible show wpAny _ _ (call (Value.ref 195) [Value.str _ _]) _ _ _); with_reducible (k_dflt (refine' c_splitdoc _ _ (by omega) _ _ _ _ _ _ _ _ _ _ _ _ _ _ _ _ _ _ _ _ (by k_asm) (by k_asm) (by k_in) (by k_asm) (by k_asm) (by k_room) (by k_room) ?_); intro q9rv q9h' q9tk' q9nw q9hr q9F'; refine park2 q9rv q9nw ?_; intro q9Kp q9hKp; obtain ⟨q9D, q9ta, q9tb, q9er, q9en, q9ho⟩ := q9hr; cases q9en; cases q9er; refine q9hKp _ _ ?_; clear q9hKp q9Kp; intro q9N'; (try ((with_reducible rename sdF _ = (_, _) => q9hsd9); rw [q9hsd9] at q9N'; (try dsimp only at q9N'))))) | ((with_reducible show wpAny _ _ (call (Value.ref 221) [Value.str _ _, Value.int _ _]) _ _ _); with_reducible ((first | k_dflt (refine' c_written _ _ _ 1 ?_ ?_ (by omega) _ _ _ _ _ _ _ _ _ _ _ _ _ _ _ _ _ _ _ _ (by k_asm) (by k_asm) (by k_in) (by k_asm) (by k_asm) (by k_room) (by k_room) ?_) | k_dflt (refine' c_written _ _ _ 2 ?_ ?_ (by omega) _ _ _ _ _ _ _ _ _ _ _ _ _ _ _ _ _ _ _ _ (by k_asm) (by k_asm) (by k_in) (by k_asm) (by k_asm) (by k_room) (by k_room) ?_) | k_dflt (refine' c_written _ _ _ 3 ?_ ?_ (by omega) _ _ _ _ _ _ _ _ _ _ _ _ _ _ _ _ _ _ _ _ (by k_asm) (by k_asm) (by k_in) (by k_asm) (by k_asm) (by k_room) (by k_room) ?_)); (try any_goals ((fail_if_success with_reducible show wpAny _ _ _ _ _ _); decide)); (try any_goals ((fail_if_success with_reducible show wpAny _ _ _ _ _ _); decide)); intro q9rv q9h' q9tk' q9nw q9hr q9F'; refine park2 q9rv q9nw ?_; intro q9Kp q9hKp; obtain ⟨q9en, q9tt, q9er⟩ := q9hr; cases q9en; cases q9er; refine q9hKp _ _ ?_; clear q9hKp q9Kp; intro q9N')) | ((with_reducible show wpAny _ _ (call (Value.ref _) _ _) _ _ _); with_reducible (k_here; (first | (with_reducible show wpAny _ _ (call (Value.ref 216) _) _ _ _) | (with_reducible show wpAny _ _ (call (Value.ref 109) _) _ _ _) | (with_reducible show wpAny _ _ (call (Value.ref 148) _) _ _ _) | (with_reducible show wpAny _ _ (call (Value.ref 160) _) _ _ _) | (with_reducible show wpAny _ _ (call (Value.builtin "list.append") _) _ _ _)); refine Hold.mk ?_)) | ((with_reducible show wpAny _ _ (call (Value.type "str") [Value.ref _]) _ _ _); with_reducible ((with_reducible rename Frag.In (hd.heap_39 _) _ => q9kX9); (with_reducible rename Fr _ _ _ _ => q9kF9); (have q9kk9 := in_keeps q9kX9 q9kF9); k_dflt (refine' kso_call (by first | exact Nat.le_of_ble_eq_true rfl | (dsimp only [Around.in1, Around.deeper]; omega) | (show _ + _ < _; omega)) q9kk9 (by k_inst) (by k_is) (by k_is) ?_; k_whole); clear q9kk9)) | ((with_reducible show StrBack ..); with_reducible (k_here; unfold StrBack; (try dsimp only))) | ((with_reducible show wpAny _ _ (newList ..) _ _ _); with_reducible (k_here; k_dflt (refine' newList_K (by k_asm) (by k_asm) ?_ (by first | exact Nat.zero_le _ | exact Nat.le_of_ble_eq_true rfl | size_fits); k_whole); intro q9l' q9h' q9F' q9N' q9l1; (try k_lt q9l1); (try k_sweep))) | walk1 | (dsimp only; walk1) | (leave1; (try dsimp only)))
  unfold Hold
  rename News _ _ _ _ => N9
  have N10 := news_dup (tabled x2 d2 l2 hs2 tkB k2 [.ref T, .ref T2] 2 [(T, tupObj [.str (Str.ofString "Nest") tn, .str (valF (plainF text)) tT]), (T2, tupObj [.str (Str.ofString "nest") t2n, .str (fmtF (Str.ofString "k-1") text) t2])]) N9 (by kcj_all)
  clear N9
  dsimp only [tabled, List.cons_append, List.nil_append] at N10
  ((k_dflt (refine' c_str _ _ _ _ _ _ _ _ _ ?a1 ?a2 _ _ _ _ _ _ _ _ _ _ _ _ _ _ _ _ _ _ _ _ ?B ?F ?X ?N ?T ?d ?u ?_; (case B => k_asm); (case F => k_asm); (case X => k_in); (case N => with_reducible assumption); (case T => k_asm); (case d => first | exact Nat.le_of_ble_eq_true rfl | ktr_room | (simp only [depth_deeper]; omega) | (dsimp only [Around.deeper, Around.in1]; omega) | (simp only [Around.deeper, Around.in1, ktrTop]; omega) | exact Nat.le_of_ble_eq_true rfl); (case u => first | exact Nat.le_of_ble_eq_true rfl | ktr_room | (simp only [depth_deeper]; omega) | (dsimp only [Around.deeper, Around.in1]; omega) | (simp only [Around.deeper, Around.in1, ktrTop]; omega) | exact Nat.le_of_ble_eq_true rfl); (case a1 => (simp only [List.length_cons, List.length_nil]; omega)))))
  case a2 =>
    refine heads2 ?_ ?_ ?_ ?_
    · exact Nat.le_of_ble_eq_true rfl
    · omega
    · exact Nat.le_of_ble_eq_true rfl
    · rw [← wr1]; omega
  intro rv h3 tk3 nw hr F3; refine park2 rv nw ?_; intro Kp hKp; obtain ⟨tr, rfl, hsl, rfl⟩ := hr; refine hKp _ _ ?_; clear hKp Kp; intro N3
  replace hsl := Nat.not_lt.mpr hsl
  replace N3 := cb_drop N3 fun q hq => .tail _ (.tail _ (.tail _ (.tail _ (.tail _ hq))))
  try dsimp only
  repeat' (first | (k_unfold; (try dsimp only)) | (k_end; kc_close) | ((with_reducible show wpAny _ _ (binaryOp Operator.Add (Value.str _ _) (Value.str _ _)) _ _ _); with_reducible (k_dflt (refine' my_add (by first | omega | decide +kernel) (by first | omega | decide +kernel) ?_); intro _ _ _)) | ((with_reducible show wpAny _ _ (compareOp CmpOp.Eq (Value.ref _) (Value.ref _)) _ _ _); with_reducible (k_dflt (refine' eq_nil_yes (by with_reducible assumption) (by with_reducible assumption) (by with_reducible assumption) (by k_mem) (by k_mem) (by ke_room) ?_))) | ((with_reducible show wpAny _ _ (compareOp CmpOp.NotEq (Value.ref _) (Value.ref _)) _ _ _); with_reducible ((with_reducible rename HoldNe => q9hHN); refine Hold.mk ?_)) | ((with_reducible show wpAny _ _ (call (Value.builtin "list.append") _ _) _ _ _); with_reducible (k_here; (with_reducible rename HoldNe => q9hHN); refine Hold.mk ?_)) | ((with_reducible show wpAny _ _ (call (Value.ref 195) [Value.str _ _]) _ _ _); with_reducible (k_dflt (refine' c_splitdoc _ _ (by omega) _ _ _ _ _ _ _ _ _ _ _ _ _ _ _ _ _ _ _ _ (by k_asm) (by k_asm) (by k_in) (by k_asm) (by k_asm) (by k_room) (by k_room) ?_); intro q9rv q9h' q9tk' q9nw q9hr q9F'; refine park2 q9rv q9nw ?_; intro q9Kp q9hKp; obtain ⟨q9D, q9ta, q9tb, q9er, q9en, q9ho⟩ := q9hr; cases q9en; cases q9er; refine q9hKp _ _ ?_; clear q9hKp q9Kp; intro q9N'; (try ((with_reducible rename sdF _ = (_, _) => q9hsd9); rw [q9hsd9] at q9N'; (try dsimp only at q9N'))))) | ((with_reducible show wpAny _ _ (call (Value.ref 221) [Value.str _ _, Value.int _ _]) _ _ _); with_reducible ((first | k_dflt (refine' c_written _ _ _ 1 ?_ ?_ (by omega) _ _ _ _ _ _ _ _ _ _ _ _ _ _ _ _ _ _ _ _ (by k_asm) (by k_asm) (by k_in) (by k_asm) (by k_asm) (by k_room) (by k_room) ?_) | k_dflt (refine' c_written _ _ _ 2 ?_ ?_ (by omega) _ _ _ _ _ _ _ _ _ _ _ _ _ _ _ _ _ _ _ _ (by k_asm) (by k_asm) (by k_in) (by k_asm) (by k_asm) (by k_room) (by k_room) ?_) | k_dflt (refine' c_written _ _ _ 3 ?_ ?_ (by omega) _ _ _ _ _ _ _ _ _ _ _ _ _ _ _ _ _ _ _ _ (by k_asm) (by k_asm) (by k_in) (by k_asm) (by k_asm) (by k_room) (by k_room) ?_)); (try any_goals ((fail_if_success with_reducible show wpAny _ _ _ _ _ _); decide)); (try any_goals ((fail_if_success with_reducible show wpAny _ _ _ _ _ _); decide)); intro q9rv q9h' q9tk' q9nw q9hr q9F'; refine park2 q9rv q9nw ?_; intro q9Kp q9hKp; obtain ⟨q9en, q9tt, q9er⟩ := q9hr; cases q9en; cases q9er; refine q9hKp _ _ ?_; clear q9hKp q9Kp; intro q9N')) | ((with_reducible show wpAny _ _ (call (Value.ref _) _ _) _ _ _); with_reducible (k_here; (first | (with_reducible show wpAny _ _ (call (Value.ref 216) _) _ _ _) | (with_reducible show wpAny _ _ (call (Value.ref 109) _) _ _ _) | (with_reducible show wpAny _ _ (call (Value.ref 148) _) _ _ _) | (with_reducible show wpAny _ _ (call (Value.ref 160) _) _ _ _) | (with_reducible show wpAny _ _ (call (Value.builtin "list.append") _) _ _ _)); refine Hold.mk ?_)) | ((with_reducible show wpAny _ _ (call (Value.type "str") [Value.ref _]) _ _ _); with_reducible ((with_reducible rename Frag.In (hd.heap_39 _) _ => q9kX9); (with_reducible rename Fr _ _ _ _ => q9kF9); (have q9kk9 := in_keeps q9kX9 q9kF9); k_dflt (refine' kso_call (by first | exact Nat.le_of_ble_eq_true rfl | (dsimp only [Around.in1, Around.deeper]; omega) | (show _ + _ < _; omega)) q9kk9 (by k_inst) (by k_is) (by k_is) ?_; k_whole); clear q9kk9)) | ((with_reducible show StrBack ..); with_reducible (k_here; unfold StrBack; (try dsimp only))) | ((with_reducible show wpAny _ _ (newList ..) _ _ _); with_reducible (k_here; k_dflt (refine' newList_K (by k_asm) (by k_asm) ?_ (by first | exact Nat.zero_le _ | exact Nat.le_of_ble_eq_true rfl | size_fits); k_whole); intro q9l' q9h' q9F' q9N' q9l1; (try k_lt q9l1); (try k_sweep))) | walk1 | (dsimp only; walk1) | (leave1; (try dsimp only)))
  unfold Hold
  rename News _ _ _ _ => N11
  simp only [sd_tab2 (val_line text) (wr1 text ▸ nest_line hgv), both_eq, wr1] at N11
  refine ne_tup (a := Str.ofString "") (b := Str.ofString "Nest: " ++ valF (plainF text) ++ Str.ofString "\r\nnest: " ++ fmtF (Str.ofString "k-1") text) N11 okT_empty (okT_app (okT_app (okT_app okT_crn.1 (okT_val text)) okT_crn.2) (okT_fmt (okT_text hText))) (by k_mem) (by k_mem) (by ke_room) ?_
  repeat' (first | (k_unfold; (try dsimp only)) | (k_end; kc_close) | ((with_reducible show wpAny _ _ (binaryOp Operator.Add (Value.str _ _) (Value.str _ _)) _ _ _); with_reducible (k_dflt (refine' my_add (by first | omega | decide +kernel) (by first | omega | decide +kernel) ?_); intro _ _ _)) | ((with_reducible show wpAny _ _ (compareOp CmpOp.Eq (Value.ref _) (Value.ref _)) _ _ _); with_reducible (k_dflt (refine' eq_nil_yes (by with_reducible assumption) (by with_reducible assumption) (by with_reducible assumption) (by k_mem) (by k_mem) (by ke_room) ?_))) | ((with_reducible show wpAny _ _ (compareOp CmpOp.NotEq (Value.ref _) (Value.ref _)) _ _ _); with_reducible ((with_reducible rename HoldNe => q9hHN); refine Hold.mk ?_)) | ((with_reducible show wpAny _ _ (call (Value.builtin "list.append") _ _) _ _ _); with_reducible (k_here; (with_reducible rename HoldNe => q9hHN); refine Hold.mk ?_)) | ((with_reducible show wpAny _ _ (call (Value.ref 195) [Value.str _ _]) _ _ _); with_reducible (k_dflt (refine' c_splitdoc _ _ (by omega) _ _ _ _ _ _ _ _ _ _ _ _ _ _ _ _ _ _ _ _ (by k_asm) (by k_asm) (by k_in) (by k_asm) (by k_asm) (by k_room) (by k_room) ?_); intro q9rv q9h' q9tk' q9nw q9hr q9F'; refine park2 q9rv q9nw ?_; intro q9Kp q9hKp; obtain ⟨q9D, q9ta, q9tb, q9er, q9en, q9ho⟩ := q9hr; cases q9en; cases q9er; refine q9hKp _ _ ?_; clear q9hKp q9Kp; intro q9N'; (try ((with_reducible rename sdF _ = (_, _) => q9hsd9); rw [q9hsd9] at q9N'; (try dsimp only at q9N'))))) | ((with_reducible show wpAny _ _ (call (Value.ref 221) [Value.str _ _, Value.int _ _]) _ _ _); with_reducible ((first | k_dflt (refine' c_written _ _ _ 1 ?_ ?_ (by omega) _ _ _ _ _ _ _ _ _ _ _ _ _ _ _ _ _ _ _ _ (by k_asm) (by k_asm) (by k_in) (by k_asm) (by k_asm) (by k_room) (by k_room) ?_) | k_dflt (refine' c_written _ _ _ 2 ?_ ?_ (by omega) _ _ _ _ _ _ _ _ _ _ _ _ _ _ _ _ _ _ _ _ (by k_asm) (by k_asm) (by k_in) (by k_asm) (by k_asm) (by k_room) (by k_room) ?_) | k_dflt (refine' c_written _ _ _ 3 ?_ ?_ (by omega) _ _ _ _ _ _ _ _ _ _ _ _ _ _ _ _ _ _ _ _ (by k_asm) (by k_asm) (by k_in) (by k_asm) (by k_asm) (by k_room) (by k_room) ?_)); (try any_goals ((fail_if_success with_reducible show wpAny _ _ _ _ _ _); decide)); (try any_goals ((fail_if_success with_reducible show wpAny _ _ _ _ _ _); decide)); intro q9rv q9h' q9tk' q9nw q9hr q9F'; refine park2 q9rv q9nw ?_; intro q9Kp q9hKp; obtain ⟨q9en, q9tt, q9er⟩ := q9hr; cases q9en; cases q9er; refine q9hKp _ _ ?_; clear q9hKp q9Kp; intro q9N')) | ((with_reducible show wpAny _ _ (call (Value.ref _) _ _) _ _ _); with_reducible (k_here; (first | (with_reducible show wpAny _ _ (call (Value.ref 216) _) _ _ _) | (with_reducible show wpAny _ _ (call (Value.ref 109) _) _ _ _) | (with_reducible show wpAny _ _ (call (Value.ref 148) _) _ _ _) | (with_reducible show wpAny _ _ (call (Value.ref 160) _) _ _ _) | (with_reducible show wpAny _ _ (call (Value.builtin "list.append") _) _ _ _)); refine Hold.mk ?_)) | ((with_reducible show wpAny _ _ (call (Value.type "str") [Value.ref _]) _ _ _); with_reducible ((with_reducible rename Frag.In (hd.heap_39 _) _ => q9kX9); (with_reducible rename Fr _ _ _ _ => q9kF9); (have q9kk9 := in_keeps q9kX9 q9kF9); k_dflt (refine' kso_call (by first | exact Nat.le_of_ble_eq_true rfl | (dsimp only [Around.in1, Around.deeper]; omega) | (show _ + _ < _; omega)) q9kk9 (by k_inst) (by k_is) (by k_is) ?_; k_whole); clear q9kk9)) | ((with_reducible show StrBack ..); with_reducible (k_here; unfold StrBack; (try dsimp only))) | ((with_reducible show wpAny _ _ (newList ..) _ _ _); with_reducible (k_here; k_dflt (refine' newList_K (by k_asm) (by k_asm) ?_ (by first | exact Nat.zero_le _ | exact Nat.le_of_ble_eq_true rfl | size_fits); k_whole); intro q9l' q9h' q9F' q9N' q9l1; (try k_lt q9l1); (try k_sweep))) | walk1 | (dsimp only; walk1) | (leave1; (try dsimp only)))
  rename Fr _ _ _ _ => F9; rename News _ _ _ _ => N12
  exact ⟨rfl, hK9 _ (hQ _ _ _ _ F9 (cb_drop N12 (by kcj_all)))⟩
end
end Mine
end
section
open PySem PySem.W PySem.Calls PyProof.Rows
set_option Elab.async false
set_option maxRecDepth 100000
set_option maxHeartbeats 40000000
namespace Mine
theorem anew_CS3b : True := by
  w_top off
  exact True.intro
section
variable {w : World} {p : Program} {loose : List Str} {mean : ExcName → Option Value} {mg mb : Str → Option Value} {h₀ : Heap} {L : Nat} {fa : Addr} {cd : Value} {m : Str → Option Value} {w2 w1 : Obj} {Q : Flow → Shared → Prop} {E : Value → Shared → Prop} {s : Shared}
variable {text : Str} {tt tp tw tv tc td tn tT t2n t2 tkA tkB : Tok} {D B x1 d1 l1 x2 d2 l2 T T2 D2 R : Addr} {ys vs rv : List Value} {ns : List Int} {oB : Obj} {hs1 hs2 : Int} {k1 k2 rn : Nat} {bo to si : Value} {fr : Bool}
set_option maxHeartbeats 40000000
variable {ba en li re : Value} {bare e line nxt : Str} {tb te tli tre tl : Tok} {I c' G : Addr} {oI oc oL oG wG wL : Obj} {vs0 : Array Value} {t0 : Tok} {mZ : Str → Option Value} {dI : Int} {v0 vL v1 : Option Value} {gv : List Value}
theorem S3b (hX : (hd.heap_39 w.params).In h₀) (hTp : Top p loose mean mg mb h₀) (hBl : Below callerA h₀ [] h₀)
    (hText : TextOk text) (hO : Ord2 (led0 L B D ys vs oB w2 w1) x1 d1 l1 x2 d2 l2) (hT : @LT.lt Nat _ l2 T) (hbad : ¬ bads text = []) (hy : StrsAre ys (bads text)) (hcB : oB.data = .cell (some (.ref B))) (F1 : Fr h₀ L s.heap (m3 (valF (plainF text)) tv (m2 (plainF text) tp tw x1 x2 (m1 text tt D m)))) (N1 : News h₀ L s.heap (tabled x2 d2 l2 hs2 tkB k2 [.ref T] 1 ((T, tupObj [.str (Str.ofString "Nest") tn, .str (valF (plainF text)) tT]) :: tabled x1 d1 l1 hs1 tkA k1 [] 0 (led0 L B D ys vs oB w2 w1))))
    (hQ : ∀ h' tk D2, (∀ q ∈ tabled x2 d2 l2 hs2 tkB k2 [.ref T] 1 ((T, tupObj [.str (Str.ofString "Nest") tn, .str (valF (plainF text)) tT]) :: tabled x1 d1 l1 hs1 tkA k1 [] 0 (led0 L B D ys vs oB w2 w1)), q.1 ≠ D2) → Fr h₀ L h' (mT (.ref D2) (m3 (valF (plainF text)) tv (m2 (plainF text) tp tw x1 x2 (m1 text tt D m)))) → News h₀ L h' ((D2, W.listOf [.ref T].toArray 0) :: tabled x2 d2 l2 hs2 tkB k2 [.ref T] 1 ((T, tupObj [.str (Str.ofString "Nest") tn, .str (valF (plainF text)) tT]) :: tabled x1 d1 l1 hs1 tkA k1 [] 0 (led0 L B D ys vs oB w2 w1))) → lawW w L fa cd 10 Q E { s with heap := h', toks := tk }) :
    lawW w L fa cd 7 Q E s := by
  revert hX; unfold lawW; k_fill; intro hX
  obtain ⟨h1, g1, n1, tk1, os1⟩ := s
  refine cutK 3 _ ?_
  intro K9 hK9
  dsimp only [lawB, lawRec, recOf, lawE, List.drop, List.take]
  dsimp only [m1, m2, m3, tabled, led0] at F1 N1
  have hx2l := hO.x2l; have hd2l := hO.d2l
  have hbv := bads_ne hbad
  have hHN : HoldNe := trivial
  have hnl4 : (Str.ofString "nest").length ≤ 10 := by decide +kernel
  have hlen := hText.len
  have hn1 := goodN_nest; have hn2 := goodN_k1
  repeat' (first | (k_unfold; (try dsimp only)) | (k_end; kc_close) | ((with_reducible show wpAny _ _ (compareOp CmpOp.Eq (Value.ref _) (Value.ref _)) _ _ _); with_reducible (k_dflt (refine' eq_nil_no (by with_reducible assumption) (by with_reducible assumption) (by with_reducible assumption) (by with_reducible assumption) (by k_mem) (by k_mem) (by ke_room) ?_))) | ((with_reducible show wpAny _ _ (compareOp CmpOp.NotEq (Value.ref _) (Value.ref _)) _ _ _); with_reducible ((with_reducible rename HoldNe => q9hHN); refine Hold.mk ?_)) | ((with_reducible show wpAny _ _ (compareOp CmpOp.NotEq (Value.str _ _) (Value.str _ _)) _ _ _); with_reducible ((with_reducible rename HoldNe => q9hHN); first | (with_reducible refine ne_str_of rfl ?_) | refine Hold.mk ?_)) | ((with_reducible show wpAny _ _ (call (Value.ref _) _ _) _ _ _); with_reducible (k_here; (first | (with_reducible show wpAny _ _ (call (Value.ref 216) _) _ _ _) | (with_reducible show wpAny _ _ (call (Value.ref 109) _) _ _ _) | (with_reducible show wpAny _ _ (call (Value.ref 148) _) _ _ _) | (with_reducible show wpAny _ _ (call (Value.ref 160) _) _ _ _) | (with_reducible show wpAny _ _ (call (Value.builtin "list.append") _) _ _ _)); refine Hold.mk ?_)) | ((with_reducible show wpAny _ _ (newList ..) _ _ _); with_reducible (k_here; k_dflt (refine' newList_K (by k_asm) (by k_asm) ?_ (by first | exact Nat.zero_le _ | exact Nat.le_of_ble_eq_true rfl | size_fits); k_whole); intro q9l' q9h' q9F' q9N' q9l1; (try k_lt q9l1); (try k_sweep))) | walk1 | (dsimp only; walk1) | (leave1; (try dsimp only)))
  unfold Hold
  ((k_dflt (refine' c_refB _ _ _ _ _ _ _ _ _ _ _ _ ?a1 ?a2 ?a3 _ _ _ _ _ _ _ _ _ _ _ _ _ _ _ _ _ _ ?B ?F ?X ?N ?T ?d ?u ?_; (case B => k_asm); (case F => k_asm); (case X => k_in); (case N => with_reducible assumption); (case T => k_asm); (case d => first | exact Nat.le_of_ble_eq_true rfl | ktr_room | (simp only [depth_deeper]; omega) | (dsimp only [Around.deeper, Around.in1]; omega) | (simp only [Around.deeper, Around.in1, ktrTop]; omega)); (case u => first | exact Nat.le_of_ble_eq_true rfl | ktr_room | (simp only [Around.deeper]; omega) | (dsimp only [Around.deeper, Around.in1]; omega) | (simp only [Around.deeper, Around.in1, ktrTop]; omega) | (dsimp only [Around.in1, Around.deeper, callerA]; decide) | exact Nat.le_of_ble_eq_true rfl); (case a1 => first | with_reducible assumption | omega); (case a2 => with_reducible assumption); (case a3 => with_reducible assumption))))
  intro rv h2 tk2 nw hr F2; refine park2 rv nw ?_; intro Kp hKp; obtain ⟨tr2, rfl, rfl⟩ := hr; refine hKp _ _ ?_; clear hKp Kp; intro N2
  unfold wordsF
  repeat' (first | (k_unfold; (try dsimp only)) | (k_end; kc_close) | ((with_reducible show wpAny _ _ (compareOp CmpOp.Eq (Value.ref _) (Value.ref _)) _ _ _); with_reducible (k_dflt (refine' eq_nil_no (by with_reducible assumption) (by with_reducible assumption) (by with_reducible assumption) (by with_reducible assumption) (by k_mem) (by k_mem) (by ke_room) ?_))) | ((with_reducible show wpAny _ _ (compareOp CmpOp.NotEq (Value.ref _) (Value.ref _)) _ _ _); with_reducible ((with_reducible rename HoldNe => q9hHN); refine Hold.mk ?_)) | ((with_reducible show wpAny _ _ (compareOp CmpOp.NotEq (Value.str _ _) (Value.str _ _)) _ _ _); with_reducible ((with_reducible rename HoldNe => q9hHN); first | (with_reducible refine ne_str_of rfl ?_) | refine Hold.mk ?_)) | ((with_reducible show wpAny _ _ (call (Value.ref _) _ _) _ _ _); with_reducible (k_here; (first | (with_reducible show wpAny _ _ (call (Value.ref 216) _) _ _ _) | (with_reducible show wpAny _ _ (call (Value.ref 109) _) _ _ _) | (with_reducible show wpAny _ _ (call (Value.ref 148) _) _ _ _) | (with_reducible show wpAny _ _ (call (Value.ref 160) _) _ _ _) | (with_reducible show wpAny _ _ (call (Value.builtin "list.append") _) _ _ _)); refine Hold.mk ?_)) | ((with_reducible show wpAny _ _ (newList ..) _ _ _); with_reducible (k_here; k_dflt (refine' newList_K (by k_asm) (by k_asm) ?_ (by first | exact Nat.zero_le _ | exact Nat.le_of_ble_eq_true rfl | size_fits); k_whole); intro q9l' q9h' q9F' q9N' q9l1; (try k_lt q9l1); (try k_sweep))) | walk1 | (dsimp only; walk1) | (leave1; (try dsimp only)))
  rename News _ _ _ _ => N3
  have N4 := cb_drop (news := tabled x2 d2 l2 hs2 tkB k2 [.ref T] 1 ((T, _) :: tabled x1 d1 l1 hs1 tkA k1 [] 0 (led0 _ B D ys vs oB _ _))) N3 (by kcj_all)
  clear N3; dsimp only [ledG, tabled, led0] at N4
  unfold Hold
  ((k_dflt (refine' c_get _ _ _ _ _ _ _ _ _ _ _ _ _ ?a1 ?a2 _ _ _ _ _ _ _ _ _ _ _ _ _ _ _ _ _ _ _ _ ?B ?F ?X ?N ?T ?d ?u ?_; (case B => k_asm); (case F => k_asm); (case X => k_in); (case N => with_reducible assumption); (case T => k_asm); (case d => first | exact Nat.le_of_ble_eq_true rfl | ktr_room | (simp only [depth_deeper]; omega) | (dsimp only [Around.deeper, Around.in1]; omega) | (simp only [Around.deeper, Around.in1, ktrTop]; omega)); (case u => first | exact Nat.le_of_ble_eq_true rfl | ktr_room | (simp only [Around.deeper]; omega) | (dsimp only [Around.deeper, Around.in1]; omega) | (simp only [Around.deeper, Around.in1, ktrTop]; omega) | (dsimp only [Around.in1, Around.deeper, callerA]; decide) | exact Nat.le_of_ble_eq_true rfl); (case a1 => (simp only [List.length_cons, List.length_nil]; omega)); (case a2 => with_reducible assumption))))
  intro rv h3 tk3 nw hr F3; refine park2 rv nw ?_; intro Kp hKp; obtain ⟨rfl, rfl⟩ := hr; refine hKp _ _ ?_; clear hKp Kp; intro N3
  repeat' (first | (k_unfold; (try dsimp only)) | (k_end; kc_close) | ((with_reducible show wpAny _ _ (compareOp CmpOp.Eq (Value.ref _) (Value.ref _)) _ _ _); with_reducible (k_dflt (refine' eq_nil_no (by with_reducible assumption) (by with_reducible assumption) (by with_reducible assumption) (by with_reducible assumption) (by k_mem) (by k_mem) (by ke_room) ?_))) | ((with_reducible show wpAny _ _ (compareOp CmpOp.NotEq (Value.ref _) (Value.ref _)) _ _ _); with_reducible ((with_reducible rename HoldNe => q9hHN); refine Hold.mk ?_)) | ((with_reducible show wpAny _ _ (compareOp CmpOp.NotEq (Value.str _ _) (Value.str _ _)) _ _ _); with_reducible ((with_reducible rename HoldNe => q9hHN); first | (with_reducible refine ne_str_of rfl ?_) | refine Hold.mk ?_)) | ((with_reducible show wpAny _ _ (call (Value.ref _) _ _) _ _ _); with_reducible (k_here; (first | (with_reducible show wpAny _ _ (call (Value.ref 216) _) _ _ _) | (with_reducible show wpAny _ _ (call (Value.ref 109) _) _ _ _) | (with_reducible show wpAny _ _ (call (Value.ref 148) _) _ _ _) | (with_reducible show wpAny _ _ (call (Value.ref 160) _) _ _ _) | (with_reducible show wpAny _ _ (call (Value.builtin "list.append") _) _ _ _)); refine Hold.mk ?_)) | ((with_reducible show wpAny _ _ (newList ..) _ _ _); with_reducible (k_here; k_dflt (refine' newList_K (by k_asm) (by k_asm) ?_ (by first | exact Nat.zero_le _ | exact Nat.le_of_ble_eq_true rfl | size_fits); k_whole); intro q9l' q9h' q9F' q9N' q9l1; (try k_lt q9l1); (try k_sweep))) | walk1 | (dsimp only; walk1) | (leave1; (try dsimp only)))
  unfold Hold
  ((k_dflt (refine' c_items _ _ _ _ _ _ _ _ ?a1 _ _ _ _ _ _ _ _ _ _ _ _ _ _ _ _ _ _ _ _ ?B ?F ?X ?N ?T ?d ?u ?_; (case B => k_asm); (case F => k_asm); (case X => k_in); (case N => with_reducible assumption); (case T => k_asm); (case d => first | exact Nat.le_of_ble_eq_true rfl | ktr_room | (simp only [depth_deeper]; omega) | (dsimp only [Around.deeper, Around.in1]; omega) | (simp only [Around.deeper, Around.in1, ktrTop]; omega)); (case u => first | exact Nat.le_of_ble_eq_true rfl | ktr_room | (simp only [Around.deeper]; omega) | (dsimp only [Around.deeper, Around.in1]; omega) | (simp only [Around.deeper, Around.in1, ktrTop]; omega) | (dsimp only [Around.in1, Around.deeper, callerA]; decide) | exact Nat.le_of_ble_eq_true rfl); (case a1 => (simp only [List.length_cons, List.length_nil]; omega)))))
  intro rv h4 tk4 nw hr F4; refine park2 rv nw ?_; intro Kp hKp; obtain ⟨D2, rfl, rfl, ho2⟩ := hr; refine hKp _ _ ?_; clear hKp Kp; intro N4
  repeat' (first | (k_unfold; (try dsimp only)) | (k_end; kc_close) | ((with_reducible show wpAny _ _ (compareOp CmpOp.Eq (Value.ref _) (Value.ref _)) _ _ _); with_reducible (k_dflt (refine' eq_nil_no (by with_reducible assumption) (by with_reducible assumption) (by with_reducible assumption) (by with_reducible assumption) (by k_mem) (by k_mem) (by ke_room) ?_))) | ((with_reducible show wpAny _ _ (compareOp CmpOp.NotEq (Value.ref _) (Value.ref _)) _ _ _); with_reducible ((with_reducible rename HoldNe => q9hHN); refine Hold.mk ?_)) | ((with_reducible show wpAny _ _ (compareOp CmpOp.NotEq (Value.str _ _) (Value.str _ _)) _ _ _); with_reducible ((with_reducible rename HoldNe => q9hHN); first | (with_reducible refine ne_str_of rfl ?_) | refine Hold.mk ?_)) | ((with_reducible show wpAny _ _ (call (Value.ref _) _ _) _ _ _); with_reducible (k_here; (first | (with_reducible show wpAny _ _ (call (Value.ref 216) _) _ _ _) | (with_reducible show wpAny _ _ (call (Value.ref 109) _) _ _ _) | (with_reducible show wpAny _ _ (call (Value.ref 148) _) _ _ _) | (with_reducible show wpAny _ _ (call (Value.ref 160) _) _ _ _) | (with_reducible show wpAny _ _ (call (Value.builtin "list.append") _) _ _ _)); refine Hold.mk ?_)) | ((with_reducible show wpAny _ _ (newList ..) _ _ _); with_reducible (k_here; k_dflt (refine' newList_K (by k_asm) (by k_asm) ?_ (by first | exact Nat.zero_le _ | exact Nat.le_of_ble_eq_true rfl | size_fits); k_whole); intro q9l' q9h' q9F' q9N' q9l1; (try k_lt q9l1); (try k_sweep))) | walk1 | (dsimp only; walk1) | (leave1; (try dsimp only)))
  unfold Hold
  rename News _ _ _ _ => N5
  refine ne_one (a := Str.ofString "Nest") (b := valF (plainF text)) N5 okT_nest (okT_val text) (by k_mem) (by k_mem) (by k_mem) (by k_mem) (by ke_room) ?_
  repeat' (first | (k_unfold; (try dsimp only)) | (k_end; kc_close) | ((with_reducible show wpAny _ _ (compareOp CmpOp.Eq (Value.ref _) (Value.ref _)) _ _ _); with_reducible (k_dflt (refine' eq_nil_no (by with_reducible assumption) (by with_reducible assumption) (by with_reducible assumption) (by with_reducible assumption) (by k_mem) (by k_mem) (by ke_room) ?_))) | ((with_reducible show wpAny _ _ (compareOp CmpOp.NotEq (Value.ref _) (Value.ref _)) _ _ _); with_reducible ((with_reducible rename HoldNe => q9hHN); refine Hold.mk ?_)) | ((with_reducible show wpAny _ _ (compareOp CmpOp.NotEq (Value.str _ _) (Value.str _ _)) _ _ _); with_reducible ((with_reducible rename HoldNe => q9hHN); first | (with_reducible refine ne_str_of rfl ?_) | refine Hold.mk ?_)) | ((with_reducible show wpAny _ _ (call (Value.ref _) _ _) _ _ _); with_reducible (k_here; (first | (with_reducible show wpAny _ _ (call (Value.ref 216) _) _ _ _) | (with_reducible show wpAny _ _ (call (Value.ref 109) _) _ _ _) | (with_reducible show wpAny _ _ (call (Value.ref 148) _) _ _ _) | (with_reducible show wpAny _ _ (call (Value.ref 160) _) _ _ _) | (with_reducible show wpAny _ _ (call (Value.builtin "list.append") _) _ _ _)); refine Hold.mk ?_)) | ((with_reducible show wpAny _ _ (newList ..) _ _ _); with_reducible (k_here; k_dflt (refine' newList_K (by k_asm) (by k_asm) ?_ (by first | exact Nat.zero_le _ | exact Nat.le_of_ble_eq_true rfl | size_fits); k_whole); intro q9l' q9h' q9F' q9N' q9l1; (try k_lt q9l1); (try k_sweep))) | walk1 | (dsimp only; walk1) | (leave1; (try dsimp only)))
  rename Fr _ _ _ _ => F6; rename News _ _ _ _ => N6
  exact ⟨rfl, hK9 _ (hQ _ _ _ (off_tab ho2) F6 (cb_drop N6 (by kcj_all)))⟩
end
end Mine
end
section
open PySem PySem.W PySem.Calls PyProof.Rows
set_option Elab.async false
set_option maxRecDepth 100000
set_option maxHeartbeats 40000000
namespace Mine
theorem anew_CS3c : True := by
  w_top off
  exact True.intro
section
variable {w : World} {p : Program} {loose : List Str} {mean : ExcName → Option Value} {mg mb : Str → Option Value} {h₀ : Heap} {L : Nat} {fa : Addr} {cd : Value} {m : Str → Option Value} {w2 w1 : Obj} {Q : Flow → Shared → Prop} {E : Value → Shared → Prop} {s : Shared}
variable {text : Str} {tt tp tw tv tc td tn tT t2n t2 tkA tkB : Tok} {D B x1 d1 l1 x2 d2 l2 T T2 D2 R : Addr} {ys vs rv : List Value} {ns : List Int} {oB : Obj} {hs1 hs2 : Int} {k1 k2 rn : Nat} {bo to si : Value} {fr : Bool}
set_option maxHeartbeats 40000000
variable {ba en li re : Value} {bare e line nxt : Str} {tb te tli tre tl : Tok} {I c' G : Addr} {oI oc oL oG wG wL : Obj} {vs0 : Array Value} {t0 : Tok} {mZ : Str → Option Value} {dI : Int} {v0 vL v1 : Option Value} {gv : List Value}
theorem S3c (hX : (hd.heap_39 w.params).In h₀) (hTp : Top p loose mean mg mb h₀) (hBl : Below callerA h₀ [] h₀)
    (hText : TextOk text) (hbad : ¬ bads text = []) (hoff : ∀ q ∈ tabled x2 d2 l2 hs2 tkB k2 [.ref T] 1 ((T, tupObj [.str (Str.ofString "Nest") tn, .str (valF (plainF text)) tT]) :: tabled x1 d1 l1 hs1 tkA k1 [] 0 (led0 L B D ys vs oB w2 w1)), q.1 ≠ D2) (hy : StrsAre ys (bads text)) (hcB : oB.data = .cell (some (.ref B))) (F1 : Fr h₀ L s.heap (mT (.ref D2) (m3 (valF (plainF text)) tv (m2 (plainF text) tp tw x1 x2 (m1 text tt D m))))) (N1 : News h₀ L s.heap ((D2, W.listOf [.ref T].toArray 0) :: tabled x2 d2 l2 hs2 tkB k2 [.ref T] 1 ((T, tupObj [.str (Str.ofString "Nest") tn, .str (valF (plainF text)) tT]) :: tabled x1 d1 l1 hs1 tkA k1 [] 0 (led0 L B D ys vs oB w2 w1))))
    (hQ : ∀ h' tk bo to, Fr h₀ L h' (m4 bo to (m3 (valF (plainF text)) tv (m2 (plainF text) tp tw x1 x2 (m1 text tt D m)))) → News h₀ L h' (tabled x1 d1 l1 hs1 tkA k1 [] 0 (led0 L B D ys vs oB w2 w1)) → lawW w L fa cd 13 Q E { s with heap := h', toks := tk }) :
    lawW w L fa cd 10 Q E s := by
  revert hX; unfold lawW; k_fill; intro hX
  obtain ⟨h1, g1, n1, tk1, os1⟩ := s
  refine cutK 3 _ ?_
  intro K9 hK9
  dsimp only [lawB, lawRec, recOf, lawE, List.drop, List.take]
  dsimp only [m1, m2, m3, mT] at F1
  have hbv := bads_ne hbad
  have hHN : HoldNe := trivial
  have hv40 := Nat.not_lt.mpr (val_len hText)
  have hw40 := Nat.not_lt.mpr (wr1_len hText)
  have hlen := hText.len
  have hcN : (Str.ofString "Nest: ").length = 6 := by decide +kernel
  have hcr : (Str.ofString "\r\nnest: ").length = 8 := by decide +kernel
  have hct : (Str.ofString "\n\t").length = 2 := by decide +kernel
  repeat' (first | (k_unfold; (try dsimp only)) | (k_end; kc_close) | ((with_reducible show wpAny _ _ (binaryOp Operator.Add (Value.str _ _) (Value.str _ _)) _ _ _); with_reducible (k_dflt (refine' my_add (by first | omega | decide +kernel) (by first | omega | decide +kernel) ?_); intro _ _ _)) | ((with_reducible show wpAny _ _ (compareOp CmpOp.Eq (Value.ref _) (Value.ref _)) _ _ _); with_reducible (k_dflt (refine' eq_nil_no (by with_reducible assumption) (by with_reducible assumption) (by with_reducible assumption) (by with_reducible assumption) (by k_mem) (by k_mem) (by ke_room) ?_))) | ((with_reducible show wpAny _ _ (compareOp CmpOp.NotEq (Value.ref _) (Value.ref _)) _ _ _); with_reducible ((with_reducible rename HoldNe => q9hHN); refine Hold.mk ?_)) | ((with_reducible show wpAny _ _ (call (Value.builtin "list.append") _ _) _ _ _); with_reducible (k_here; (with_reducible rename HoldNe => q9hHN); refine Hold.mk ?_)) | ((with_reducible show wpAny _ _ (call (Value.ref 195) [Value.str _ _]) _ _ _); with_reducible (k_dflt (refine' c_splitdoc _ _ (by omega) _ _ _ _ _ _ _ _ _ _ _ _ _ _ _ _ _ _ _ _ (by k_asm) (by k_asm) (by k_in) (by k_asm) (by k_asm) (by k_room) (by k_room) ?_); intro q9rv q9h' q9tk' q9nw q9hr q9F'; refine park2 q9rv q9nw ?_; intro q9Kp q9hKp; obtain ⟨q9D, q9ta, q9tb, q9er, q9en, q9ho⟩ := q9hr; cases q9en; cases q9er; refine q9hKp _ _ ?_; clear q9hKp q9Kp; intro q9N'; (try ((with_reducible rename sdF _ = (_, _) => q9hsd9); rw [q9hsd9] at q9N'; (try dsimp only at q9N'))))) | ((with_reducible show wpAny _ _ (call (Value.ref 221) [Value.str _ _, Value.int _ _]) _ _ _); with_reducible ((first | k_dflt (refine' c_written _ _ _ 1 ?_ ?_ (by omega) _ _ _ _ _ _ _ _ _ _ _ _ _ _ _ _ _ _ _ _ (by k_asm) (by k_asm) (by k_in) (by k_asm) (by k_asm) (by k_room) (by k_room) ?_) | k_dflt (refine' c_written _ _ _ 2 ?_ ?_ (by omega) _ _ _ _ _ _ _ _ _ _ _ _ _ _ _ _ _ _ _ _ (by k_asm) (by k_asm) (by k_in) (by k_asm) (by k_asm) (by k_room) (by k_room) ?_) | k_dflt (refine' c_written _ _ _ 3 ?_ ?_ (by omega) _ _ _ _ _ _ _ _ _ _ _ _ _ _ _ _ _ _ _ _ (by k_asm) (by k_asm) (by k_in) (by k_asm) (by k_asm) (by k_room) (by k_room) ?_)); (try any_goals ((fail_if_success with_reducible show wpAny _ _ _ _ _ _); decide)); (try any_goals ((fail_if_success with_reducible show wpAny _ _ _ _ _ _); decide)); intro q9rv q9h' q9tk' q9nw q9hr q9F'; refine park2 q9rv q9nw ?_; intro q9Kp q9hKp; obtain ⟨q9en, q9tt, q9er⟩ := q9hr; cases q9en; cases q9er; refine q9hKp _ _ ?_; clear q9hKp q9Kp; intro q9N')) | ((with_reducible show wpAny _ _ (call (Value.ref _) _ _) _ _ _); with_reducible (k_here; (first | (with_reducible show wpAny _ _ (call (Value.ref 216) _) _ _ _) | (with_reducible show wpAny _ _ (call (Value.ref 109) _) _ _ _) | (with_reducible show wpAny _ _ (call (Value.ref 148) _) _ _ _) | (with_reducible show wpAny _ _ (call (Value.ref 160) _) _ _ _) | (with_reducible show wpAny _ _ (call (Value.builtin "list.append") _) _ _ _)); refine Hold.mk ?_)) | ((with_reducible show wpAny _ _ (call (Value.type "str") [Value.ref _]) _ _ _); with_reducible ((with_reducible rename Frag.In (hd.heap_39 _) _ => q9kX9); (with_reducible rename Fr _ _ _ _ => q9kF9); (have q9kk9 := in_keeps q9kX9 q9kF9); k_dflt (refine' kso_call (by first | exact Nat.le_of_ble_eq_true rfl | (dsimp only [Around.in1, Around.deeper]; omega) | (show _ + _ < _; omega)) q9kk9 (by k_inst) (by k_is) (by k_is) ?_; k_whole); clear q9kk9)) | ((with_reducible show StrBack ..); with_reducible (k_here; unfold StrBack; (try dsimp only))) | ((with_reducible show wpAny _ _ (newList ..) _ _ _); with_reducible (k_here; k_dflt (refine' newList_K (by k_asm) (by k_asm) ?_ (by first | exact Nat.zero_le _ | exact Nat.le_of_ble_eq_true rfl | size_fits); k_whole); intro q9l' q9h' q9F' q9N' q9l1; (try k_lt q9l1); (try k_sweep))) | walk1 | (dsimp only; walk1) | (leave1; (try dsimp only)))
  unfold Hold
  rename Fr _ _ _ _ => F6
  refine append_off F6 N1 hoff (Nat.le_of_ble_eq_true rfl) ?_
  intro h5 F7 N8
  clear F6 N1 hoff
  dsimp only [ledG, tabled, led0] at N8
  try dsimp only
  repeat' (first | (k_unfold; (try dsimp only)) | (k_end; kc_close) | ((with_reducible show wpAny _ _ (binaryOp Operator.Add (Value.str _ _) (Value.str _ _)) _ _ _); with_reducible (k_dflt (refine' my_add (by first | omega | decide +kernel) (by first | omega | decide +kernel) ?_); intro _ _ _)) | ((with_reducible show wpAny _ _ (compareOp CmpOp.Eq (Value.ref _) (Value.ref _)) _ _ _); with_reducible (k_dflt (refine' eq_nil_no (by with_reducible assumption) (by with_reducible assumption) (by with_reducible assumption) (by with_reducible assumption) (by k_mem) (by k_mem) (by ke_room) ?_))) | ((with_reducible show wpAny _ _ (compareOp CmpOp.NotEq (Value.ref _) (Value.ref _)) _ _ _); with_reducible ((with_reducible rename HoldNe => q9hHN); refine Hold.mk ?_)) | ((with_reducible show wpAny _ _ (call (Value.builtin "list.append") _ _) _ _ _); with_reducible (k_here; (with_reducible rename HoldNe => q9hHN); refine Hold.mk ?_)) | ((with_reducible show wpAny _ _ (call (Value.ref 195) [Value.str _ _]) _ _ _); with_reducible (k_dflt (refine' c_splitdoc _ _ (by omega) _ _ _ _ _ _ _ _ _ _ _ _ _ _ _ _ _ _ _ _ (by k_asm) (by k_asm) (by k_in) (by k_asm) (by k_asm) (by k_room) (by k_room) ?_); intro q9rv q9h' q9tk' q9nw q9hr q9F'; refine park2 q9rv q9nw ?_; intro q9Kp q9hKp; obtain ⟨q9D, q9ta, q9tb, q9er, q9en, q9ho⟩ := q9hr; cases q9en; cases q9er; refine q9hKp _ _ ?_; clear q9hKp q9Kp; intro q9N'; (try ((with_reducible rename sdF _ = (_, _) => q9hsd9); rw [q9hsd9] at q9N'; (try dsimp only at q9N'))))) | ((with_reducible show wpAny _ _ (call (Value.ref 221) [Value.str _ _, Value.int _ _]) _ _ _); with_reducible ((first | k_dflt (refine' c_written _ _ _ 1 ?_ ?_ (by omega) _ _ _ _ _ _ _ _ _ _ _ _ _ _ _ _ _ _ _ _ (by k_asm) (by k_asm) (by k_in) (by k_asm) (by k_asm) (by k_room) (by k_room) ?_) | k_dflt (refine' c_written _ _ _ 2 ?_ ?_ (by omega) _ _ _ _ _ _ _ _ _ _ _ _ _ _ _ _ _ _ _ _ (by k_asm) (by k_asm) (by k_in) (by k_asm) (by k_asm) (by k_room) (by k_room) ?_) | k_dflt (refine' c_written _ _ _ 3 ?_ ?_ (by omega) _ _ _ _ _ _ _ _ _ _ _ _ _ _ _ _ _ _ _ _ (by k_asm) (by k_asm) (by k_in) (by k_asm) (by k_asm) (by k_room) (by k_room) ?_)); (try any_goals ((fail_if_success with_reducible show wpAny _ _ _ _ _ _); decide)); (try any_goals ((fail_if_success with_reducible show wpAny _ _ _ _ _ _); decide)); intro q9rv q9h' q9tk' q9nw q9hr q9F'; refine park2 q9rv q9nw ?_; intro q9Kp q9hKp; obtain ⟨q9en, q9tt, q9er⟩ := q9hr; cases q9en; cases q9er; refine q9hKp _ _ ?_; clear q9hKp q9Kp; intro q9N')) | ((with_reducible show wpAny _ _ (call (Value.ref _) _ _) _ _ _); with_reducible (k_here; (first | (with_reducible show wpAny _ _ (call (Value.ref 216) _) _ _ _) | (with_reducible show wpAny _ _ (call (Value.ref 109) _) _ _ _) | (with_reducible show wpAny _ _ (call (Value.ref 148) _) _ _ _) | (with_reducible show wpAny _ _ (call (Value.ref 160) _) _ _ _) | (with_reducible show wpAny _ _ (call (Value.builtin "list.append") _) _ _ _)); refine Hold.mk ?_)) | ((with_reducible show wpAny _ _ (call (Value.type "str") [Value.ref _]) _ _ _); with_reducible ((with_reducible rename Frag.In (hd.heap_39 _) _ => q9kX9); (with_reducible rename Fr _ _ _ _ => q9kF9); (have q9kk9 := in_keeps q9kX9 q9kF9); k_dflt (refine' kso_call (by first | exact Nat.le_of_ble_eq_true rfl | (dsimp only [Around.in1, Around.deeper]; omega) | (show _ + _ < _; omega)) q9kk9 (by k_inst) (by k_is) (by k_is) ?_; k_whole); clear q9kk9)) | ((with_reducible show StrBack ..); with_reducible (k_here; unfold StrBack; (try dsimp only))) | ((with_reducible show wpAny _ _ (newList ..) _ _ _); with_reducible (k_here; k_dflt (refine' newList_K (by k_asm) (by k_asm) ?_ (by first | exact Nat.zero_le _ | exact Nat.le_of_ble_eq_true rfl | size_fits); k_whole); intro q9l' q9h' q9F' q9N' q9l1; (try k_lt q9l1); (try k_sweep))) | walk1 | (dsimp only; walk1) | (leave1; (try dsimp only)))
  unfold Hold
  rename News _ _ _ _ => N9
  have N10 := news_dup (tabled x2 d2 l2 hs2 tkB k2 [.ref T] 1 [(T, tupObj [.str (Str.ofString "Nest") tn, .str (valF (plainF text)) tT])]) N9 (by kcj_all)
  clear N9
  dsimp only [tabled, List.cons_append, List.nil_append] at N10
  ((k_dflt (refine' c_str _ _ _ _ _ _ _ _ _ ?a1 ?a2 _ _ _ _ _ _ _ _ _ _ _ _ _ _ _ _ _ _ _ _ ?B ?F ?X ?N ?T ?d ?u ?_; (case B => k_asm); (case F => k_asm); (case X => k_in); (case N => with_reducible assumption); (case T => k_asm); (case d => first | exact Nat.le_of_ble_eq_true rfl | ktr_room | (simp only [depth_deeper]; omega) | (dsimp only [Around.deeper, Around.in1]; omega) | (simp only [Around.deeper, Around.in1, ktrTop]; omega) | exact Nat.le_of_ble_eq_true rfl); (case u => first | exact Nat.le_of_ble_eq_true rfl | ktr_room | (simp only [depth_deeper]; omega) | (dsimp only [Around.deeper, Around.in1]; omega) | (simp only [Around.deeper, Around.in1, ktrTop]; omega) | exact Nat.le_of_ble_eq_true rfl); (case a1 => (simp only [List.length_cons, List.length_nil]; omega)))))
  case a2 =>
    refine heads1 ?_ ?_
    · exact Nat.le_of_ble_eq_true rfl
    · omega
  intro rv h3 tk3 nw hr F3; refine park2 rv nw ?_; intro Kp hKp; obtain ⟨tr, rfl, hsl, rfl⟩ := hr; refine hKp _ _ ?_; clear hKp Kp; intro N3
  replace hsl := Nat.not_lt.mpr hsl
  replace N3 := cb_drop N3 fun q hq => .tail _ (.tail _ (.tail _ (.tail _ hq)))
  try dsimp only
  repeat' (first | (k_unfold; (try dsimp only)) | (k_end; kc_close) | ((with_reducible show wpAny _ _ (binaryOp Operator.Add (Value.str _ _) (Value.str _ _)) _ _ _); with_reducible (k_dflt (refine' my_add (by first | omega | decide +kernel) (by first | omega | decide +kernel) ?_); intro _ _ _)) | ((with_reducible show wpAny _ _ (compareOp CmpOp.Eq (Value.ref _) (Value.ref _)) _ _ _); with_reducible (k_dflt (refine' eq_nil_no (by with_reducible assumption) (by with_reducible assumption) (by with_reducible assumption) (by with_reducible assumption) (by k_mem) (by k_mem) (by ke_room) ?_))) | ((with_reducible show wpAny _ _ (compareOp CmpOp.NotEq (Value.ref _) (Value.ref _)) _ _ _); with_reducible ((with_reducible rename HoldNe => q9hHN); refine Hold.mk ?_)) | ((with_reducible show wpAny _ _ (call (Value.builtin "list.append") _ _) _ _ _); with_reducible (k_here; (with_reducible rename HoldNe => q9hHN); refine Hold.mk ?_)) | ((with_reducible show wpAny _ _ (call (Value.ref 195) [Value.str _ _]) _ _ _); with_reducible (k_dflt (refine' c_splitdoc _ _ (by omega) _ _ _ _ _ _ _ _ _ _ _ _ _ _ _ _ _ _ _ _ (by k_asm) (by k_asm) (by k_in) (by k_asm) (by k_asm) (by k_room) (by k_room) ?_); intro q9rv q9h' q9tk' q9nw q9hr q9F'; refine park2 q9rv q9nw ?_; intro q9Kp q9hKp; obtain ⟨q9D, q9ta, q9tb, q9er, q9en, q9ho⟩ := q9hr; cases q9en; cases q9er; refine q9hKp _ _ ?_; clear q9hKp q9Kp; intro q9N'; (try ((with_reducible rename sdF _ = (_, _) => q9hsd9); rw [q9hsd9] at q9N'; (try dsimp only at q9N'))))) | ((with_reducible show wpAny _ _ (call (Value.ref 221) [Value.str _ _, Value.int _ _]) _ _ _); with_reducible ((first | k_dflt (refine' c_written _ _ _ 1 ?_ ?_ (by omega) _ _ _ _ _ _ _ _ _ _ _ _ _ _ _ _ _ _ _ _ (by k_asm) (by k_asm) (by k_in) (by k_asm) (by k_asm) (by k_room) (by k_room) ?_) | k_dflt (refine' c_written _ _ _ 2 ?_ ?_ (by omega) _ _ _ _ _ _ _ _ _ _ _ _ _ _ _ _ _ _ _ _ (by k_asm) (by k_asm) (by k_in) (by k_asm) (by k_asm) (by k_room) (by k_room) ?_) | k_dflt (refine' c_written _ _ _ 3 ?_ ?_ (by omega) _ _ _ _ _ _ _ _ _ _ _ _ _ _ _ _ _ _ _ _ (by k_asm) (by k_asm) (by k_in) (by k_asm) (by k_asm) (by k_room) (by k_room) ?_)); (try any_goals ((fail_if_success with_reducible show wpAny _ _ _ _ _ _); decide)); (try any_goals ((fail_if_success with_reducible show wpAny _ _ _ _ _ _); decide)); intro q9rv q9h' q9tk' q9nw q9hr q9F'; refine park2 q9rv q9nw ?_; intro q9Kp q9hKp; obtain ⟨q9en, q9tt, q9er⟩ := q9hr; cases q9en; cases q9er; refine q9hKp _ _ ?_; clear q9hKp q9Kp; intro q9N')) | ((with_reducible show wpAny _ _ (call (Value.ref _) _ _) _ _ _); with_reducible (k_here; (first | (with_reducible show wpAny _ _ (call (Value.ref 216) _) _ _ _) | (with_reducible show wpAny _ _ (call (Value.ref 109) _) _ _ _) | (with_reducible show wpAny _ _ (call (Value.ref 148) _) _ _ _) | (with_reducible show wpAny _ _ (call (Value.ref 160) _) _ _ _) | (with_reducible show wpAny _ _ (call (Value.builtin "list.append") _) _ _ _)); refine Hold.mk ?_)) | ((with_reducible show wpAny _ _ (call (Value.type "str") [Value.ref _]) _ _ _); with_reducible ((with_reducible rename Frag.In (hd.heap_39 _) _ => q9kX9); (with_reducible rename Fr _ _ _ _ => q9kF9); (have q9kk9 := in_keeps q9kX9 q9kF9); k_dflt (refine' kso_call (by first | exact Nat.le_of_ble_eq_true rfl | (dsimp only [Around.in1, Around.deeper]; omega) | (show _ + _ < _; omega)) q9kk9 (by k_inst) (by k_is) (by k_is) ?_; k_whole); clear q9kk9)) | ((with_reducible show StrBack ..); with_reducible (k_here; unfold StrBack; (try dsimp only))) | ((with_reducible show wpAny _ _ (newList ..) _ _ _); with_reducible (k_here; k_dflt (refine' newList_K (by k_asm) (by k_asm) ?_ (by first | exact Nat.zero_le _ | exact Nat.le_of_ble_eq_true rfl | size_fits); k_whole); intro q9l' q9h' q9F' q9N' q9l1; (try k_lt q9l1); (try k_sweep))) | walk1 | (dsimp only; walk1) | (leave1; (try dsimp only)))
  unfold Hold
  rename News _ _ _ _ => N11
  rw [sd_tab1 (val_line text), ← nest_pair] at N11
  refine ne_tup (a := Str.ofString "Nest: " ++ valF (plainF text)) (b := Str.ofString "") N11 (okT_app okT_crn.1 (okT_val text)) okT_empty (by k_mem) (by k_mem) (by ke_room) ?_
  repeat' (first | (k_unfold; (try dsimp only)) | (k_end; kc_close) | ((with_reducible show wpAny _ _ (binaryOp Operator.Add (Value.str _ _) (Value.str _ _)) _ _ _); with_reducible (k_dflt (refine' my_add (by first | omega | decide +kernel) (by first | omega | decide +kernel) ?_); intro _ _ _)) | ((with_reducible show wpAny _ _ (compareOp CmpOp.Eq (Value.ref _) (Value.ref _)) _ _ _); with_reducible (k_dflt (refine' eq_nil_no (by with_reducible assumption) (by with_reducible assumption) (by with_reducible assumption) (by with_reducible assumption) (by k_mem) (by k_mem) (by ke_room) ?_))) | ((with_reducible show wpAny _ _ (compareOp CmpOp.NotEq (Value.ref _) (Value.ref _)) _ _ _); with_reducible ((with_reducible rename HoldNe => q9hHN); refine Hold.mk ?_)) | ((with_reducible show wpAny _ _ (call (Value.builtin "list.append") _ _) _ _ _); with_reducible (k_here; (with_reducible rename HoldNe => q9hHN); refine Hold.mk ?_)) | ((with_reducible show wpAny _ _ (call (Value.ref 195) [Value.str _ _]) _ _ _); with_reducible (k_dflt (refine' c_splitdoc _ _ (by omega) _ _ _ _ _ _ _ _ _ _ _ _ _ _ _ _ _ _ _ _ (by k_asm) (by k_asm) (by k_in) (by k_asm) (by k_asm) (by k_room) (by k_room) ?_); intro q9rv q9h' q9tk' q9nw q9hr q9F'; refine park2 q9rv q9nw ?_; intro q9Kp q9hKp; obtain ⟨q9D, q9ta, q9tb, q9er, q9en, q9ho⟩ := q9hr; cases q9en; cases q9er; refine q9hKp _ _ ?_; clear q9hKp q9Kp; intro q9N'; (try ((with_reducible rename sdF _ = (_, _) => q9hsd9); rw [q9hsd9] at q9N'; (try dsimp only at q9N'))))) | ((with_reducible show wpAny _ _ (call (Value.ref 221) [Value.str _ _, Value.int _ _]) _ _ _); with_reducible ((first | k_dflt (refine' c_written _ _ _ 1 ?_ ?_ (by omega) _ _ _ _ _ _ _ _ _ _ _ _ _ _ _ _ _ _ _ _ (by k_asm) (by k_asm) (by k_in) (by k_asm) (by k_asm) (by k_room) (by k_room) ?_) | k_dflt (refine' c_written _ _ _ 2 ?_ ?_ (by omega) _ _ _ _ _ _ _ _ _ _ _ _ _ _ _ _ _ _ _ _ (by k_asm) (by k_asm) (by k_in) (by k_asm) (by k_asm) (by k_room) (by k_room) ?_) | k_dflt (refine' c_written _ _ _ 3 ?_ ?_ (by omega) _ _ _ _ _ _ _ _ _ _ _ _ _ _ _ _ _ _ _ _ (by k_asm) (by k_asm) (by k_in) (by k_asm) (by k_asm) (by k_room) (by k_room) ?_)); (try any_goals ((fail_if_success with_reducible show wpAny _ _ _ _ _ _); decide)); (try any_goals ((fail_if_success with_reducible show wpAny _ _ _ _ _ _); decide)); intro q9rv q9h' q9tk' q9nw q9hr q9F'; refine park2 q9rv q9nw ?_; intro q9Kp q9hKp; obtain ⟨q9en, q9tt, q9er⟩ := q9hr; cases q9en; cases q9er; refine q9hKp _ _ ?_; clear q9hKp q9Kp; intro q9N')) | ((with_reducible show wpAny _ _ (call (Value.ref _) _ _) _ _ _); with_reducible (k_here; (first | (with_reducible show wpAny _ _ (call (Value.ref 216) _) _ _ _) | (with_reducible show wpAny _ _ (call (Value.ref 109) _) _ _ _) | (with_reducible show wpAny _ _ (call (Value.ref 148) _) _ _ _) | (with_reducible show wpAny _ _ (call (Value.ref 160) _) _ _ _) | (with_reducible show wpAny _ _ (call (Value.builtin "list.append") _) _ _ _)); refine Hold.mk ?_)) | ((with_reducible show wpAny _ _ (call (Value.type "str") [Value.ref _]) _ _ _); with_reducible ((with_reducible rename Frag.In (hd.heap_39 _) _ => q9kX9); (with_reducible rename Fr _ _ _ _ => q9kF9); (have q9kk9 := in_keeps q9kX9 q9kF9); k_dflt (refine' kso_call (by first | exact Nat.le_of_ble_eq_true rfl | (dsimp only [Around.in1, Around.deeper]; omega) | (show _ + _ < _; omega)) q9kk9 (by k_inst) (by k_is) (by k_is) ?_; k_whole); clear q9kk9)) | ((with_reducible show StrBack ..); with_reducible (k_here; unfold StrBack; (try dsimp only))) | ((with_reducible show wpAny _ _ (newList ..) _ _ _); with_reducible (k_here; k_dflt (refine' newList_K (by k_asm) (by k_asm) ?_ (by first | exact Nat.zero_le _ | exact Nat.le_of_ble_eq_true rfl | size_fits); k_whole); intro q9l' q9h' q9F' q9N' q9l1; (try k_lt q9l1); (try k_sweep))) | walk1 | (dsimp only; walk1) | (leave1; (try dsimp only)))
  rename Fr _ _ _ _ => F9; rename News _ _ _ _ => N12
  exact ⟨rfl, hK9 _ (hQ _ _ _ _ F9 (cb_drop N12 (by kcj_all)))⟩
end
end Mine
end
section
open PySem PySem.W PySem.Calls PyProof.Rows
set_option Elab.async false
set_option maxRecDepth 100000
set_option maxHeartbeats 40000000
namespace Mine
theorem anew_CS4 : True := by
  w_top off
  exact True.intro
section
variable {w : World} {p : Program} {loose : List Str} {mean : ExcName → Option Value} {mg mb : Str → Option Value} {h₀ : Heap} {L : Nat} {fa : Addr} {cd : Value} {m : Str → Option Value} {w2 w1 : Obj} {Q : Flow → Shared → Prop} {E : Value → Shared → Prop} {s : Shared}
variable {text : Str} {tt tp tw tv tc td tn tT t2n t2 tkA tkB : Tok} {D B x1 d1 l1 x2 d2 l2 T T2 D2 R : Addr} {ys vs rv : List Value} {ns : List Int} {oB : Obj} {hs1 hs2 : Int} {k1 k2 rn : Nat} {bo to si : Value} {fr : Bool}
set_option maxHeartbeats 40000000
variable {ba en li re : Value} {bare e line nxt : Str} {tb te tli tre tl : Tok} {I c' G : Addr} {oI oc oL oG wG wL : Obj} {vs0 : Array Value} {t0 : Tok} {mZ : Str → Option Value} {dI : Int} {v0 vL v1 : Option Value} {gv : List Value}
theorem S4 (hX : (hd.heap_39 w.params).In h₀) (hTp : Top p loose mean mg mb h₀) (hBl : Below callerA h₀ [] h₀)
    (hText : TextOk text) (F1 : Fr h₀ L s.heap (m4 bo to (m3 (valF (plainF text)) tv (m2 (plainF text) tp tw x1 x2 (m1 text tt D m))))) (N1 : News h₀ L s.heap (tabled x1 d1 l1 hs1 tkA k1 [] 0 (led0 L B D ys vs oB w2 w1)))
    (hQ : ∀ h' tk fr, (fr = true → goodN (Txt.item text 0)) → (fr = false → hasBadN (Txt.item text 0)) → Fr h₀ L h' (mF (.bool fr) (m4 bo to (m3 (valF (plainF text)) tv (m2 (plainF text) tp tw x1 x2 (m1 text tt D m))))) → News h₀ L h' (tabled x1 d1 l1 hs1 tkA k1 [] 0 (led0 L B D ys vs oB w2 w1)) → lawW w L fa cd 14 Q E { s with heap := h', toks := tk }) :
    lawW w L fa cd 13 Q E s := by
  revert hX; unfold lawW; k_fill; intro hX
  obtain ⟨h1, g1, n1, tk1, os1⟩ := s
  refine cutK 1 _ ?_
  intro K9 hK9
  dsimp only [lawB, lawRec, recOf, lawE, List.drop, List.take]
  dsimp only [tabled, led0] at N1
  have hlen := hText.len
  k_steps
  all_goals (rename Fr _ _ _ _ => F9; rename News _ _ _ _ => N9)
  all_goals refine ⟨rfl, hK9 _ (hQ _ _ _ ?_ ?_ F9 N9)⟩
  · rename (Txt.item _ _).cps.toList < _ => h1
    intro q; rw [decide_eq_true h1] at q; cases q
  · rename (Txt.item _ _).cps.toList < _ => h1
    intro _; exact item_bad1 h1
  · rename ¬ (Txt.item _ _).cps.toList < _ => h1
    intro q; exact item_good h1 q
  · intro q; exact item_bad2 q
end
end Mine
end
section
open PySem PySem.W PySem.Calls PyProof.Rows
set_option Elab.async false
set_option maxRecDepth 100000
set_option maxHeartbeats 40000000
namespace Mine
theorem anew_CS5g : True := by
  w_top off
  exact True.intro
section
variable {w : World} {p : Program} {loose : List Str} {mean : ExcName → Option Value} {mg mb : Str → Option Value} {h₀ : Heap} {L : Nat} {fa : Addr} {cd : Value} {m : Str → Option Value} {w2 w1 : Obj} {Q : Flow → Shared → Prop} {E : Value → Shared → Prop} {s : Shared}
variable {text : Str} {tt tp tw tv tc td tn tT t2n t2 tkA tkB : Tok} {D B x1 d1 l1 x2 d2 l2 T T2 D2 R : Addr} {ys vs rv : List Value} {ns : List Int} {oB : Obj} {hs1 hs2 : Int} {k1 k2 rn : Nat} {bo to si : Value} {fr : Bool}
set_option maxHeartbeats 40000000
variable {ba en li re : Value} {bare e line nxt : Str} {tb te tli tre tl : Tok} {I c' G : Addr} {oI oc oL oG wG wL : Obj} {vs0 : Array Value} {t0 : Tok} {mZ : Str → Option Value} {dI : Int} {v0 vL v1 : Option Value} {gv : List Value}
theorem S5g (hX : (hd.heap_39 w.params).In h₀) (hTp : Top p loose mean mg mb h₀) (hBl : Below callerA h₀ [] h₀)
    (hText : TextOk text) (hO1 : ∀ q ∈ led0 L B D ys vs oB w2 w1, @LT.lt Nat _ q.1 d1) (hO2 : @LT.lt Nat _ d1 x1) (hO3 : @LT.lt Nat _ x1 l1) (hfg : goodN (Txt.item text 0)) (F1 : Fr h₀ L s.heap (mF (.bool true) (m4 bo to (m3 (valF (plainF text)) tv (m2 (plainF text) tp tw x1 x2 (m1 text tt D m)))))) (N1 : News h₀ L s.heap (tabled x1 d1 l1 hs1 tkA k1 [] 0 (led0 L B D ys vs oB w2 w1)))
    (hQ : ∀ h' tk , Fr h₀ L h' (mF (.bool true) (m4 bo to (m3 (valF (plainF text)) tv (m2 (plainF text) tp tw x1 x2 (m1 text tt D m))))) → News h₀ L h' (led0 L B D ys vs oB w2 w1) → lawW w L fa cd 16 Q E { s with heap := h', toks := tk }) :
    lawW w L fa cd 14 Q E s := by
  revert hX; unfold lawW; k_fill; intro hX
  obtain ⟨h1, g1, n1, tk1, os1⟩ := s
  refine cutK 2 _ ?_
  intro K9 hK9
  dsimp only [lawB, lawRec, recOf, lawE, List.drop, List.take]
  dsimp only [tabled, led0] at N1
  have hHN : HoldNe := trivial
  have hil : (Txt.item text 0).length = 1 := rfl
  have hca : (Str.ofString "a").length = 1 := by decide +kernel
  have hva := goodV_a
  have hn2 := goodN_k1
  have hlen := hText.len
  have hnm := hfg
  have hxl : x1 ≠ l1 := Nat.ne_of_lt hO3
  have hdl : d1 ≠ l1 := Nat.ne_of_lt (Nat.lt_trans hO2 hO3)
  have hrl : ∀ q ∈ led0 _ B D ys vs oB _ _, q.1 ≠ l1 := fun q hq => Nat.ne_of_lt (Nat.lt_trans (hO1 q hq) (Nat.lt_trans hO2 hO3))
  dsimp only [led0] at hrl
  repeat' (first | (k_unfold; (try dsimp only)) | (k_end; kc_close) | ((with_reducible show wpAny _ _ (compareOp CmpOp.NotEq (Value.ref _) (Value.ref _)) _ _ _); with_reducible ((with_reducible rename HoldNe => q9hHN); refine Hold.mk ?_)) | ((with_reducible show wpAny _ _ (compareOp CmpOp.NotEq (Value.str _ _) (Value.str _ _)) _ _ _); with_reducible ((with_reducible rename HoldNe => q9hHN); first | (with_reducible refine ne_str_of rfl ?_) | refine Hold.mk ?_)) | ((with_reducible show wpAny _ _ (call (Value.ref _) _ _) _ _ _); with_reducible (k_here; (first | (with_reducible show wpAny _ _ (call (Value.ref 216) _) _ _ _) | (with_reducible show wpAny _ _ (call (Value.ref 109) _) _ _ _) | (with_reducible show wpAny _ _ (call (Value.ref 148) _) _ _ _) | (with_reducible show wpAny _ _ (call (Value.ref 160) _) _ _ _) | (with_reducible show wpAny _ _ (call (Value.builtin "list.append") _) _ _ _)); refine Hold.mk ?_)) | ((with_reducible show wpAny _ _ (newList ..) _ _ _); with_reducible (k_here; k_dflt (refine' newList_K (by k_asm) (by k_asm) ?_ (by first | exact Nat.zero_le _ | exact Nat.le_of_ble_eq_true rfl | size_fits); k_whole); intro q9l' q9h' q9F' q9N' q9l1; (try k_lt q9l1); (try k_sweep))) | walk1 | (dsimp only; walk1) | (leave1; (try dsimp only)))
  unfold Hold
  ((k_dflt (refine' c_refG _ _ _ _ _ _ _ _ _ _ _ _ ?a1 ?a2 ?a3 ?a4 ?a5 ?a6 ?a7 ?a8 ?a9 ?a10 _ _ _ _ _ _ _ _ _ _ _ _ _ _ _ _ _ _ _ _ ?B ?F ?X ?N ?T ?d ?u ?_; (case B => k_asm); (case F => k_asm); (case X => k_in); (case N => with_reducible assumption); (case T => k_asm); (case d => first | exact Nat.le_of_ble_eq_true rfl | ktr_room | (simp only [depth_deeper]; omega) | (dsimp only [Around.deeper, Around.in1]; omega) | (simp only [Around.deeper, Around.in1, ktrTop]; omega)); (case u => first | exact Nat.le_of_ble_eq_true rfl | ktr_room | (simp only [Around.deeper]; omega) | (dsimp only [Around.deeper, Around.in1]; omega) | (simp only [Around.deeper, Around.in1, ktrTop]; omega) | (dsimp only [Around.in1, Around.deeper, callerA]; decide) | exact Nat.le_of_ble_eq_true rfl); (case a1 => with_reducible assumption); (case a2 => with_reducible assumption); (case a3 => with_reducible assumption); (case a4 => (simp only [List.length_cons, List.length_nil]; omega)); (case a5 => first | with_reducible assumption | omega); (case a6 => first | with_reducible assumption | omega); (case a7 => with_reducible assumption); (case a8 => first | with_reducible assumption | omega); (case a9 => with_reducible assumption); (case a10 => with_reducible assumption))))
  intro rv h2 tk2 nw hr F2; refine park2 rv nw ?_; intro Kp hKp; obtain ⟨T2, t2, tr2, rfl, rfl, ho⟩ := hr; refine hKp _ _ ?_; clear hKp Kp; intro N2
  try dsimp only
  repeat' (first | (k_unfold; (try dsimp only)) | (k_end; kc_close) | ((with_reducible show wpAny _ _ (compareOp CmpOp.NotEq (Value.ref _) (Value.ref _)) _ _ _); with_reducible ((with_reducible rename HoldNe => q9hHN); refine Hold.mk ?_)) | ((with_reducible show wpAny _ _ (compareOp CmpOp.NotEq (Value.str _ _) (Value.str _ _)) _ _ _); with_reducible ((with_reducible rename HoldNe => q9hHN); first | (with_reducible refine ne_str_of rfl ?_) | refine Hold.mk ?_)) | ((with_reducible show wpAny _ _ (call (Value.ref _) _ _) _ _ _); with_reducible (k_here; (first | (with_reducible show wpAny _ _ (call (Value.ref 216) _) _ _ _) | (with_reducible show wpAny _ _ (call (Value.ref 109) _) _ _ _) | (with_reducible show wpAny _ _ (call (Value.ref 148) _) _ _ _) | (with_reducible show wpAny _ _ (call (Value.ref 160) _) _ _ _) | (with_reducible show wpAny _ _ (call (Value.builtin "list.append") _) _ _ _)); refine Hold.mk ?_)) | ((with_reducible show wpAny _ _ (newList ..) _ _ _); with_reducible (k_here; k_dflt (refine' newList_K (by k_asm) (by k_asm) ?_ (by first | exact Nat.zero_le _ | exact Nat.le_of_ble_eq_true rfl | size_fits); k_whole); intro q9l' q9h' q9F' q9N' q9l1; (try k_lt q9l1); (try k_sweep))) | walk1 | (dsimp only; walk1) | (leave1; (try dsimp only)))
  rename News _ _ _ _ => N3
  have N4 := cb_drop (news := tabled x1 d1 l1 hs1 tkA k1 [.ref T2] 1 ((T2, _) :: led0 _ B D ys vs oB _ _)) N3 (by kcj_all)
  clear N3; dsimp only [tabled, led0] at N4
  unfold Hold
  ((k_dflt (refine' c_items _ _ _ _ _ _ _ _ ?a1 _ _ _ _ _ _ _ _ _ _ _ _ _ _ _ _ _ _ _ _ ?B ?F ?X ?N ?T ?d ?u ?_; (case B => k_asm); (case F => k_asm); (case X => k_in); (case N => with_reducible assumption); (case T => k_asm); (case d => first | exact Nat.le_of_ble_eq_true rfl | ktr_room | (simp only [depth_deeper]; omega) | (dsimp only [Around.deeper, Around.in1]; omega) | (simp only [Around.deeper, Around.in1, ktrTop]; omega)); (case u => first | exact Nat.le_of_ble_eq_true rfl | ktr_room | (simp only [Around.deeper]; omega) | (dsimp only [Around.deeper, Around.in1]; omega) | (simp only [Around.deeper, Around.in1, ktrTop]; omega) | (dsimp only [Around.in1, Around.deeper, callerA]; decide) | exact Nat.le_of_ble_eq_true rfl); (case a1 => (simp only [List.length_cons, List.length_nil]; omega)))))
  intro rv h4 tk4 nw hr F4; refine park2 rv nw ?_; intro Kp hKp; obtain ⟨D2, rfl, rfl, ho2⟩ := hr; refine hKp _ _ ?_; clear hKp Kp; intro N5
  try dsimp only
  repeat' (first | (k_unfold; (try dsimp only)) | (k_end; kc_close) | ((with_reducible show wpAny _ _ (compareOp CmpOp.NotEq (Value.ref _) (Value.ref _)) _ _ _); with_reducible ((with_reducible rename HoldNe => q9hHN); refine Hold.mk ?_)) | ((with_reducible show wpAny _ _ (compareOp CmpOp.NotEq (Value.str _ _) (Value.str _ _)) _ _ _); with_reducible ((with_reducible rename HoldNe => q9hHN); first | (with_reducible refine ne_str_of rfl ?_) | refine Hold.mk ?_)) | ((with_reducible show wpAny _ _ (call (Value.ref _) _ _) _ _ _); with_reducible (k_here; (first | (with_reducible show wpAny _ _ (call (Value.ref 216) _) _ _ _) | (with_reducible show wpAny _ _ (call (Value.ref 109) _) _ _ _) | (with_reducible show wpAny _ _ (call (Value.ref 148) _) _ _ _) | (with_reducible show wpAny _ _ (call (Value.ref 160) _) _ _ _) | (with_reducible show wpAny _ _ (call (Value.builtin "list.append") _) _ _ _)); refine Hold.mk ?_)) | ((with_reducible show wpAny _ _ (newList ..) _ _ _); with_reducible (k_here; k_dflt (refine' newList_K (by k_asm) (by k_asm) ?_ (by first | exact Nat.zero_le _ | exact Nat.le_of_ble_eq_true rfl | size_fits); k_whole); intro q9l' q9h' q9F' q9N' q9l1; (try k_lt q9l1); (try k_sweep))) | walk1 | (dsimp only; walk1) | (leave1; (try dsimp only)))
  unfold Hold
  rename News _ _ _ _ => N6
  rw [fmt_a] at N6
  refine ne_one (a := Txt.item text 0) (b := Str.ofString "k-1=\"a\"") N6 (okT_item hText) okT_k1a (by k_mem) (by k_mem) (by k_mem) (by k_mem) (by ke_room) ?_
  repeat' (first | (k_unfold; (try dsimp only)) | (k_end; kc_close) | ((with_reducible show wpAny _ _ (compareOp CmpOp.NotEq (Value.ref _) (Value.ref _)) _ _ _); with_reducible ((with_reducible rename HoldNe => q9hHN); refine Hold.mk ?_)) | ((with_reducible show wpAny _ _ (compareOp CmpOp.NotEq (Value.str _ _) (Value.str _ _)) _ _ _); with_reducible ((with_reducible rename HoldNe => q9hHN); first | (with_reducible refine ne_str_of rfl ?_) | refine Hold.mk ?_)) | ((with_reducible show wpAny _ _ (call (Value.ref _) _ _) _ _ _); with_reducible (k_here; (first | (with_reducible show wpAny _ _ (call (Value.ref 216) _) _ _ _) | (with_reducible show wpAny _ _ (call (Value.ref 109) _) _ _ _) | (with_reducible show wpAny _ _ (call (Value.ref 148) _) _ _ _) | (with_reducible show wpAny _ _ (call (Value.ref 160) _) _ _ _) | (with_reducible show wpAny _ _ (call (Value.builtin "list.append") _) _ _ _)); refine Hold.mk ?_)) | ((with_reducible show wpAny _ _ (newList ..) _ _ _); with_reducible (k_here; k_dflt (refine' newList_K (by k_asm) (by k_asm) ?_ (by first | exact Nat.zero_le _ | exact Nat.le_of_ble_eq_true rfl | size_fits); k_whole); intro q9l' q9h' q9F' q9N' q9l1; (try k_lt q9l1); (try k_sweep))) | walk1 | (dsimp only; walk1) | (leave1; (try dsimp only)))
  rename Fr _ _ _ _ => F9; rename News _ _ _ _ => N9
  exact ⟨rfl, hK9 _ (hQ _ _ F9 (cb_drop N9 (by kcj_all)))⟩
end
end Mine
end
section
open PySem PySem.W PySem.Calls PyProof.Rows
set_option Elab.async false
set_option maxRecDepth 100000
set_option maxHeartbeats 40000000
namespace Mine
theorem anew_CS5b : True := by
  w_top off
  exact True.intro
section
variable {w : World} {p : Program} {loose : List Str} {mean : ExcName → Option Value} {mg mb : Str → Option Value} {h₀ : Heap} {L : Nat} {fa : Addr} {cd : Value} {m : Str → Option Value} {w2 w1 : Obj} {Q : Flow → Shared → Prop} {E : Value → Shared → Prop} {s : Shared}
variable {text : Str} {tt tp tw tv tc td tn tT t2n t2 tkA tkB : Tok} {D B x1 d1 l1 x2 d2 l2 T T2 D2 R : Addr} {ys vs rv : List Value} {ns : List Int} {oB : Obj} {hs1 hs2 : Int} {k1 k2 rn : Nat} {bo to si : Value} {fr : Bool}
set_option maxHeartbeats 40000000
variable {ba en li re : Value} {bare e line nxt : Str} {tb te tli tre tl : Tok} {I c' G : Addr} {oI oc oL oG wG wL : Obj} {vs0 : Array Value} {t0 : Tok} {mZ : Str → Option Value} {dI : Int} {v0 vL v1 : Option Value} {gv : List Value}
theorem S5b (hX : (hd.heap_39 w.params).In h₀) (hTp : Top p loose mean mg mb h₀) (hBl : Below callerA h₀ [] h₀)
    (hText : TextOk text) (hO1 : ∀ q ∈ led0 L B D ys vs oB w2 w1, @LT.lt Nat _ q.1 d1) (hO2 : @LT.lt Nat _ d1 x1) (hO3 : @LT.lt Nat _ x1 l1) (hfb : hasBadN (Txt.item text 0)) (F1 : Fr h₀ L s.heap (mF (.bool false) (m4 bo to (m3 (valF (plainF text)) tv (m2 (plainF text) tp tw x1 x2 (m1 text tt D m)))))) (N1 : News h₀ L s.heap (tabled x1 d1 l1 hs1 tkA k1 [] 0 (led0 L B D ys vs oB w2 w1)))
    (hQ : ∀ h' tk , Fr h₀ L h' (mF (.bool false) (m4 bo to (m3 (valF (plainF text)) tv (m2 (plainF text) tp tw x1 x2 (m1 text tt D m))))) → News h₀ L h' (led0 L B D ys vs oB w2 w1) → lawW w L fa cd 16 Q E { s with heap := h', toks := tk }) :
    lawW w L fa cd 14 Q E s := by
  revert hX; unfold lawW; k_fill; intro hX
  obtain ⟨h1, g1, n1, tk1, os1⟩ := s
  refine cutK 2 _ ?_
  intro K9 hK9
  dsimp only [lawB, lawRec, recOf, lawE, List.drop, List.take]
  dsimp only [tabled, led0] at N1
  have hHN : HoldNe := trivial
  have hil : (Txt.item text 0).length = 1 := rfl
  have hca : (Str.ofString "a").length = 1 := by decide +kernel
  have hva := goodV_a
  have hn2 := goodN_k1
  have hlen := hText.len
  have hnm := hfb
  repeat' (first | (k_unfold; (try dsimp only)) | (k_end; kc_close) | ((with_reducible show wpAny _ _ (compareOp CmpOp.NotEq (Value.ref _) (Value.ref _)) _ _ _); with_reducible ((with_reducible rename HoldNe => q9hHN); refine Hold.mk ?_)) | ((with_reducible show wpAny _ _ (compareOp CmpOp.NotEq (Value.str _ _) (Value.str _ _)) _ _ _); with_reducible ((with_reducible rename HoldNe => q9hHN); first | (with_reducible refine ne_str_of rfl ?_) | refine Hold.mk ?_)) | ((with_reducible show wpAny _ _ (call (Value.ref _) _ _) _ _ _); with_reducible (k_here; (first | (with_reducible show wpAny _ _ (call (Value.ref 216) _) _ _ _) | (with_reducible show wpAny _ _ (call (Value.ref 109) _) _ _ _) | (with_reducible show wpAny _ _ (call (Value.ref 148) _) _ _ _) | (with_reducible show wpAny _ _ (call (Value.ref 160) _) _ _ _) | (with_reducible show wpAny _ _ (call (Value.builtin "list.append") _) _ _ _)); refine Hold.mk ?_)) | ((with_reducible show wpAny _ _ (newList ..) _ _ _); with_reducible (k_here; k_dflt (refine' newList_K (by k_asm) (by k_asm) ?_ (by first | exact Nat.zero_le _ | exact Nat.le_of_ble_eq_true rfl | size_fits); k_whole); intro q9l' q9h' q9F' q9N' q9l1; (try k_lt q9l1); (try k_sweep))) | walk1 | (dsimp only; walk1) | (leave1; (try dsimp only)))
  unfold Hold
  ((k_dflt (refine' c_refN _ _ _ _ _ _ _ _ _ _ _ _ ?a1 ?a2 ?a3 ?a4 ?a5 ?a6 _ _ _ _ _ _ _ _ _ _ _ _ _ _ _ _ _ _ ?B ?F ?X ?N ?T ?d ?u ?_; (case B => k_asm); (case F => k_asm); (case X => k_in); (case N => with_reducible assumption); (case T => k_asm); (case d => first | exact Nat.le_of_ble_eq_true rfl | ktr_room | (simp only [depth_deeper]; omega) | (dsimp only [Around.deeper, Around.in1]; omega) | (simp only [Around.deeper, Around.in1, ktrTop]; omega)); (case u => first | exact Nat.le_of_ble_eq_true rfl | ktr_room | (simp only [Around.deeper]; omega) | (dsimp only [Around.deeper, Around.in1]; omega) | (simp only [Around.deeper, Around.in1, ktrTop]; omega) | (dsimp only [Around.in1, Around.deeper, callerA]; decide) | exact Nat.le_of_ble_eq_true rfl); (case a1 => first | with_reducible assumption | omega); (case a2 => first | with_reducible assumption | omega); (case a3 => with_reducible assumption); (case a4 => first | with_reducible assumption | omega); (case a5 => with_reducible assumption); (case a6 => with_reducible assumption))))
  intro rv h2 tk2 nw hr F2; refine park2 rv nw ?_; intro Kp hKp; obtain ⟨tr2, rfl, rfl⟩ := hr; refine hKp _ _ ?_; clear hKp Kp; intro N2
  unfold wordsF
  try dsimp only
  repeat' (first | (k_unfold; (try dsimp only)) | (k_end; kc_close) | ((with_reducible show wpAny _ _ (compareOp CmpOp.NotEq (Value.ref _) (Value.ref _)) _ _ _); with_reducible ((with_reducible rename HoldNe => q9hHN); refine Hold.mk ?_)) | ((with_reducible show wpAny _ _ (compareOp CmpOp.NotEq (Value.str _ _) (Value.str _ _)) _ _ _); with_reducible ((with_reducible rename HoldNe => q9hHN); first | (with_reducible refine ne_str_of rfl ?_) | refine Hold.mk ?_)) | ((with_reducible show wpAny _ _ (call (Value.ref _) _ _) _ _ _); with_reducible (k_here; (first | (with_reducible show wpAny _ _ (call (Value.ref 216) _) _ _ _) | (with_reducible show wpAny _ _ (call (Value.ref 109) _) _ _ _) | (with_reducible show wpAny _ _ (call (Value.ref 148) _) _ _ _) | (with_reducible show wpAny _ _ (call (Value.ref 160) _) _ _ _) | (with_reducible show wpAny _ _ (call (Value.builtin "list.append") _) _ _ _)); refine Hold.mk ?_)) | ((with_reducible show wpAny _ _ (newList ..) _ _ _); with_reducible (k_here; k_dflt (refine' newList_K (by k_asm) (by k_asm) ?_ (by first | exact Nat.zero_le _ | exact Nat.le_of_ble_eq_true rfl | size_fits); k_whole); intro q9l' q9h' q9F' q9N' q9l1; (try k_lt q9l1); (try k_sweep))) | walk1 | (dsimp only; walk1) | (leave1; (try dsimp only)))
  rename News _ _ _ _ => N3
  have N4 := cb_drop (news := tabled x1 d1 l1 hs1 tkA k1 [] 0 (led0 _ B D ys vs oB _ _)) N3 (by kcj_all)
  clear N3; dsimp only [tabled, led0] at N4
  unfold Hold
  ((k_dflt (refine' c_items _ _ _ _ _ _ _ _ ?a1 _ _ _ _ _ _ _ _ _ _ _ _ _ _ _ _ _ _ _ _ ?B ?F ?X ?N ?T ?d ?u ?_; (case B => k_asm); (case F => k_asm); (case X => k_in); (case N => with_reducible assumption); (case T => k_asm); (case d => first | exact Nat.le_of_ble_eq_true rfl | ktr_room | (simp only [depth_deeper]; omega) | (dsimp only [Around.deeper, Around.in1]; omega) | (simp only [Around.deeper, Around.in1, ktrTop]; omega)); (case u => first | exact Nat.le_of_ble_eq_true rfl | ktr_room | (simp only [Around.deeper]; omega) | (dsimp only [Around.deeper, Around.in1]; omega) | (simp only [Around.deeper, Around.in1, ktrTop]; omega) | (dsimp only [Around.in1, Around.deeper, callerA]; decide) | exact Nat.le_of_ble_eq_true rfl); (case a1 => (simp only [List.length_cons, List.length_nil]; omega)))))
  intro rv h4 tk4 nw hr F4; refine park2 rv nw ?_; intro Kp hKp; obtain ⟨D2, rfl, rfl, ho2⟩ := hr; refine hKp _ _ ?_; clear hKp Kp; intro N5
  try dsimp only
  repeat' (first | (k_unfold; (try dsimp only)) | (k_end; kc_close) | ((with_reducible show wpAny _ _ (compareOp CmpOp.NotEq (Value.ref _) (Value.ref _)) _ _ _); with_reducible ((with_reducible rename HoldNe => q9hHN); refine Hold.mk ?_)) | ((with_reducible show wpAny _ _ (compareOp CmpOp.NotEq (Value.str _ _) (Value.str _ _)) _ _ _); with_reducible ((with_reducible rename HoldNe => q9hHN); first | (with_reducible refine ne_str_of rfl ?_) | refine Hold.mk ?_)) | ((with_reducible show wpAny _ _ (call (Value.ref _) _ _) _ _ _); with_reducible (k_here; (first | (with_reducible show wpAny _ _ (call (Value.ref 216) _) _ _ _) | (with_reducible show wpAny _ _ (call (Value.ref 109) _) _ _ _) | (with_reducible show wpAny _ _ (call (Value.ref 148) _) _ _ _) | (with_reducible show wpAny _ _ (call (Value.ref 160) _) _ _ _) | (with_reducible show wpAny _ _ (call (Value.builtin "list.append") _) _ _ _)); refine Hold.mk ?_)) | ((with_reducible show wpAny _ _ (newList ..) _ _ _); with_reducible (k_here; k_dflt (refine' newList_K (by k_asm) (by k_asm) ?_ (by first | exact Nat.zero_le _ | exact Nat.le_of_ble_eq_true rfl | size_fits); k_whole); intro q9l' q9h' q9F' q9N' q9l1; (try k_lt q9l1); (try k_sweep))) | walk1 | (dsimp only; walk1) | (leave1; (try dsimp only)))
  unfold Hold
  rename News _ _ _ _ => N6
  refine ne_none N6 (by k_mem) (by k_mem) (by ke_room) ?_
  repeat' (first | (k_unfold; (try dsimp only)) | (k_end; kc_close) | ((with_reducible show wpAny _ _ (compareOp CmpOp.NotEq (Value.ref _) (Value.ref _)) _ _ _); with_reducible ((with_reducible rename HoldNe => q9hHN); refine Hold.mk ?_)) | ((with_reducible show wpAny _ _ (compareOp CmpOp.NotEq (Value.str _ _) (Value.str _ _)) _ _ _); with_reducible ((with_reducible rename HoldNe => q9hHN); first | (with_reducible refine ne_str_of rfl ?_) | refine Hold.mk ?_)) | ((with_reducible show wpAny _ _ (call (Value.ref _) _ _) _ _ _); with_reducible (k_here; (first | (with_reducible show wpAny _ _ (call (Value.ref 216) _) _ _ _) | (with_reducible show wpAny _ _ (call (Value.ref 109) _) _ _ _) | (with_reducible show wpAny _ _ (call (Value.ref 148) _) _ _ _) | (with_reducible show wpAny _ _ (call (Value.ref 160) _) _ _ _) | (with_reducible show wpAny _ _ (call (Value.builtin "list.append") _) _ _ _)); refine Hold.mk ?_)) | ((with_reducible show wpAny _ _ (newList ..) _ _ _); with_reducible (k_here; k_dflt (refine' newList_K (by k_asm) (by k_asm) ?_ (by first | exact Nat.zero_le _ | exact Nat.le_of_ble_eq_true rfl | size_fits); k_whole); intro q9l' q9h' q9F' q9N' q9l1; (try k_lt q9l1); (try k_sweep))) | walk1 | (dsimp only; walk1) | (leave1; (try dsimp only)))
  rename Fr _ _ _ _ => F9; rename News _ _ _ _ => N9
  exact ⟨rfl, hK9 _ (hQ _ _ F9 (cb_drop N9 (by kcj_all)))⟩
end
end Mine
end
section
open PySem PySem.W PySem.Calls PyProof.Rows
set_option Elab.async false
set_option maxRecDepth 100000
set_option maxHeartbeats 40000000
namespace Mine
theorem anew_CS6 : True := by
  w_top off
  exact True.intro
section
variable {w : World} {p : Program} {loose : List Str} {mean : ExcName → Option Value} {mg mb : Str → Option Value} {h₀ : Heap} {L : Nat} {fa : Addr} {cd : Value} {m : Str → Option Value} {w2 w1 : Obj} {Q : Flow → Shared → Prop} {E : Value → Shared → Prop} {s : Shared}
variable {text : Str} {tt tp tw tv tc td tn tT t2n t2 tkA tkB : Tok} {D B x1 d1 l1 x2 d2 l2 T T2 D2 R : Addr} {ys vs rv : List Value} {ns : List Int} {oB : Obj} {hs1 hs2 : Int} {k1 k2 rn : Nat} {bo to si : Value} {fr : Bool}
set_option maxHeartbeats 40000000
variable {ba en li re : Value} {bare e line nxt : Str} {tb te tli tre tl : Tok} {I c' G : Addr} {oI oc oL oG wG wL : Obj} {vs0 : Array Value} {t0 : Tok} {mZ : Str → Option Value} {dI : Int} {v0 vL v1 : Option Value} {gv : List Value}
theorem S6 (hX : (hd.heap_39 w.params).In h₀) (hTp : Top p loose mean mg mb h₀) (hBl : Below callerA h₀ [] h₀)
    (hText : TextOk text) (hy : StrsAre ys (bads text)) (hcB : oB.data = .cell (some (.ref B))) (F1 : Fr h₀ L s.heap (mF (.bool fr) (m4 bo to (m3 (valF (plainF text)) tv (m2 (plainF text) tp tw x1 x2 (m1 text tt D m)))))) (N1 : News h₀ L s.heap (led0 L B D ys vs oB w2 w1))
    (hQ : ∀ h' tk tc, Fr h₀ L h' (mC (cleanF text) tc (mF (.bool fr) (m4 bo to (m3 (valF (plainF text)) tv (m2 (plainF text) tp tw x1 x2 (m1 text tt D m)))))) → News h₀ L h' (led0 L B D ys vs oB w2 w1) → lawW w L fa cd 18 Q E { s with heap := h', toks := tk }) :
    lawW w L fa cd 16 Q E s := by
  revert hX; unfold lawW; k_fill; intro hX
  obtain ⟨h1, g1, n1, tk1, os1⟩ := s
  refine cutK 2 _ ?_
  intro K9 hK9
  dsimp only [lawB, lawRec, recOf, lawE, List.drop, List.take]
  dsimp only [led0] at N1
  have hlen := hText.len
  repeat' (first | (k_unfold; (try dsimp only)) | (k_end; kc_close) | ((with_reducible show wpAny _ _ (compareOp CmpOp.NotEq (Value.str _ _) (Value.str _ _)) _ _ _); with_reducible ((with_reducible rename HoldNe => q9hHN); first | (with_reducible refine ne_str_of rfl ?_) | refine Hold.mk ?_)) | ((with_reducible show wpAny _ _ (compareOp CmpOp.NotIn (Value.str _ _) (Value.ref _)) _ _ _); with_reducible (k_dflt (refine' notin_list_strs (by exact News.isList (by k_asm) (by k_mem)) (by with_reducible assumption) ?_; k_whole))) | ((with_reducible show StarOf ..); with_reducible (k_here; (with_reducible rename StrsAre _ (flat2 (outs _)) => q9saP); k_dflt (refine' star_seq (by k_asm) (by k_asm) (by k_mem) (by exact rfl) (by exact rfl) (by first | exact .inl rfl | exact .inr rfl) (by exact rfl) (by exact outs_sz (by with_reducible assumption) q9saP) ?_; k_whole); intro q9h' q9F' q9N'; (try dsimp only [List.nil_append, List.cons_append]))) | ((with_reducible show wpAny _ _ (call (Value.builtin "str.join") [Value.str _ _, Value.ref _]) _ _ _); with_reducible (k_dflt (first | ((with_reducible rename StrsAre _ (List.map drawF _) => q9saY); refine' join0 1 6 q9saY (by exact News.isList (by k_asm) (by k_mem)) (by exact draw_lens _) (by exact draw_n _ _ (by decide)) (by decide) ?_; clear q9saY; intro _ _ _ _) | ((with_reducible rename StrsAre _ (List.filter (fun z => z == Str.ofString "a") _) => q9saY); refine' join_plain (by with_reducible assumption) q9saY (by exact News.isList (by k_asm) (by k_mem)) ?_; clear q9saY; intro _ _ _ _ _ _) | ((with_reducible rename StrsAre _ (List.filter (fun z => !decide (z ∈ bads _)) _) => q9saY); refine' join_clean (by with_reducible assumption) q9saY (by exact News.isList (by k_asm) (by k_mem)) ?_; clear q9saY; intro _ _ _)))) | ((with_reducible show wpAny _ _ (call (Value.ref _) _ _) _ _ _); with_reducible (k_here; (try simp only [List.append_nil]); (with_reducible show wpAny _ _ (call (Value.ref 202) (Value.str _ _ :: _)) _ _ _); (with_reducible rename StrsAre _ (flat2 (outs _)) => q9saP); k_dflt (refine' c_replace _ _ _ _ (outs_vals (by with_reducible assumption) q9saP) q9saP (outs_ok _) (by omega) _ _ _ _ _ _ _ _ _ _ _ _ _ _ _ _ _ _ _ _ (by k_asm) (by k_asm) (by k_in) (by k_asm) (by k_asm) (by k_room) (by k_room) ?_); intro q9rv q9h' q9tk' q9nw q9hr q9F' q9N'; obtain ⟨q9en, q9tt, q9er⟩ := q9hr; cases q9en; cases q9er)) | ((with_reducible show wpAny _ _ (eval (Expr.ListComp _ [⟨Expr.Name _ _, _, [], _⟩, ⟨Expr.Name _ _, _, [], _⟩] _ _) _) _ _ _); with_reducible (refine Hold.mk ?_)) | ((with_reducible show wpAny _ _ (eval (Expr.ListComp ..) _) _ _ _); with_reducible (k_here; k_dflt (first | ((with_reducible show wpAny _ _ (eval (Expr.ListComp _ [⟨Expr.Name _ _, _, [], _⟩] _ _) _) _ _ _); refine lcs_U (_F₀ := by k_asm) (by with_unfolding_all rfl) (by decide) (by rfl) (by decide) (by rfl) ?_) | ((with_reducible show wpAny _ _ (eval (Expr.ListComp _ [⟨Expr.Name _ _, _, [_], _⟩] _ _) _) _ _ _); refine lcs_T (_F₀ := by k_asm) (by with_unfolding_all rfl) (by decide) (by rfl) (by decide) (by rfl) ?_)))) | ((with_reducible show InPost ..); with_reducible (k_here; k_dflt (refine' ⟨_, _, rfl, (by k_asm), cb_drop (by k_asm) (by kcj_all), ?_⟩))) | walk1 | (dsimp only; walk1) | (leave1; (try dsimp only)))
  ((unfold Hold; k_dflt refine ListComp_two (F₀ := by k_asm) (by with_unfolding_all rfl) (by decide) (by rfl) (by decide) (by rfl) (by rfl) (by decide) (fun _ _ => rfl) ?_))
  repeat' (first | (k_unfold; (try dsimp only)) | (k_end; kc_close) | ((with_reducible show wpAny _ _ (compareOp CmpOp.NotEq (Value.str _ _) (Value.str _ _)) _ _ _); with_reducible ((with_reducible rename HoldNe => q9hHN); first | (with_reducible refine ne_str_of rfl ?_) | refine Hold.mk ?_)) | ((with_reducible show wpAny _ _ (compareOp CmpOp.NotIn (Value.str _ _) (Value.ref _)) _ _ _); with_reducible (k_dflt (refine' notin_list_strs (by exact News.isList (by k_asm) (by k_mem)) (by with_reducible assumption) ?_; k_whole))) | ((with_reducible show StarOf ..); with_reducible (k_here; (with_reducible rename StrsAre _ (flat2 (outs _)) => q9saP); k_dflt (refine' star_seq (by k_asm) (by k_asm) (by k_mem) (by exact rfl) (by exact rfl) (by first | exact .inl rfl | exact .inr rfl) (by exact rfl) (by exact outs_sz (by with_reducible assumption) q9saP) ?_; k_whole); intro q9h' q9F' q9N'; (try dsimp only [List.nil_append, List.cons_append]))) | ((with_reducible show wpAny _ _ (call (Value.builtin "str.join") [Value.str _ _, Value.ref _]) _ _ _); with_reducible (k_dflt (first | ((with_reducible rename StrsAre _ (List.map drawF _) => q9saY); refine' join0 1 6 q9saY (by exact News.isList (by k_asm) (by k_mem)) (by exact draw_lens _) (by exact draw_n _ _ (by decide)) (by decide) ?_; clear q9saY; intro _ _ _ _) | ((with_reducible rename StrsAre _ (List.filter (fun z => z == Str.ofString "a") _) => q9saY); refine' join_plain (by with_reducible assumption) q9saY (by exact News.isList (by k_asm) (by k_mem)) ?_; clear q9saY; intro _ _ _ _ _ _) | ((with_reducible rename StrsAre _ (List.filter (fun z => !decide (z ∈ bads _)) _) => q9saY); refine' join_clean (by with_reducible assumption) q9saY (by exact News.isList (by k_asm) (by k_mem)) ?_; clear q9saY; intro _ _ _)))) | ((with_reducible show wpAny _ _ (call (Value.ref _) _ _) _ _ _); with_reducible (k_here; (try simp only [List.append_nil]); (with_reducible show wpAny _ _ (call (Value.ref 202) (Value.str _ _ :: _)) _ _ _); (with_reducible rename StrsAre _ (flat2 (outs _)) => q9saP); k_dflt (refine' c_replace _ _ _ _ (outs_vals (by with_reducible assumption) q9saP) q9saP (outs_ok _) (by omega) _ _ _ _ _ _ _ _ _ _ _ _ _ _ _ _ _ _ _ _ (by k_asm) (by k_asm) (by k_in) (by k_asm) (by k_asm) (by k_room) (by k_room) ?_); intro q9rv q9h' q9tk' q9nw q9hr q9F' q9N'; obtain ⟨q9en, q9tt, q9er⟩ := q9hr; cases q9en; cases q9er)) | ((with_reducible show wpAny _ _ (eval (Expr.ListComp _ [⟨Expr.Name _ _, _, [], _⟩, ⟨Expr.Name _ _, _, [], _⟩] _ _) _) _ _ _); with_reducible (refine Hold.mk ?_)) | ((with_reducible show wpAny _ _ (eval (Expr.ListComp ..) _) _ _ _); with_reducible (k_here; k_dflt (first | ((with_reducible show wpAny _ _ (eval (Expr.ListComp _ [⟨Expr.Name _ _, _, [], _⟩] _ _) _) _ _ _); refine lcs_U (_F₀ := by k_asm) (by with_unfolding_all rfl) (by decide) (by rfl) (by decide) (by rfl) ?_) | ((with_reducible show wpAny _ _ (eval (Expr.ListComp _ [⟨Expr.Name _ _, _, [_], _⟩] _ _) _) _ _ _); refine lcs_T (_F₀ := by k_asm) (by with_unfolding_all rfl) (by decide) (by rfl) (by decide) (by rfl) ?_)))) | ((with_reducible show InPost ..); with_reducible (k_here; k_dflt (refine' ⟨_, _, rfl, (by k_asm), cb_drop (by k_asm) (by kcj_all), ?_⟩))) | walk1 | (dsimp only; walk1) | (leave1; (try dsimp only)))
  rename Fr _ _ _ _ => F2; rename News _ _ _ _ => N2
  refine ⟨_, [(B, LCg.lst ys)], _, _, fun i zs => StrsAre zs (flat2 ((outs text).take i)), rfl, F2, N2, inSrc_list rfl N2 (by k_mem), (fun p hp => by rw [List.mem_singleton.mp hp]; k_mem), .nil, ?len, ?turn, ?fin⟩
  case len =>
    intro i zs hi hz
    have h1 := hz.length
    have h2 := bads_len hText
    rw [h1, flat2_len', List.length_take, outs_len]
    omega
  case turn =>
    rintro s₂ ⟨g, rfl⟩
    intro i v I oI C oC D9 m₂ zs h tk E' hi hP hA hC hx9 F3 N3 ne off
    obtain ⟨z, u, hz, rfl⟩ := listAt_of hy i v hP
    repeat' (first | (k_unfold; (try dsimp only)) | (k_end; kc_close) | ((with_reducible show wpAny _ _ (compareOp CmpOp.NotEq (Value.str _ _) (Value.str _ _)) _ _ _); with_reducible ((with_reducible rename HoldNe => q9hHN); first | (with_reducible refine ne_str_of rfl ?_) | refine Hold.mk ?_)) | ((with_reducible show wpAny _ _ (compareOp CmpOp.NotIn (Value.str _ _) (Value.ref _)) _ _ _); with_reducible (k_dflt (refine' notin_list_strs (by exact News.isList (by k_asm) (by k_mem)) (by with_reducible assumption) ?_; k_whole))) | ((with_reducible show StarOf ..); with_reducible (k_here; (with_reducible rename StrsAre _ (flat2 (outs _)) => q9saP); k_dflt (refine' star_seq (by k_asm) (by k_asm) (by k_mem) (by exact rfl) (by exact rfl) (by first | exact .inl rfl | exact .inr rfl) (by exact rfl) (by exact outs_sz (by with_reducible assumption) q9saP) ?_; k_whole); intro q9h' q9F' q9N'; (try dsimp only [List.nil_append, List.cons_append]))) | ((with_reducible show wpAny _ _ (call (Value.builtin "str.join") [Value.str _ _, Value.ref _]) _ _ _); with_reducible (k_dflt (first | ((with_reducible rename StrsAre _ (List.map drawF _) => q9saY); refine' join0 1 6 q9saY (by exact News.isList (by k_asm) (by k_mem)) (by exact draw_lens _) (by exact draw_n _ _ (by decide)) (by decide) ?_; clear q9saY; intro _ _ _ _) | ((with_reducible rename StrsAre _ (List.filter (fun z => z == Str.ofString "a") _) => q9saY); refine' join_plain (by with_reducible assumption) q9saY (by exact News.isList (by k_asm) (by k_mem)) ?_; clear q9saY; intro _ _ _ _ _ _) | ((with_reducible rename StrsAre _ (List.filter (fun z => !decide (z ∈ bads _)) _) => q9saY); refine' join_clean (by with_reducible assumption) q9saY (by exact News.isList (by k_asm) (by k_mem)) ?_; clear q9saY; intro _ _ _)))) | ((with_reducible show wpAny _ _ (call (Value.ref _) _ _) _ _ _); with_reducible (k_here; (try simp only [List.append_nil]); (with_reducible show wpAny _ _ (call (Value.ref 202) (Value.str _ _ :: _)) _ _ _); (with_reducible rename StrsAre _ (flat2 (outs _)) => q9saP); k_dflt (refine' c_replace _ _ _ _ (outs_vals (by with_reducible assumption) q9saP) q9saP (outs_ok _) (by omega) _ _ _ _ _ _ _ _ _ _ _ _ _ _ _ _ _ _ _ _ (by k_asm) (by k_asm) (by k_in) (by k_asm) (by k_asm) (by k_room) (by k_room) ?_); intro q9rv q9h' q9tk' q9nw q9hr q9F' q9N'; obtain ⟨q9en, q9tt, q9er⟩ := q9hr; cases q9en; cases q9er)) | ((with_reducible show wpAny _ _ (eval (Expr.ListComp _ [⟨Expr.Name _ _, _, [], _⟩, ⟨Expr.Name _ _, _, [], _⟩] _ _) _) _ _ _); with_reducible (refine Hold.mk ?_)) | ((with_reducible show wpAny _ _ (eval (Expr.ListComp ..) _) _ _ _); with_reducible (k_here; k_dflt (first | ((with_reducible show wpAny _ _ (eval (Expr.ListComp _ [⟨Expr.Name _ _, _, [], _⟩] _ _) _) _ _ _); refine lcs_U (_F₀ := by k_asm) (by with_unfolding_all rfl) (by decide) (by rfl) (by decide) (by rfl) ?_) | ((with_reducible show wpAny _ _ (eval (Expr.ListComp _ [⟨Expr.Name _ _, _, [_], _⟩] _ _) _) _ _ _); refine lcs_T (_F₀ := by k_asm) (by with_unfolding_all rfl) (by decide) (by rfl) (by decide) (by rfl) ?_)))) | ((with_reducible show InPost ..); with_reducible (k_here; k_dflt (refine' ⟨_, _, rfl, (by k_asm), cb_drop (by k_asm) (by kcj_all), ?_⟩))) | walk1 | (dsimp only; walk1) | (leave1; (try dsimp only)))
    rename Fr _ _ _ _ => F9; rename News _ _ _ _ => N9; rename _ ∧ _ ∧ _ ∧ _ => l9
    exact outPost_two rfl rfl rfl (by decide) F9 N9 ⟨l9.1, l9.2.1, l9.2.2.1⟩ hA (fun zs' hz' => by rw [outs_take hz]; exact hz')
  case fin =>
    intro zs D9 h tk hz F9 N9 oD
    have e : (outs text).take ys.toArray.size = outs text := List.take_of_length_le (by rw [outs_len, size_of_strs hy]; exact Nat.le_refl _)
    rw [e] at hz
    clear F2 N2
    have hHN : HoldNe := trivial
    repeat' (first | (k_unfold; (try dsimp only)) | (k_end; kc_close) | ((with_reducible show wpAny _ _ (compareOp CmpOp.NotEq (Value.str _ _) (Value.str _ _)) _ _ _); with_reducible ((with_reducible rename HoldNe => q9hHN); first | (with_reducible refine ne_str_of rfl ?_) | refine Hold.mk ?_)) | ((with_reducible show wpAny _ _ (compareOp CmpOp.NotIn (Value.str _ _) (Value.ref _)) _ _ _); with_reducible (k_dflt (refine' notin_list_strs (by exact News.isList (by k_asm) (by k_mem)) (by with_reducible assumption) ?_; k_whole))) | ((with_reducible show StarOf ..); with_reducible (k_here; (with_reducible rename StrsAre _ (flat2 (outs _)) => q9saP); k_dflt (refine' star_seq (by k_asm) (by k_asm) (by k_mem) (by exact rfl) (by exact rfl) (by first | exact .inl rfl | exact .inr rfl) (by exact rfl) (by exact outs_sz (by with_reducible assumption) q9saP) ?_; k_whole); intro q9h' q9F' q9N'; (try dsimp only [List.nil_append, List.cons_append]))) | ((with_reducible show wpAny _ _ (call (Value.builtin "str.join") [Value.str _ _, Value.ref _]) _ _ _); with_reducible (k_dflt (first | ((with_reducible rename StrsAre _ (List.map drawF _) => q9saY); refine' join0 1 6 q9saY (by exact News.isList (by k_asm) (by k_mem)) (by exact draw_lens _) (by exact draw_n _ _ (by decide)) (by decide) ?_; clear q9saY; intro _ _ _ _) | ((with_reducible rename StrsAre _ (List.filter (fun z => z == Str.ofString "a") _) => q9saY); refine' join_plain (by with_reducible assumption) q9saY (by exact News.isList (by k_asm) (by k_mem)) ?_; clear q9saY; intro _ _ _ _ _ _) | ((with_reducible rename StrsAre _ (List.filter (fun z => !decide (z ∈ bads _)) _) => q9saY); refine' join_clean (by with_reducible assumption) q9saY (by exact News.isList (by k_asm) (by k_mem)) ?_; clear q9saY; intro _ _ _)))) | ((with_reducible show wpAny _ _ (call (Value.ref _) _ _) _ _ _); with_reducible (k_here; (try simp only [List.append_nil]); (with_reducible show wpAny _ _ (call (Value.ref 202) (Value.str _ _ :: _)) _ _ _); (with_reducible rename StrsAre _ (flat2 (outs _)) => q9saP); k_dflt (refine' c_replace _ _ _ _ (outs_vals (by with_reducible assumption) q9saP) q9saP (outs_ok _) (by omega) _ _ _ _ _ _ _ _ _ _ _ _ _ _ _ _ _ _ _ _ (by k_asm) (by k_asm) (by k_in) (by k_asm) (by k_asm) (by k_room) (by k_room) ?_); intro q9rv q9h' q9tk' q9nw q9hr q9F' q9N'; obtain ⟨q9en, q9tt, q9er⟩ := q9hr; cases q9en; cases q9er)) | ((with_reducible show wpAny _ _ (eval (Expr.ListComp _ [⟨Expr.Name _ _, _, [], _⟩, ⟨Expr.Name _ _, _, [], _⟩] _ _) _) _ _ _); with_reducible (refine Hold.mk ?_)) | ((with_reducible show wpAny _ _ (eval (Expr.ListComp ..) _) _ _ _); with_reducible (k_here; k_dflt (first | ((with_reducible show wpAny _ _ (eval (Expr.ListComp _ [⟨Expr.Name _ _, _, [], _⟩] _ _) _) _ _ _); refine lcs_U (_F₀ := by k_asm) (by with_unfolding_all rfl) (by decide) (by rfl) (by decide) (by rfl) ?_) | ((with_reducible show wpAny _ _ (eval (Expr.ListComp _ [⟨Expr.Name _ _, _, [_], _⟩] _ _) _) _ _ _); refine lcs_T (_F₀ := by k_asm) (by with_unfolding_all rfl) (by decide) (by rfl) (by decide) (by rfl) ?_)))) | ((with_reducible show InPost ..); with_reducible (k_here; k_dflt (refine' ⟨_, _, rfl, (by k_asm), cb_drop (by k_asm) (by kcj_all), ?_⟩))) | walk1 | (dsimp only; walk1) | (leave1; (try dsimp only)))
    rename Fr _ _ _ _ => F4; rename News _ _ _ _ => N4
    refine genT_of (own := []) (its := signsOf text) (fun z => !((bads text).any fun x => x == z)) (fun z => z) rfl F4 N4 (inSrc_str rfl) (fun _ h => nomatch h) signAt_of (signsOf_length _).symm (sz_of (by have := hText.len; omega)) ?turnC ?finC
    case turnC =>
      intro z t I oI C oC D m₂ zs' h tk E' hz hC hx F5 N5 off ne
      clear F4 N4
      repeat' (first | (k_unfold; (try dsimp only)) | (k_end; kc_close) | ((with_reducible show wpAny _ _ (compareOp CmpOp.NotEq (Value.str _ _) (Value.str _ _)) _ _ _); with_reducible ((with_reducible rename HoldNe => q9hHN); first | (with_reducible refine ne_str_of rfl ?_) | refine Hold.mk ?_)) | ((with_reducible show wpAny _ _ (compareOp CmpOp.NotIn (Value.str _ _) (Value.ref _)) _ _ _); with_reducible (k_dflt (refine' notin_list_strs (by exact News.isList (by k_asm) (by k_mem)) (by with_reducible assumption) ?_; k_whole))) | ((with_reducible show StarOf ..); with_reducible (k_here; (with_reducible rename StrsAre _ (flat2 (outs _)) => q9saP); k_dflt (refine' star_seq (by k_asm) (by k_asm) (by k_mem) (by exact rfl) (by exact rfl) (by first | exact .inl rfl | exact .inr rfl) (by exact rfl) (by exact outs_sz (by with_reducible assumption) q9saP) ?_; k_whole); intro q9h' q9F' q9N'; (try dsimp only [List.nil_append, List.cons_append]))) | ((with_reducible show wpAny _ _ (call (Value.builtin "str.join") [Value.str _ _, Value.ref _]) _ _ _); with_reducible (k_dflt (first | ((with_reducible rename StrsAre _ (List.map drawF _) => q9saY); refine' join0 1 6 q9saY (by exact News.isList (by k_asm) (by k_mem)) (by exact draw_lens _) (by exact draw_n _ _ (by decide)) (by decide) ?_; clear q9saY; intro _ _ _ _) | ((with_reducible rename StrsAre _ (List.filter (fun z => z == Str.ofString "a") _) => q9saY); refine' join_plain (by with_reducible assumption) q9saY (by exact News.isList (by k_asm) (by k_mem)) ?_; clear q9saY; intro _ _ _ _ _ _) | ((with_reducible rename StrsAre _ (List.filter (fun z => !decide (z ∈ bads _)) _) => q9saY); refine' join_clean (by with_reducible assumption) q9saY (by exact News.isList (by k_asm) (by k_mem)) ?_; clear q9saY; intro _ _ _)))) | ((with_reducible show wpAny _ _ (call (Value.ref _) _ _) _ _ _); with_reducible (k_here; (try simp only [List.append_nil]); (with_reducible show wpAny _ _ (call (Value.ref 202) (Value.str _ _ :: _)) _ _ _); (with_reducible rename StrsAre _ (flat2 (outs _)) => q9saP); k_dflt (refine' c_replace _ _ _ _ (outs_vals (by with_reducible assumption) q9saP) q9saP (outs_ok _) (by omega) _ _ _ _ _ _ _ _ _ _ _ _ _ _ _ _ _ _ _ _ (by k_asm) (by k_asm) (by k_in) (by k_asm) (by k_asm) (by k_room) (by k_room) ?_); intro q9rv q9h' q9tk' q9nw q9hr q9F' q9N'; obtain ⟨q9en, q9tt, q9er⟩ := q9hr; cases q9en; cases q9er)) | ((with_reducible show wpAny _ _ (eval (Expr.ListComp _ [⟨Expr.Name _ _, _, [], _⟩, ⟨Expr.Name _ _, _, [], _⟩] _ _) _) _ _ _); with_reducible (refine Hold.mk ?_)) | ((with_reducible show wpAny _ _ (eval (Expr.ListComp ..) _) _ _ _); with_reducible (k_here; k_dflt (first | ((with_reducible show wpAny _ _ (eval (Expr.ListComp _ [⟨Expr.Name _ _, _, [], _⟩] _ _) _) _ _ _); refine lcs_U (_F₀ := by k_asm) (by with_unfolding_all rfl) (by decide) (by rfl) (by decide) (by rfl) ?_) | ((with_reducible show wpAny _ _ (eval (Expr.ListComp _ [⟨Expr.Name _ _, _, [_], _⟩] _ _) _) _ _ _); refine lcs_T (_F₀ := by k_asm) (by with_unfolding_all rfl) (by decide) (by rfl) (by decide) (by rfl) ?_)))) | ((with_reducible show InPost ..); with_reducible (k_here; k_dflt (refine' ⟨_, _, rfl, (by k_asm), cb_drop (by k_asm) (by kcj_all), ?_⟩))) | walk1 | (dsimp only; walk1) | (leave1; (try dsimp only)))
      all_goals first
        | exact IsText.mk
        | (rename (!(List.any (bads text) _)) = false => hx; exact hx)
        | (rename (List.any (bads text) _) = true => hx; show (!(List.any (bads text) _)) = false; rw [hx]; rfl)
        | (dsimp only; assumption)
    case finC =>
      intro q ys' hy'
      rw [List.map_id', filter_mem] at hy'
      clear F4 N4
      repeat' (first | (k_unfold; (try dsimp only)) | (k_end; kc_close) | ((with_reducible show wpAny _ _ (compareOp CmpOp.NotEq (Value.str _ _) (Value.str _ _)) _ _ _); with_reducible ((with_reducible rename HoldNe => q9hHN); first | (with_reducible refine ne_str_of rfl ?_) | refine Hold.mk ?_)) | ((with_reducible show wpAny _ _ (compareOp CmpOp.NotIn (Value.str _ _) (Value.ref _)) _ _ _); with_reducible (k_dflt (refine' notin_list_strs (by exact News.isList (by k_asm) (by k_mem)) (by with_reducible assumption) ?_; k_whole))) | ((with_reducible show StarOf ..); with_reducible (k_here; (with_reducible rename StrsAre _ (flat2 (outs _)) => q9saP); k_dflt (refine' star_seq (by k_asm) (by k_asm) (by k_mem) (by exact rfl) (by exact rfl) (by first | exact .inl rfl | exact .inr rfl) (by exact rfl) (by exact outs_sz (by with_reducible assumption) q9saP) ?_; k_whole); intro q9h' q9F' q9N'; (try dsimp only [List.nil_append, List.cons_append]))) | ((with_reducible show wpAny _ _ (call (Value.builtin "str.join") [Value.str _ _, Value.ref _]) _ _ _); with_reducible (k_dflt (first | ((with_reducible rename StrsAre _ (List.map drawF _) => q9saY); refine' join0 1 6 q9saY (by exact News.isList (by k_asm) (by k_mem)) (by exact draw_lens _) (by exact draw_n _ _ (by decide)) (by decide) ?_; clear q9saY; intro _ _ _ _) | ((with_reducible rename StrsAre _ (List.filter (fun z => z == Str.ofString "a") _) => q9saY); refine' join_plain (by with_reducible assumption) q9saY (by exact News.isList (by k_asm) (by k_mem)) ?_; clear q9saY; intro _ _ _ _ _ _) | ((with_reducible rename StrsAre _ (List.filter (fun z => !decide (z ∈ bads _)) _) => q9saY); refine' join_clean (by with_reducible assumption) q9saY (by exact News.isList (by k_asm) (by k_mem)) ?_; clear q9saY; intro _ _ _)))) | ((with_reducible show wpAny _ _ (call (Value.ref _) _ _) _ _ _); with_reducible (k_here; (try simp only [List.append_nil]); (with_reducible show wpAny _ _ (call (Value.ref 202) (Value.str _ _ :: _)) _ _ _); (with_reducible rename StrsAre _ (flat2 (outs _)) => q9saP); k_dflt (refine' c_replace _ _ _ _ (outs_vals (by with_reducible assumption) q9saP) q9saP (outs_ok _) (by omega) _ _ _ _ _ _ _ _ _ _ _ _ _ _ _ _ _ _ _ _ (by k_asm) (by k_asm) (by k_in) (by k_asm) (by k_asm) (by k_room) (by k_room) ?_); intro q9rv q9h' q9tk' q9nw q9hr q9F' q9N'; obtain ⟨q9en, q9tt, q9er⟩ := q9hr; cases q9en; cases q9er)) | ((with_reducible show wpAny _ _ (eval (Expr.ListComp _ [⟨Expr.Name _ _, _, [], _⟩, ⟨Expr.Name _ _, _, [], _⟩] _ _) _) _ _ _); with_reducible (refine Hold.mk ?_)) | ((with_reducible show wpAny _ _ (eval (Expr.ListComp ..) _) _ _ _); with_reducible (k_here; k_dflt (first | ((with_reducible show wpAny _ _ (eval (Expr.ListComp _ [⟨Expr.Name _ _, _, [], _⟩] _ _) _) _ _ _); refine lcs_U (_F₀ := by k_asm) (by with_unfolding_all rfl) (by decide) (by rfl) (by decide) (by rfl) ?_) | ((with_reducible show wpAny _ _ (eval (Expr.ListComp _ [⟨Expr.Name _ _, _, [_], _⟩] _ _) _) _ _ _); refine lcs_T (_F₀ := by k_asm) (by with_unfolding_all rfl) (by decide) (by rfl) (by decide) (by rfl) ?_)))) | ((with_reducible show InPost ..); with_reducible (k_here; k_dflt (refine' ⟨_, _, rfl, (by k_asm), cb_drop (by k_asm) (by kcj_all), ?_⟩))) | walk1 | (dsimp only; walk1) | (leave1; (try dsimp only)))
      rename Fr _ _ _ _ => F9; rename News _ _ _ _ => N9
      exact ⟨rfl, hK9 _ (hQ _ _ _ F9 (cb_drop N9 (by kcj_all)))⟩
end
end Mine
end
section
open PySem PySem.W PySem.Calls PyProof.Rows
set_option Elab.async false
set_option maxRecDepth 100000
set_option maxHeartbeats 40000000
namespace Mine
theorem anew_CS70 : True := by
  w_top off
  exact True.intro
section
variable {w : World} {p : Program} {loose : List Str} {mean : ExcName → Option Value} {mg mb : Str → Option Value} {h₀ : Heap} {L : Nat} {fa : Addr} {cd : Value} {m : Str → Option Value} {w2 w1 : Obj} {Q : Flow → Shared → Prop} {E : Value → Shared → Prop} {s : Shared}
variable {text : Str} {tt tp tw tv tc td tn tT t2n t2 tkA tkB : Tok} {D B x1 d1 l1 x2 d2 l2 T T2 D2 R : Addr} {ys vs rv : List Value} {ns : List Int} {oB : Obj} {hs1 hs2 : Int} {k1 k2 rn : Nat} {bo to si : Value} {fr : Bool}
set_option maxHeartbeats 40000000
variable {ba en li re : Value} {bare e line nxt : Str} {tb te tli tre tl : Tok} {I c' G : Addr} {oI oc oL oG wG wL : Obj} {vs0 : Array Value} {t0 : Tok} {mZ : Str → Option Value} {dI : Int} {v0 vL v1 : Option Value} {gv : List Value}
theorem SR0 (hX : (hd.heap_39 w.params).In h₀) (hTp : Top p loose mean mg mb h₀) (hBl : Below callerA h₀ [] h₀) (hE : PassesOwn (model Challenge.rw_pm0051_01.row.prog w) (callerA.deeper (lawE L fa cd)) (lawE L fa cd) E) {led : List (Addr × Obj)} {u v : List Value} {tS : Tok}
    (hu : u.length ≤ 30) (hv : StrsAre v (lv 0)) (hIR : ∀ p ∈ (R, W.listOf (u ++ v).toArray rn) :: led, p.1 ≠ I)
    (F1 : Fr h₀ L s.heap (mRow R mZ)) (N1 : News h₀ L s.heap ((I, oI) :: (R, W.listOf (u ++ v).toArray rn) :: led))
    (hQ : ∀ h' tk R' vs, StrsAre vs ((lv 0).flatMap g2) → Fr h₀ L h' (mRow R' (fun y => if y = Str.ofString "size" then some (.int 0 tS) else mRow R mZ y)) → News h₀ L h' ((R', W.listOf ((u ++ v) ++ vs).toArray 0) :: (I, oI) :: led) → (∀ p ∈ (I, oI) :: led, @LT.lt Nat _ p.1 R') → Q .next { s with heap := h', toks := tk }) :
    wpAny (model Challenge.rw_pm0051_01.row.prog w) (callerA.deeper (lawE L fa cd)) (storeName (lawE L fa cd) (Str.ofString "size") (.int 0 tS)) (fun _ s₂ => wpAny (model Challenge.rw_pm0051_01.row.prog w) (callerA.deeper (lawE L fa cd)) (execs (forBody (lawB 19)) (lawE L fa cd)) Q E s₂) E s := by
  revert hX; k_fill; intro hX
  obtain ⟨h1, g1, n1, tk1, os1⟩ := s
  dsimp only [forBody, lawB, lawRec, recOf, lawE, List.drop]
  dsimp only [lawE, lawRec, recOf] at hE
  have hvl : v.length = 1 := hv.length
  have hpick : ∀ x : Int, x = -(1 : Nat) → slicePick (u ++ v).toArray (some x) none none = v.toArray := by
    rintro x rfl
    rw [kms_pick_eq, pick_last u v 1 hvl (by decide)]
  have hsz : (u ++ v).toArray.size ≤ sizeLine := by rw [sizeLine_eq, List.size_toArray, List.length_append]; omega
  have hsl : u.length + v.length ≤ 46 := by omega
  repeat' (first | (k_unfold; (try dsimp only)) | (k_end; kc_close) | ((with_reducible show wpAny _ _ (binaryOp Operator.Add (Value.str _ _) (Value.str _ _)) _ _ _); with_reducible (k_dflt (refine' my_add (by first | omega | decide +kernel) (by first | omega | decide +kernel) ?_); intro _ _ _)) | ((with_reducible show wpAny _ _ (eval (Expr.ListComp _ [⟨Expr.Name _ _, _, [], _⟩, ⟨Expr.Name _ _, _, [], _⟩] _ _) _) _ _ _); with_reducible (refine Hold.mk ?_)) | ((with_reducible show InPost ..); with_reducible (k_here; k_dflt (refine' ⟨_, _, rfl, (by k_asm), cb_drop (by k_asm) (by kcj_all), ?_⟩))) | walk1 | (dsimp only; walk1) | (leave1; (try dsimp only)))
  ((unfold Hold; k_dflt refine ListComp_two (F₀ := by k_asm) (by with_unfolding_all rfl) (by decide) (by rfl) (by decide) (by rfl) (by rfl) (by decide) (fun _ _ => rfl) ?_))
  repeat' (first | (k_unfold; (try dsimp only)) | (k_end; kc_close) | ((with_reducible show wpAny _ _ (binaryOp Operator.Add (Value.str _ _) (Value.str _ _)) _ _ _); with_reducible (k_dflt (refine' my_add (by first | omega | decide +kernel) (by first | omega | decide +kernel) ?_); intro _ _ _)) | ((with_reducible show wpAny _ _ (eval (Expr.ListComp _ [⟨Expr.Name _ _, _, [], _⟩, ⟨Expr.Name _ _, _, [], _⟩] _ _) _) _ _ _); with_reducible (refine Hold.mk ?_)) | ((with_reducible show InPost ..); with_reducible (k_here; k_dflt (refine' ⟨_, _, rfl, (by k_asm), cb_drop (by k_asm) (by kcj_all), ?_⟩))) | walk1 | (dsimp only; walk1) | (leave1; (try dsimp only)))
  rename Fr _ _ _ _ => F2; rename News _ _ _ _ => N2
  rw [hpick] at N2
  rotate_left
  · rfl
  refine ⟨_, [_], _, _, fun i zs => StrsAre zs (((lv 0).take i).flatMap g2), rfl, F2, N2, inSrc_list rfl N2 (by k_mem), (fun p hp => by rw [List.mem_singleton.mp hp]; k_mem), .nil, ?len0, ?turn0, ?fin0⟩
  case len0 =>
    intro i zs hi hz
    rw [hz.length]
    exact Nat.le_trans (g2_len (lv 0) i) (Nat.le_of_ble_eq_true rfl)
  case turn0 =>
    rintro s₂ ⟨g, rfl⟩
    intro i v I oI C oC D9 m₂ zs h tk E' hi hP hA hC hx9 F3 N3 ne off
    obtain ⟨z, u, hz, rfl⟩ := listAt_of (xs := lv 0) hv i v hP
    have hzl := lv_len0 z (List.mem_of_getElem? hz)
    clear F2 N2
    repeat' (first | (k_unfold; (try dsimp only)) | (k_end; kc_close) | ((with_reducible show wpAny _ _ (binaryOp Operator.Add (Value.str _ _) (Value.str _ _)) _ _ _); with_reducible (k_dflt (refine' my_add (by first | omega | decide +kernel) (by first | omega | decide +kernel) ?_); intro _ _ _)) | ((with_reducible show wpAny _ _ (eval (Expr.ListComp _ [⟨Expr.Name _ _, _, [], _⟩, ⟨Expr.Name _ _, _, [], _⟩] _ _) _) _ _ _); with_reducible (refine Hold.mk ?_)) | ((with_reducible show InPost ..); with_reducible (k_here; k_dflt (refine' ⟨_, _, rfl, (by k_asm), cb_drop (by k_asm) (by kcj_all), ?_⟩))) | walk1 | (dsimp only; walk1) | (leave1; (try dsimp only)))
    rename Fr _ _ _ _ => F9; rename News _ _ _ _ => N9
    refine outPost_str (fun y => z ++ y) rfl (Nat.le_of_ble_eq_true rfl) F9 N9 hA (fun zs' hz' => by dsimp only; rw [g2_take hz]; exact hz') ?_
    intro z2 u2 I2 oI2 oC2 m3' ys2 h2 tk2 E2 hz2 hC2 hx2 hy2 F5 N5
    have hz2l := sign_len hz2
    clear F9 N9
    repeat' (first | (k_unfold; (try dsimp only)) | (k_end; kc_close) | ((with_reducible show wpAny _ _ (binaryOp Operator.Add (Value.str _ _) (Value.str _ _)) _ _ _); with_reducible (k_dflt (refine' my_add (by first | omega | decide +kernel) (by first | omega | decide +kernel) ?_); intro _ _ _)) | ((with_reducible show wpAny _ _ (eval (Expr.ListComp _ [⟨Expr.Name _ _, _, [], _⟩, ⟨Expr.Name _ _, _, [], _⟩] _ _) _) _ _ _); with_reducible (refine Hold.mk ?_)) | ((with_reducible show InPost ..); with_reducible (k_here; k_dflt (refine' ⟨_, _, rfl, (by k_asm), cb_drop (by k_asm) (by kcj_all), ?_⟩))) | walk1 | (dsimp only; walk1) | (leave1; (try dsimp only)))
    all_goals exact IsText.mk
  case fin0 =>
    intro ys9 D9 h tk hz F9 N9 oD
    try dsimp only at hz
    rw [List.take_of_length_le (by rw [List.size_toArray, hvl]; exact Nat.le_of_ble_eq_true rfl)] at hz
    have hyl := hz.length
    clear F2 N2
    repeat' (first | (k_unfold; (try dsimp only)) | (k_end; kc_close) | ((with_reducible show wpAny _ _ (binaryOp Operator.Add (Value.str _ _) (Value.str _ _)) _ _ _); with_reducible (k_dflt (refine' my_add (by first | omega | decide +kernel) (by first | omega | decide +kernel) ?_); intro _ _ _)) | ((with_reducible show wpAny _ _ (eval (Expr.ListComp _ [⟨Expr.Name _ _, _, [], _⟩, ⟨Expr.Name _ _, _, [], _⟩] _ _) _) _ _ _); with_reducible (refine Hold.mk ?_)) | ((with_reducible show InPost ..); with_reducible (k_here; k_dflt (refine' ⟨_, _, rfl, (by k_asm), cb_drop (by k_asm) (by kcj_all), ?_⟩))) | walk1 | (dsimp only; walk1) | (leave1; (try dsimp only)))
    k_dflt (refine' kmk_add_lit (zs := (u ++ v) ++ ys9) (by k_asm) (by k_asm) (by kmk_list) (by kmk_list) rfl ?_ ?z)
    case z =>
      rw [sizeLine_eq]
      show (u ++ v).length + ys9.length ≤ _
      rw [List.length_append, hyl]
      have : ((lv 0).flatMap g2).length ≤ 20 := Nat.le_of_ble_eq_true rfl
      omega
    intro R' h2 F5 N5 l5
    clear F9 N9
    repeat' (first | (k_unfold; (try dsimp only)) | (k_end; kc_close) | ((with_reducible show wpAny _ _ (binaryOp Operator.Add (Value.str _ _) (Value.str _ _)) _ _ _); with_reducible (k_dflt (refine' my_add (by first | omega | decide +kernel) (by first | omega | decide +kernel) ?_); intro _ _ _)) | ((with_reducible show wpAny _ _ (eval (Expr.ListComp _ [⟨Expr.Name _ _, _, [], _⟩, ⟨Expr.Name _ _, _, [], _⟩] _ _) _) _ _ _); with_reducible (refine Hold.mk ?_)) | ((with_reducible show InPost ..); with_reducible (k_here; k_dflt (refine' ⟨_, _, rfl, (by k_asm), cb_drop (by k_asm) (by kcj_all), ?_⟩))) | walk1 | (dsimp only; walk1) | (leave1; (try dsimp only)))
    rename Fr _ _ _ _ => F6; rename News _ _ _ _ => N6
    refine hQ _ _ _ _ hz F6 (cb_drop N6 ?_) fun p hp => l5 p ?_
    · kcj_all
    · rcases List.mem_cons.mp hp with rfl | hp
      · exact .tail _ (.tail _ (.head _))
      · exact .tail _ (.tail _ (.tail _ (.tail _ hp)))
end
end Mine
end
section
open PySem PySem.W PySem.Calls PyProof.Rows
set_option Elab.async false
set_option maxRecDepth 100000
set_option maxHeartbeats 40000000
namespace Mine
theorem anew_CS71 : True := by
  w_top off
  exact True.intro
section
variable {w : World} {p : Program} {loose : List Str} {mean : ExcName → Option Value} {mg mb : Str → Option Value} {h₀ : Heap} {L : Nat} {fa : Addr} {cd : Value} {m : Str → Option Value} {w2 w1 : Obj} {Q : Flow → Shared → Prop} {E : Value → Shared → Prop} {s : Shared}
variable {text : Str} {tt tp tw tv tc td tn tT t2n t2 tkA tkB : Tok} {D B x1 d1 l1 x2 d2 l2 T T2 D2 R : Addr} {ys vs rv : List Value} {ns : List Int} {oB : Obj} {hs1 hs2 : Int} {k1 k2 rn : Nat} {bo to si : Value} {fr : Bool}
set_option maxHeartbeats 40000000
variable {ba en li re : Value} {bare e line nxt : Str} {tb te tli tre tl : Tok} {I c' G : Addr} {oI oc oL oG wG wL : Obj} {vs0 : Array Value} {t0 : Tok} {mZ : Str → Option Value} {dI : Int} {v0 vL v1 : Option Value} {gv : List Value}
theorem SR1 (hX : (hd.heap_39 w.params).In h₀) (hTp : Top p loose mean mg mb h₀) (hBl : Below callerA h₀ [] h₀) (hE : PassesOwn (model Challenge.rw_pm0051_01.row.prog w) (callerA.deeper (lawE L fa cd)) (lawE L fa cd) E) {led : List (Addr × Obj)} {u v : List Value} {tS : Tok}
    (hu : u.length ≤ 30) (hv : StrsAre v (lv 1)) (hIR : ∀ p ∈ (R, W.listOf (u ++ v).toArray rn) :: led, p.1 ≠ I)
    (F1 : Fr h₀ L s.heap (mRow R mZ)) (N1 : News h₀ L s.heap ((I, oI) :: (R, W.listOf (u ++ v).toArray rn) :: led))
    (hQ : ∀ h' tk R' vs, StrsAre vs ((lv 1).flatMap g2) → Fr h₀ L h' (mRow R' (fun y => if y = Str.ofString "size" then some (.int 1 tS) else mRow R mZ y)) → News h₀ L h' ((R', W.listOf ((u ++ v) ++ vs).toArray 0) :: (I, oI) :: led) → (∀ p ∈ (I, oI) :: led, @LT.lt Nat _ p.1 R') → Q .next { s with heap := h', toks := tk }) :
    wpAny (model Challenge.rw_pm0051_01.row.prog w) (callerA.deeper (lawE L fa cd)) (storeName (lawE L fa cd) (Str.ofString "size") (.int 1 tS)) (fun _ s₂ => wpAny (model Challenge.rw_pm0051_01.row.prog w) (callerA.deeper (lawE L fa cd)) (execs (forBody (lawB 19)) (lawE L fa cd)) Q E s₂) E s := by
  revert hX; k_fill; intro hX
  obtain ⟨h1, g1, n1, tk1, os1⟩ := s
  dsimp only [forBody, lawB, lawRec, recOf, lawE, List.drop]
  dsimp only [lawE, lawRec, recOf] at hE
  have hvl : v.length = 2 := hv.length
  have hpick : ∀ x : Int, x = -(2 : Nat) → slicePick (u ++ v).toArray (some x) none none = v.toArray := by
    rintro x rfl
    rw [kms_pick_eq, pick_last u v 2 hvl (by decide)]
  have hsz : (u ++ v).toArray.size ≤ sizeLine := by rw [sizeLine_eq, List.size_toArray, List.length_append]; omega
  have hsl : u.length + v.length ≤ 46 := by omega
  repeat' (first | (k_unfold; (try dsimp only)) | (k_end; kc_close) | ((with_reducible show wpAny _ _ (binaryOp Operator.Add (Value.str _ _) (Value.str _ _)) _ _ _); with_reducible (k_dflt (refine' my_add (by first | omega | decide +kernel) (by first | omega | decide +kernel) ?_); intro _ _ _)) | ((with_reducible show wpAny _ _ (eval (Expr.ListComp _ [⟨Expr.Name _ _, _, [], _⟩, ⟨Expr.Name _ _, _, [], _⟩] _ _) _) _ _ _); with_reducible (refine Hold.mk ?_)) | ((with_reducible show InPost ..); with_reducible (k_here; k_dflt (refine' ⟨_, _, rfl, (by k_asm), cb_drop (by k_asm) (by kcj_all), ?_⟩))) | walk1 | (dsimp only; walk1) | (leave1; (try dsimp only)))
  ((unfold Hold; k_dflt refine ListComp_two (F₀ := by k_asm) (by with_unfolding_all rfl) (by decide) (by rfl) (by decide) (by rfl) (by rfl) (by decide) (fun _ _ => rfl) ?_))
  repeat' (first | (k_unfold; (try dsimp only)) | (k_end; kc_close) | ((with_reducible show wpAny _ _ (binaryOp Operator.Add (Value.str _ _) (Value.str _ _)) _ _ _); with_reducible (k_dflt (refine' my_add (by first | omega | decide +kernel) (by first | omega | decide +kernel) ?_); intro _ _ _)) | ((with_reducible show wpAny _ _ (eval (Expr.ListComp _ [⟨Expr.Name _ _, _, [], _⟩, ⟨Expr.Name _ _, _, [], _⟩] _ _) _) _ _ _); with_reducible (refine Hold.mk ?_)) | ((with_reducible show InPost ..); with_reducible (k_here; k_dflt (refine' ⟨_, _, rfl, (by k_asm), cb_drop (by k_asm) (by kcj_all), ?_⟩))) | walk1 | (dsimp only; walk1) | (leave1; (try dsimp only)))
  rename Fr _ _ _ _ => F2; rename News _ _ _ _ => N2
  rw [hpick] at N2
  rotate_left
  · rfl
  refine ⟨_, [_], _, _, fun i zs => StrsAre zs (((lv 1).take i).flatMap g2), rfl, F2, N2, inSrc_list rfl N2 (by k_mem), (fun p hp => by rw [List.mem_singleton.mp hp]; k_mem), .nil, ?len0, ?turn0, ?fin0⟩
  case len0 =>
    intro i zs hi hz
    rw [hz.length]
    exact Nat.le_trans (g2_len (lv 1) i) (Nat.le_of_ble_eq_true rfl)
  case turn0 =>
    rintro s₂ ⟨g, rfl⟩
    intro i v I oI C oC D9 m₂ zs h tk E' hi hP hA hC hx9 F3 N3 ne off
    obtain ⟨z, u, hz, rfl⟩ := listAt_of (xs := lv 1) hv i v hP
    have hzl := lv_len1 z (List.mem_of_getElem? hz)
    clear F2 N2
    repeat' (first | (k_unfold; (try dsimp only)) | (k_end; kc_close) | ((with_reducible show wpAny _ _ (binaryOp Operator.Add (Value.str _ _) (Value.str _ _)) _ _ _); with_reducible (k_dflt (refine' my_add (by first | omega | decide +kernel) (by first | omega | decide +kernel) ?_); intro _ _ _)) | ((with_reducible show wpAny _ _ (eval (Expr.ListComp _ [⟨Expr.Name _ _, _, [], _⟩, ⟨Expr.Name _ _, _, [], _⟩] _ _) _) _ _ _); with_reducible (refine Hold.mk ?_)) | ((with_reducible show InPost ..); with_reducible (k_here; k_dflt (refine' ⟨_, _, rfl, (by k_asm), cb_drop (by k_asm) (by kcj_all), ?_⟩))) | walk1 | (dsimp only; walk1) | (leave1; (try dsimp only)))
    rename Fr _ _ _ _ => F9; rename News _ _ _ _ => N9
    refine outPost_str (fun y => z ++ y) rfl (Nat.le_of_ble_eq_true rfl) F9 N9 hA (fun zs' hz' => by dsimp only; rw [g2_take hz]; exact hz') ?_
    intro z2 u2 I2 oI2 oC2 m3' ys2 h2 tk2 E2 hz2 hC2 hx2 hy2 F5 N5
    have hz2l := sign_len hz2
    clear F9 N9
    repeat' (first | (k_unfold; (try dsimp only)) | (k_end; kc_close) | ((with_reducible show wpAny _ _ (binaryOp Operator.Add (Value.str _ _) (Value.str _ _)) _ _ _); with_reducible (k_dflt (refine' my_add (by first | omega | decide +kernel) (by first | omega | decide +kernel) ?_); intro _ _ _)) | ((with_reducible show wpAny _ _ (eval (Expr.ListComp _ [⟨Expr.Name _ _, _, [], _⟩, ⟨Expr.Name _ _, _, [], _⟩] _ _) _) _ _ _); with_reducible (refine Hold.mk ?_)) | ((with_reducible show InPost ..); with_reducible (k_here; k_dflt (refine' ⟨_, _, rfl, (by k_asm), cb_drop (by k_asm) (by kcj_all), ?_⟩))) | walk1 | (dsimp only; walk1) | (leave1; (try dsimp only)))
    all_goals exact IsText.mk
  case fin0 =>
    intro ys9 D9 h tk hz F9 N9 oD
    try dsimp only at hz
    rw [List.take_of_length_le (by rw [List.size_toArray, hvl]; exact Nat.le_of_ble_eq_true rfl)] at hz
    have hyl := hz.length
    clear F2 N2
    repeat' (first | (k_unfold; (try dsimp only)) | (k_end; kc_close) | ((with_reducible show wpAny _ _ (binaryOp Operator.Add (Value.str _ _) (Value.str _ _)) _ _ _); with_reducible (k_dflt (refine' my_add (by first | omega | decide +kernel) (by first | omega | decide +kernel) ?_); intro _ _ _)) | ((with_reducible show wpAny _ _ (eval (Expr.ListComp _ [⟨Expr.Name _ _, _, [], _⟩, ⟨Expr.Name _ _, _, [], _⟩] _ _) _) _ _ _); with_reducible (refine Hold.mk ?_)) | ((with_reducible show InPost ..); with_reducible (k_here; k_dflt (refine' ⟨_, _, rfl, (by k_asm), cb_drop (by k_asm) (by kcj_all), ?_⟩))) | walk1 | (dsimp only; walk1) | (leave1; (try dsimp only)))
    k_dflt (refine' kmk_add_lit (zs := (u ++ v) ++ ys9) (by k_asm) (by k_asm) (by kmk_list) (by kmk_list) rfl ?_ ?z)
    case z =>
      rw [sizeLine_eq]
      show (u ++ v).length + ys9.length ≤ _
      rw [List.length_append, hyl]
      have : ((lv 1).flatMap g2).length ≤ 20 := Nat.le_of_ble_eq_true rfl
      omega
    intro R' h2 F5 N5 l5
    clear F9 N9
    repeat' (first | (k_unfold; (try dsimp only)) | (k_end; kc_close) | ((with_reducible show wpAny _ _ (binaryOp Operator.Add (Value.str _ _) (Value.str _ _)) _ _ _); with_reducible (k_dflt (refine' my_add (by first | omega | decide +kernel) (by first | omega | decide +kernel) ?_); intro _ _ _)) | ((with_reducible show wpAny _ _ (eval (Expr.ListComp _ [⟨Expr.Name _ _, _, [], _⟩, ⟨Expr.Name _ _, _, [], _⟩] _ _) _) _ _ _); with_reducible (refine Hold.mk ?_)) | ((with_reducible show InPost ..); with_reducible (k_here; k_dflt (refine' ⟨_, _, rfl, (by k_asm), cb_drop (by k_asm) (by kcj_all), ?_⟩))) | walk1 | (dsimp only; walk1) | (leave1; (try dsimp only)))
    rename Fr _ _ _ _ => F6; rename News _ _ _ _ => N6
    refine hQ _ _ _ _ hz F6 (cb_drop N6 ?_) fun p hp => l5 p ?_
    · kcj_all
    · rcases List.mem_cons.mp hp with rfl | hp
      · exact .tail _ (.tail _ (.head _))
      · exact .tail _ (.tail _ (.tail _ (.tail _ hp)))
end
end Mine
end
section
open PySem PySem.W PySem.Calls PyProof.Rows
set_option Elab.async false
set_option maxRecDepth 100000
set_option maxHeartbeats 40000000
namespace Mine
theorem anew_CS72 : True := by
  w_top off
  exact True.intro
section
variable {w : World} {p : Program} {loose : List Str} {mean : ExcName → Option Value} {mg mb : Str → Option Value} {h₀ : Heap} {L : Nat} {fa : Addr} {cd : Value} {m : Str → Option Value} {w2 w1 : Obj} {Q : Flow → Shared → Prop} {E : Value → Shared → Prop} {s : Shared}
variable {text : Str} {tt tp tw tv tc td tn tT t2n t2 tkA tkB : Tok} {D B x1 d1 l1 x2 d2 l2 T T2 D2 R : Addr} {ys vs rv : List Value} {ns : List Int} {oB : Obj} {hs1 hs2 : Int} {k1 k2 rn : Nat} {bo to si : Value} {fr : Bool}
set_option maxHeartbeats 40000000
variable {ba en li re : Value} {bare e line nxt : Str} {tb te tli tre tl : Tok} {I c' G : Addr} {oI oc oL oG wG wL : Obj} {vs0 : Array Value} {t0 : Tok} {mZ : Str → Option Value} {dI : Int} {v0 vL v1 : Option Value} {gv : List Value}
theorem SR2 (hX : (hd.heap_39 w.params).In h₀) (hTp : Top p loose mean mg mb h₀) (hBl : Below callerA h₀ [] h₀) (hE : PassesOwn (model Challenge.rw_pm0051_01.row.prog w) (callerA.deeper (lawE L fa cd)) (lawE L fa cd) E) {led : List (Addr × Obj)} {u v : List Value} {tS : Tok}
    (hu : u.length ≤ 30) (hv : StrsAre v (lv 2)) (hIR : ∀ p ∈ (R, W.listOf (u ++ v).toArray rn) :: led, p.1 ≠ I)
    (F1 : Fr h₀ L s.heap (mRow R mZ)) (N1 : News h₀ L s.heap ((I, oI) :: (R, W.listOf (u ++ v).toArray rn) :: led))
    (hQ : ∀ h' tk R' vs, StrsAre vs ((lv 2).flatMap g2) → Fr h₀ L h' (mRow R' (fun y => if y = Str.ofString "size" then some (.int 2 tS) else mRow R mZ y)) → News h₀ L h' ((R', W.listOf ((u ++ v) ++ vs).toArray 0) :: (I, oI) :: led) → (∀ p ∈ (I, oI) :: led, @LT.lt Nat _ p.1 R') → Q .next { s with heap := h', toks := tk }) :
    wpAny (model Challenge.rw_pm0051_01.row.prog w) (callerA.deeper (lawE L fa cd)) (storeName (lawE L fa cd) (Str.ofString "size") (.int 2 tS)) (fun _ s₂ => wpAny (model Challenge.rw_pm0051_01.row.prog w) (callerA.deeper (lawE L fa cd)) (execs (forBody (lawB 19)) (lawE L fa cd)) Q E s₂) E s := by
  revert hX; k_fill; intro hX
  obtain ⟨h1, g1, n1, tk1, os1⟩ := s
  dsimp only [forBody, lawB, lawRec, recOf, lawE, List.drop]
  dsimp only [lawE, lawRec, recOf] at hE
  have hvl : v.length = 4 := hv.length
  have hpick : ∀ x : Int, x = -(4 : Nat) → slicePick (u ++ v).toArray (some x) none none = v.toArray := by
    rintro x rfl
    rw [kms_pick_eq, pick_last u v 4 hvl (by decide)]
  have hsz : (u ++ v).toArray.size ≤ sizeLine := by rw [sizeLine_eq, List.size_toArray, List.length_append]; omega
  have hsl : u.length + v.length ≤ 46 := by omega
  repeat' (first | (k_unfold; (try dsimp only)) | (k_end; kc_close) | ((with_reducible show wpAny _ _ (binaryOp Operator.Add (Value.str _ _) (Value.str _ _)) _ _ _); with_reducible (k_dflt (refine' my_add (by first | omega | decide +kernel) (by first | omega | decide +kernel) ?_); intro _ _ _)) | ((with_reducible show wpAny _ _ (eval (Expr.ListComp _ [⟨Expr.Name _ _, _, [], _⟩, ⟨Expr.Name _ _, _, [], _⟩] _ _) _) _ _ _); with_reducible (refine Hold.mk ?_)) | ((with_reducible show InPost ..); with_reducible (k_here; k_dflt (refine' ⟨_, _, rfl, (by k_asm), cb_drop (by k_asm) (by kcj_all), ?_⟩))) | walk1 | (dsimp only; walk1) | (leave1; (try dsimp only)))
  ((unfold Hold; k_dflt refine ListComp_two (F₀ := by k_asm) (by with_unfolding_all rfl) (by decide) (by rfl) (by decide) (by rfl) (by rfl) (by decide) (fun _ _ => rfl) ?_))
  repeat' (first | (k_unfold; (try dsimp only)) | (k_end; kc_close) | ((with_reducible show wpAny _ _ (binaryOp Operator.Add (Value.str _ _) (Value.str _ _)) _ _ _); with_reducible (k_dflt (refine' my_add (by first | omega | decide +kernel) (by first | omega | decide +kernel) ?_); intro _ _ _)) | ((with_reducible show wpAny _ _ (eval (Expr.ListComp _ [⟨Expr.Name _ _, _, [], _⟩, ⟨Expr.Name _ _, _, [], _⟩] _ _) _) _ _ _); with_reducible (refine Hold.mk ?_)) | ((with_reducible show InPost ..); with_reducible (k_here; k_dflt (refine' ⟨_, _, rfl, (by k_asm), cb_drop (by k_asm) (by kcj_all), ?_⟩))) | walk1 | (dsimp only; walk1) | (leave1; (try dsimp only)))
  rename Fr _ _ _ _ => F2; rename News _ _ _ _ => N2
  rw [hpick] at N2
  rotate_left
  · rfl
  refine ⟨_, [_], _, _, fun i zs => StrsAre zs (((lv 2).take i).flatMap g2), rfl, F2, N2, inSrc_list rfl N2 (by k_mem), (fun p hp => by rw [List.mem_singleton.mp hp]; k_mem), .nil, ?len0, ?turn0, ?fin0⟩
  case len0 =>
    intro i zs hi hz
    rw [hz.length]
    exact Nat.le_trans (g2_len (lv 2) i) (Nat.le_of_ble_eq_true rfl)
  case turn0 =>
    rintro s₂ ⟨g, rfl⟩
    intro i v I oI C oC D9 m₂ zs h tk E' hi hP hA hC hx9 F3 N3 ne off
    obtain ⟨z, u, hz, rfl⟩ := listAt_of (xs := lv 2) hv i v hP
    have hzl := lv_len2 z (List.mem_of_getElem? hz)
    clear F2 N2
    repeat' (first | (k_unfold; (try dsimp only)) | (k_end; kc_close) | ((with_reducible show wpAny _ _ (binaryOp Operator.Add (Value.str _ _) (Value.str _ _)) _ _ _); with_reducible (k_dflt (refine' my_add (by first | omega | decide +kernel) (by first | omega | decide +kernel) ?_); intro _ _ _)) | ((with_reducible show wpAny _ _ (eval (Expr.ListComp _ [⟨Expr.Name _ _, _, [], _⟩, ⟨Expr.Name _ _, _, [], _⟩] _ _) _) _ _ _); with_reducible (refine Hold.mk ?_)) | ((with_reducible show InPost ..); with_reducible (k_here; k_dflt (refine' ⟨_, _, rfl, (by k_asm), cb_drop (by k_asm) (by kcj_all), ?_⟩))) | walk1 | (dsimp only; walk1) | (leave1; (try dsimp only)))
    rename Fr _ _ _ _ => F9; rename News _ _ _ _ => N9
    refine outPost_str (fun y => z ++ y) rfl (Nat.le_of_ble_eq_true rfl) F9 N9 hA (fun zs' hz' => by dsimp only; rw [g2_take hz]; exact hz') ?_
    intro z2 u2 I2 oI2 oC2 m3' ys2 h2 tk2 E2 hz2 hC2 hx2 hy2 F5 N5
    have hz2l := sign_len hz2
    clear F9 N9
    repeat' (first | (k_unfold; (try dsimp only)) | (k_end; kc_close) | ((with_reducible show wpAny _ _ (binaryOp Operator.Add (Value.str _ _) (Value.str _ _)) _ _ _); with_reducible (k_dflt (refine' my_add (by first | omega | decide +kernel) (by first | omega | decide +kernel) ?_); intro _ _ _)) | ((with_reducible show wpAny _ _ (eval (Expr.ListComp _ [⟨Expr.Name _ _, _, [], _⟩, ⟨Expr.Name _ _, _, [], _⟩] _ _) _) _ _ _); with_reducible (refine Hold.mk ?_)) | ((with_reducible show InPost ..); with_reducible (k_here; k_dflt (refine' ⟨_, _, rfl, (by k_asm), cb_drop (by k_asm) (by kcj_all), ?_⟩))) | walk1 | (dsimp only; walk1) | (leave1; (try dsimp only)))
    all_goals exact IsText.mk
  case fin0 =>
    intro ys9 D9 h tk hz F9 N9 oD
    try dsimp only at hz
    rw [List.take_of_length_le (by rw [List.size_toArray, hvl]; exact Nat.le_of_ble_eq_true rfl)] at hz
    have hyl := hz.length
    clear F2 N2
    repeat' (first | (k_unfold; (try dsimp only)) | (k_end; kc_close) | ((with_reducible show wpAny _ _ (binaryOp Operator.Add (Value.str _ _) (Value.str _ _)) _ _ _); with_reducible (k_dflt (refine' my_add (by first | omega | decide +kernel) (by first | omega | decide +kernel) ?_); intro _ _ _)) | ((with_reducible show wpAny _ _ (eval (Expr.ListComp _ [⟨Expr.Name _ _, _, [], _⟩, ⟨Expr.Name _ _, _, [], _⟩] _ _) _) _ _ _); with_reducible (refine Hold.mk ?_)) | ((with_reducible show InPost ..); with_reducible (k_here; k_dflt (refine' ⟨_, _, rfl, (by k_asm), cb_drop (by k_asm) (by kcj_all), ?_⟩))) | walk1 | (dsimp only; walk1) | (leave1; (try dsimp only)))
    k_dflt (refine' kmk_add_lit (zs := (u ++ v) ++ ys9) (by k_asm) (by k_asm) (by kmk_list) (by kmk_list) rfl ?_ ?z)
    case z =>
      rw [sizeLine_eq]
      show (u ++ v).length + ys9.length ≤ _
      rw [List.length_append, hyl]
      have : ((lv 2).flatMap g2).length ≤ 20 := Nat.le_of_ble_eq_true rfl
      omega
    intro R' h2 F5 N5 l5
    clear F9 N9
    repeat' (first | (k_unfold; (try dsimp only)) | (k_end; kc_close) | ((with_reducible show wpAny _ _ (binaryOp Operator.Add (Value.str _ _) (Value.str _ _)) _ _ _); with_reducible (k_dflt (refine' my_add (by first | omega | decide +kernel) (by first | omega | decide +kernel) ?_); intro _ _ _)) | ((with_reducible show wpAny _ _ (eval (Expr.ListComp _ [⟨Expr.Name _ _, _, [], _⟩, ⟨Expr.Name _ _, _, [], _⟩] _ _) _) _ _ _); with_reducible (refine Hold.mk ?_)) | ((with_reducible show InPost ..); with_reducible (k_here; k_dflt (refine' ⟨_, _, rfl, (by k_asm), cb_drop (by k_asm) (by kcj_all), ?_⟩))) | walk1 | (dsimp only; walk1) | (leave1; (try dsimp only)))
    rename Fr _ _ _ _ => F6; rename News _ _ _ _ => N6
    refine hQ _ _ _ _ hz F6 (cb_drop N6 ?_) fun p hp => l5 p ?_
    · kcj_all
    · rcases List.mem_cons.mp hp with rfl | hp
      · exact .tail _ (.tail _ (.head _))
      · exact .tail _ (.tail _ (.tail _ (.tail _ hp)))
end
end Mine
end
section
open PySem PySem.W PySem.Calls PyProof.Rows
set_option Elab.async false
set_option maxRecDepth 100000
set_option maxHeartbeats 40000000
namespace Mine
theorem anew_CS73 : True := by
  w_top off
  exact True.intro
section
variable {w : World} {p : Program} {loose : List Str} {mean : ExcName → Option Value} {mg mb : Str → Option Value} {h₀ : Heap} {L : Nat} {fa : Addr} {cd : Value} {m : Str → Option Value} {w2 w1 : Obj} {Q : Flow → Shared → Prop} {E : Value → Shared → Prop} {s : Shared}
variable {text : Str} {tt tp tw tv tc td tn tT t2n t2 tkA tkB : Tok} {D B x1 d1 l1 x2 d2 l2 T T2 D2 R : Addr} {ys vs rv : List Value} {ns : List Int} {oB : Obj} {hs1 hs2 : Int} {k1 k2 rn : Nat} {bo to si : Value} {fr : Bool}
set_option maxHeartbeats 40000000
variable {ba en li re : Value} {bare e line nxt : Str} {tb te tli tre tl : Tok} {I c' G : Addr} {oI oc oL oG wG wL : Obj} {vs0 : Array Value} {t0 : Tok} {mZ : Str → Option Value} {dI : Int} {v0 vL v1 : Option Value} {gv : List Value}
theorem SR3 (hX : (hd.heap_39 w.params).In h₀) (hTp : Top p loose mean mg mb h₀) (hBl : Below callerA h₀ [] h₀) (hE : PassesOwn (model Challenge.rw_pm0051_01.row.prog w) (callerA.deeper (lawE L fa cd)) (lawE L fa cd) E) {led : List (Addr × Obj)} {u v : List Value} {tS : Tok}
    (hu : u.length ≤ 30) (hv : StrsAre v (lv 3)) (hIR : ∀ p ∈ (R, W.listOf (u ++ v).toArray rn) :: led, p.1 ≠ I)
    (F1 : Fr h₀ L s.heap (mRow R mZ)) (N1 : News h₀ L s.heap ((I, oI) :: (R, W.listOf (u ++ v).toArray rn) :: led))
    (hQ : ∀ h' tk R' vs, StrsAre vs ((lv 3).flatMap g2) → Fr h₀ L h' (mRow R' (fun y => if y = Str.ofString "size" then some (.int 3 tS) else mRow R mZ y)) → News h₀ L h' ((R', W.listOf ((u ++ v) ++ vs).toArray 0) :: (I, oI) :: led) → (∀ p ∈ (I, oI) :: led, @LT.lt Nat _ p.1 R') → Q .next { s with heap := h', toks := tk }) :
    wpAny (model Challenge.rw_pm0051_01.row.prog w) (callerA.deeper (lawE L fa cd)) (storeName (lawE L fa cd) (Str.ofString "size") (.int 3 tS)) (fun _ s₂ => wpAny (model Challenge.rw_pm0051_01.row.prog w) (callerA.deeper (lawE L fa cd)) (execs (forBody (lawB 19)) (lawE L fa cd)) Q E s₂) E s := by
  revert hX; k_fill; intro hX
  obtain ⟨h1, g1, n1, tk1, os1⟩ := s
  dsimp only [forBody, lawB, lawRec, recOf, lawE, List.drop]
  dsimp only [lawE, lawRec, recOf] at hE
  have hvl : v.length = 8 := hv.length
  have hpick : ∀ x : Int, x = -(8 : Nat) → slicePick (u ++ v).toArray (some x) none none = v.toArray := by
    rintro x rfl
    rw [kms_pick_eq, pick_last u v 8 hvl (by decide)]
  have hsz : (u ++ v).toArray.size ≤ sizeLine := by rw [sizeLine_eq, List.size_toArray, List.length_append]; omega
  have hsl : u.length + v.length ≤ 46 := by omega
  repeat' (first | (k_unfold; (try dsimp only)) | (k_end; kc_close) | ((with_reducible show wpAny _ _ (binaryOp Operator.Add (Value.str _ _) (Value.str _ _)) _ _ _); with_reducible (k_dflt (refine' my_add (by first | omega | decide +kernel) (by first | omega | decide +kernel) ?_); intro _ _ _)) | ((with_reducible show wpAny _ _ (eval (Expr.ListComp _ [⟨Expr.Name _ _, _, [], _⟩, ⟨Expr.Name _ _, _, [], _⟩] _ _) _) _ _ _); with_reducible (refine Hold.mk ?_)) | ((with_reducible show InPost ..); with_reducible (k_here; k_dflt (refine' ⟨_, _, rfl, (by k_asm), cb_drop (by k_asm) (by kcj_all), ?_⟩))) | walk1 | (dsimp only; walk1) | (leave1; (try dsimp only)))
  ((unfold Hold; k_dflt refine ListComp_two (F₀ := by k_asm) (by with_unfolding_all rfl) (by decide) (by rfl) (by decide) (by rfl) (by rfl) (by decide) (fun _ _ => rfl) ?_))
  repeat' (first | (k_unfold; (try dsimp only)) | (k_end; kc_close) | ((with_reducible show wpAny _ _ (binaryOp Operator.Add (Value.str _ _) (Value.str _ _)) _ _ _); with_reducible (k_dflt (refine' my_add (by first | omega | decide +kernel) (by first | omega | decide +kernel) ?_); intro _ _ _)) | ((with_reducible show wpAny _ _ (eval (Expr.ListComp _ [⟨Expr.Name _ _, _, [], _⟩, ⟨Expr.Name _ _, _, [], _⟩] _ _) _) _ _ _); with_reducible (refine Hold.mk ?_)) | ((with_reducible show InPost ..); with_reducible (k_here; k_dflt (refine' ⟨_, _, rfl, (by k_asm), cb_drop (by k_asm) (by kcj_all), ?_⟩))) | walk1 | (dsimp only; walk1) | (leave1; (try dsimp only)))
  rename Fr _ _ _ _ => F2; rename News _ _ _ _ => N2
  rw [hpick] at N2
  rotate_left
  · rfl
  refine ⟨_, [_], _, _, fun i zs => StrsAre zs (((lv 3).take i).flatMap g2), rfl, F2, N2, inSrc_list rfl N2 (by k_mem), (fun p hp => by rw [List.mem_singleton.mp hp]; k_mem), .nil, ?len0, ?turn0, ?fin0⟩
  case len0 =>
    intro i zs hi hz
    rw [hz.length]
    exact Nat.le_trans (g2_len (lv 3) i) (Nat.le_of_ble_eq_true rfl)
  case turn0 =>
    rintro s₂ ⟨g, rfl⟩
    intro i v I oI C oC D9 m₂ zs h tk E' hi hP hA hC hx9 F3 N3 ne off
    obtain ⟨z, u, hz, rfl⟩ := listAt_of (xs := lv 3) hv i v hP
    have hzl := lv_len3 z (List.mem_of_getElem? hz)
    clear F2 N2
    repeat' (first | (k_unfold; (try dsimp only)) | (k_end; kc_close) | ((with_reducible show wpAny _ _ (binaryOp Operator.Add (Value.str _ _) (Value.str _ _)) _ _ _); with_reducible (k_dflt (refine' my_add (by first | omega | decide +kernel) (by first | omega | decide +kernel) ?_); intro _ _ _)) | ((with_reducible show wpAny _ _ (eval (Expr.ListComp _ [⟨Expr.Name _ _, _, [], _⟩, ⟨Expr.Name _ _, _, [], _⟩] _ _) _) _ _ _); with_reducible (refine Hold.mk ?_)) | ((with_reducible show InPost ..); with_reducible (k_here; k_dflt (refine' ⟨_, _, rfl, (by k_asm), cb_drop (by k_asm) (by kcj_all), ?_⟩))) | walk1 | (dsimp only; walk1) | (leave1; (try dsimp only)))
    rename Fr _ _ _ _ => F9; rename News _ _ _ _ => N9
    refine outPost_str (fun y => z ++ y) rfl (Nat.le_of_ble_eq_true rfl) F9 N9 hA (fun zs' hz' => by dsimp only; rw [g2_take hz]; exact hz') ?_
    intro z2 u2 I2 oI2 oC2 m3' ys2 h2 tk2 E2 hz2 hC2 hx2 hy2 F5 N5
    have hz2l := sign_len hz2
    clear F9 N9
    repeat' (first | (k_unfold; (try dsimp only)) | (k_end; kc_close) | ((with_reducible show wpAny _ _ (binaryOp Operator.Add (Value.str _ _) (Value.str _ _)) _ _ _); with_reducible (k_dflt (refine' my_add (by first | omega | decide +kernel) (by first | omega | decide +kernel) ?_); intro _ _ _)) | ((with_reducible show wpAny _ _ (eval (Expr.ListComp _ [⟨Expr.Name _ _, _, [], _⟩, ⟨Expr.Name _ _, _, [], _⟩] _ _) _) _ _ _); with_reducible (refine Hold.mk ?_)) | ((with_reducible show InPost ..); with_reducible (k_here; k_dflt (refine' ⟨_, _, rfl, (by k_asm), cb_drop (by k_asm) (by kcj_all), ?_⟩))) | walk1 | (dsimp only; walk1) | (leave1; (try dsimp only)))
    all_goals exact IsText.mk
  case fin0 =>
    intro ys9 D9 h tk hz F9 N9 oD
    try dsimp only at hz
    rw [List.take_of_length_le (by rw [List.size_toArray, hvl]; exact Nat.le_of_ble_eq_true rfl)] at hz
    have hyl := hz.length
    clear F2 N2
    repeat' (first | (k_unfold; (try dsimp only)) | (k_end; kc_close) | ((with_reducible show wpAny _ _ (binaryOp Operator.Add (Value.str _ _) (Value.str _ _)) _ _ _); with_reducible (k_dflt (refine' my_add (by first | omega | decide +kernel) (by first | omega | decide +kernel) ?_); intro _ _ _)) | ((with_reducible show wpAny _ _ (eval (Expr.ListComp _ [⟨Expr.Name _ _, _, [], _⟩, ⟨Expr.Name _ _, _, [], _⟩] _ _) _) _ _ _); with_reducible (refine Hold.mk ?_)) | ((with_reducible show InPost ..); with_reducible (k_here; k_dflt (refine' ⟨_, _, rfl, (by k_asm), cb_drop (by k_asm) (by kcj_all), ?_⟩))) | walk1 | (dsimp only; walk1) | (leave1; (try dsimp only)))
    k_dflt (refine' kmk_add_lit (zs := (u ++ v) ++ ys9) (by k_asm) (by k_asm) (by kmk_list) (by kmk_list) rfl ?_ ?z)
    case z =>
      rw [sizeLine_eq]
      show (u ++ v).length + ys9.length ≤ _
      rw [List.length_append, hyl]
      have : ((lv 3).flatMap g2).length ≤ 20 := Nat.le_of_ble_eq_true rfl
      omega
    intro R' h2 F5 N5 l5
    clear F9 N9
    repeat' (first | (k_unfold; (try dsimp only)) | (k_end; kc_close) | ((with_reducible show wpAny _ _ (binaryOp Operator.Add (Value.str _ _) (Value.str _ _)) _ _ _); with_reducible (k_dflt (refine' my_add (by first | omega | decide +kernel) (by first | omega | decide +kernel) ?_); intro _ _ _)) | ((with_reducible show wpAny _ _ (eval (Expr.ListComp _ [⟨Expr.Name _ _, _, [], _⟩, ⟨Expr.Name _ _, _, [], _⟩] _ _) _) _ _ _); with_reducible (refine Hold.mk ?_)) | ((with_reducible show InPost ..); with_reducible (k_here; k_dflt (refine' ⟨_, _, rfl, (by k_asm), cb_drop (by k_asm) (by kcj_all), ?_⟩))) | walk1 | (dsimp only; walk1) | (leave1; (try dsimp only)))
    rename Fr _ _ _ _ => F6; rename News _ _ _ _ => N6
    refine hQ _ _ _ _ hz F6 (cb_drop N6 ?_) fun p hp => l5 p ?_
    · kcj_all
    · rcases List.mem_cons.mp hp with rfl | hp
      · exact .tail _ (.tail _ (.head _))
      · exact .tail _ (.tail _ (.tail _ (.tail _ hp)))
end
end Mine
end
section
open PySem PySem.W PySem.Calls PyProof.Rows
set_option Elab.async false
set_option maxRecDepth 100000
set_option maxHeartbeats 40000000
namespace Mine
theorem anew_CS7 : True := by
  w_top off
  exact True.intro
section
variable {w : World} {p : Program} {loose : List Str} {mean : ExcName → Option Value} {mg mb : Str → Option Value} {h₀ : Heap} {L : Nat} {fa : Addr} {cd : Value} {m : Str → Option Value} {w2 w1 : Obj} {Q : Flow → Shared → Prop} {E : Value → Shared → Prop} {s : Shared}
variable {text : Str} {tt tp tw tv tc td tn tT t2n t2 tkA tkB : Tok} {D B x1 d1 l1 x2 d2 l2 T T2 D2 R : Addr} {ys vs rv : List Value} {ns : List Int} {oB : Obj} {hs1 hs2 : Int} {k1 k2 rn : Nat} {bo to si : Value} {fr : Bool}
set_option maxHeartbeats 40000000
variable {ba en li re : Value} {bare e line nxt : Str} {tb te tli tre tl : Tok} {I c' G : Addr} {oI oc oL oG wG wL : Obj} {vs0 : Array Value} {t0 : Tok} {mZ : Str → Option Value} {dI : Int} {v0 vL v1 : Option Value} {gv : List Value}
noncomputable def JR (m7 : Str → Option Value) (led : List (Addr × Obj)) : Nat → (Str → Option Value) → List (Addr × Obj) → Prop
  | 0, m, news => ∃ R rv rn, m = mRow R m7 ∧ news = (R, W.listOf rv.toArray rn) :: led ∧ StrsAre rv (lvs 0)
  | i + 1, m, news => ∃ R rv rn si, m = mR (.ref R) si m7 ∧ news = (R, W.listOf rv.toArray rn) :: led ∧ StrsAre rv (lvs (i + 1))
theorem fr_row0 {h₀ h : Heap} {L : Addr} {R R' : Addr} {b : Value} {m : Str → Option Value} (F : Fr h₀ L h (mRow R' (fun y => if y = Str.ofString "size" then some b else mRow R m y))) : Fr h₀ L h (mR (.ref R') b m) := by
  have e : mRow R' (fun y => if y = Str.ofString "size" then some b else mRow R m y) = mR (.ref R') b m := by
    funext y
    unfold mR mRow
    by_cases h1 : y = Str.ofString "rows"
    · simp only [if_pos h1]
    · simp only [if_neg h1]
  rwa [e] at F
theorem fr_row1 {h₀ h : Heap} {L : Addr} {R R' : Addr} {b c : Value} {m : Str → Option Value} (F : Fr h₀ L h (mRow R' (fun y => if y = Str.ofString "size" then some b else mRow R (fun y => if y = Str.ofString "size" then some c else m y) y))) : Fr h₀ L h (mR (.ref R') b m) := by
  have e : mRow R' (fun y => if y = Str.ofString "size" then some b else mRow R (fun y => if y = Str.ofString "size" then some c else m y) y) = mR (.ref R') b m := by
    funext y
    unfold mR mRow
    by_cases h1 : y = Str.ofString "rows"
    · simp only [if_pos h1]
    · by_cases h2 : y = Str.ofString "size"
      · simp only [if_neg h1, if_pos h2]
      · simp only [if_neg h1, if_neg h2]
  rwa [e] at F
theorem lv_step (k : Nat) (hk : k < 4) : (lv k).flatMap g2 = lv (k + 1) := by
  match k, hk with
  | 0, _ => exact lv_step0
  | 1, _ => exact lv_step1
  | 2, _ => exact lv_step2
  | 3, _ => exact lv_step3
theorem S7 (hX : (hd.heap_39 w.params).In h₀) (hTp : Top p loose mean mg mb h₀) (hBl : Below callerA h₀ [] h₀) (hE : PassesOwn (model Challenge.rw_pm0051_01.row.prog w) (callerA.deeper (lawE L fa cd)) (lawE L fa cd) E)
    (F1 : Fr h₀ L s.heap (mC (cleanF text) tc (mF (.bool fr) (m4 bo to (m3 (valF (plainF text)) tv (m2 (plainF text) tp tw x1 x2 (m1 text tt D m))))))) (N1 : News h₀ L s.heap (led0 L B D ys vs oB w2 w1))
    (hQ : ∀ h' tk R rv rn si, StrsAre rv rowsF → Fr h₀ L h' (mR (.ref R) si (mC (cleanF text) tc (mF (.bool fr) (m4 bo to (m3 (valF (plainF text)) tv (m2 (plainF text) tp tw x1 x2 (m1 text tt D m))))))) → News h₀ L h' ((R, W.listOf rv.toArray rn) :: led0 L B D ys vs oB w2 w1) → lawW w L fa cd 20 Q E { s with heap := h', toks := tk }) :
    lawW w L fa cd 18 Q E s := by
  revert hX; unfold lawW; k_fill; intro hX
  obtain ⟨h1, g1, n1, tk1, os1⟩ := s
  refine cutK 2 _ ?_
  intro K9 hK9
  dsimp only [lawB, lawRec, recOf, lawE, List.drop, List.take]
  dsimp only [lawE, lawRec, recOf] at hE
  have hHN : HoldNe := trivial
  repeat' (first | (k_unfold; (try dsimp only)) | (k_end; kc_close) | ((with_reducible show wpAny _ _ (exec (Stmt.For (Expr.Name ..) (Expr.Call ..) (_ :: _) [] ..) _) _ _ _); with_reducible (k_here; (with_reducible rename HoldNe => q9hHN); k_dflt (refine for_held (by intro _; rfl) ?_))) | ((with_reducible show wpAny _ _ (newList ..) _ _ _); with_reducible (k_here; k_dflt (refine' newList_K (by k_asm) (by k_asm) ?_ (by first | exact Nat.zero_le _ | exact Nat.le_of_ble_eq_true rfl | size_fits); k_whole); intro q9l' q9h' q9F' q9N' q9l1; (try k_lt q9l1); (try k_sweep))) | walk1 | (dsimp only; walk1) | (leave1; (try dsimp only)))
  rename IsRange _ _ _ _ _ _ _ _ => hRg
  rename Fr _ _ _ _ => F2; rename News _ _ _ _ => N2
  refine for_cell (JR (mC (cleanF text) tc (mF (.bool fr) (m4 bo to (m3 (valF (plainF text)) tv (m2 (plainF text) tp tw x1 x2 (m1 text tt D m)))))) (led0 L B D ys vs oB w2 w1)) rfl (by passes_own) hRg (by decide) (n := 4) (by decide) F2 (cb_drop N2 (by kcj_all)) ⟨_, [.str (Str.ofString "") _], _, rfl, rfl, .cons _ _ .nil⟩ ?turn ?done
  case done =>
    intro m₁ news₁ h tk hJ F3 N3
    obtain ⟨R, rv, rn, si, rfl, rfl, hrv⟩ := hJ
    clear F2 N2
    dsimp only
    repeat' (first | (k_unfold; (try dsimp only)) | (k_end; kc_close) | ((with_reducible show wpAny _ _ (exec (Stmt.For (Expr.Name ..) (Expr.Call ..) (_ :: _) [] ..) _) _ _ _); with_reducible (k_here; (with_reducible rename HoldNe => q9hHN); k_dflt (refine for_held (by intro _; rfl) ?_))) | ((with_reducible show wpAny _ _ (newList ..) _ _ _); with_reducible (k_here; k_dflt (refine' newList_K (by k_asm) (by k_asm) ?_ (by first | exact Nat.zero_le _ | exact Nat.le_of_ble_eq_true rfl | size_fits); k_whole); intro q9l' q9h' q9F' q9N' q9l1; (try k_lt q9l1); (try k_sweep))) | walk1 | (dsimp only; walk1) | (leave1; (try dsimp only)))
    rename Fr _ _ _ _ => F9; rename News _ _ _ _ => N9
    exact ⟨rfl, hK9 _ (hQ _ _ _ _ _ _ hrv F9 N9)⟩
  case turn =>
    clear F2 N2
    intro i m₁ news₁ h tk tl I oI hi hJ hoff F3 N3
    have hi2 : i = 0 ∨ i = 1 ∨ i = 2 ∨ i = 3 := by omega
    rcases hi2 with rfl | rfl | rfl | rfl
    · obtain ⟨R, rv, rn, rfl, rfl, hrv⟩ := hJ
      rw [show (0 : Int) + ((0 : Nat) : Int) = 0 from rfl]
      refine SR0 (u := []) hX hTp hBl hE (Nat.zero_le _) hrv hoff F3 N3 ?_
      intro h' tk' R' vs hvs F4 N4 l4
      rw [lv_step 0 (by decide)] at hvs
      show TurnEnd _ _ _ _ _ _ _
      exact ⟨_, _, _, _, rfl, fr_row0 F4, cb_drop N4 (by kcj_all), List.forall_mem_cons.mpr ⟨Ne.symm (Nat.ne_of_lt (l4 _ (.head _))), fun p hp => hoff p (.tail _ hp)⟩, _, _, _, _, rfl, rfl, strsAre_app hrv hvs⟩
    · obtain ⟨R, rv, rn, si, rfl, rfl, hrv⟩ := hJ
      obtain ⟨u, v, rfl, hu, hv⟩ := strsAre_split (a := lvs 0) (b := lv 1) hrv
      rw [show (0 : Int) + ((1 : Nat) : Int) = 1 from rfl]
      refine SR1 hX hTp hBl hE (by rw [hu.length]; exact Nat.le_of_ble_eq_true rfl) hv hoff F3 N3 ?_
      intro h' tk' R' vs hvs F4 N4 l4
      rw [lv_step 1 (by decide)] at hvs
      show TurnEnd _ _ _ _ _ _ _
      exact ⟨_, _, _, _, rfl, fr_row1 F4, cb_drop N4 (by kcj_all), List.forall_mem_cons.mpr ⟨Ne.symm (Nat.ne_of_lt (l4 _ (.head _))), fun p hp => hoff p (.tail _ hp)⟩, _, _, _, _, rfl, rfl, strsAre_app hrv hvs⟩
    · obtain ⟨R, rv, rn, si, rfl, rfl, hrv⟩ := hJ
      obtain ⟨u, v, rfl, hu, hv⟩ := strsAre_split (a := lvs 1) (b := lv 2) hrv
      rw [show (0 : Int) + ((2 : Nat) : Int) = 2 from rfl]
      refine SR2 hX hTp hBl hE (by rw [hu.length]; exact Nat.le_of_ble_eq_true rfl) hv hoff F3 N3 ?_
      intro h' tk' R' vs hvs F4 N4 l4
      rw [lv_step 2 (by decide)] at hvs
      show TurnEnd _ _ _ _ _ _ _
      exact ⟨_, _, _, _, rfl, fr_row1 F4, cb_drop N4 (by kcj_all), List.forall_mem_cons.mpr ⟨Ne.symm (Nat.ne_of_lt (l4 _ (.head _))), fun p hp => hoff p (.tail _ hp)⟩, _, _, _, _, rfl, rfl, strsAre_app hrv hvs⟩
    · obtain ⟨R, rv, rn, si, rfl, rfl, hrv⟩ := hJ
      obtain ⟨u, v, rfl, hu, hv⟩ := strsAre_split (a := lvs 2) (b := lv 3) hrv
      rw [show (0 : Int) + ((3 : Nat) : Int) = 3 from rfl]
      refine SR3 hX hTp hBl hE (by rw [hu.length]; exact Nat.le_of_ble_eq_true rfl) hv hoff F3 N3 ?_
      intro h' tk' R' vs hvs F4 N4 l4
      rw [lv_step 3 (by decide)] at hvs
      show TurnEnd _ _ _ _ _ _ _
      exact ⟨_, _, _, _, rfl, fr_row1 F4, cb_drop N4 (by kcj_all), List.forall_mem_cons.mpr ⟨Ne.symm (Nat.ne_of_lt (l4 _ (.head _))), fun p hp => hoff p (.tail _ hp)⟩, _, _, _, _, rfl, rfl, strsAre_app hrv hvs⟩
end
end Mine
end
section
open PySem PySem.W PySem.Calls PyProof.Rows
set_option Elab.async false
set_option maxRecDepth 100000
set_option maxHeartbeats 40000000
namespace Mine
theorem anew_CS8 : True := by
  w_top off
  exact True.intro
section
variable {w : World} {p : Program} {loose : List Str} {mean : ExcName → Option Value} {mg mb : Str → Option Value} {h₀ : Heap} {L : Nat} {fa : Addr} {cd : Value} {m : Str → Option Value} {w2 w1 : Obj} {Q : Flow → Shared → Prop} {E : Value → Shared → Prop} {s : Shared}
variable {text : Str} {tt tp tw tv tc td tn tT t2n t2 tkA tkB : Tok} {D B x1 d1 l1 x2 d2 l2 T T2 D2 R : Addr} {ys vs rv : List Value} {ns : List Int} {oB : Obj} {hs1 hs2 : Int} {k1 k2 rn : Nat} {bo to si : Value} {fr : Bool}
set_option maxHeartbeats 40000000
variable {ba en li re : Value} {bare e line nxt : Str} {tb te tli tre tl : Tok} {I c' G : Addr} {oI oc oL oG wG wL : Obj} {vs0 : Array Value} {t0 : Tok} {mZ : Str → Option Value} {dI : Int} {v0 vL v1 : Option Value} {gv : List Value}
theorem S8 (hX : (hd.heap_39 w.params).In h₀) (hTp : Top p loose mean mg mb h₀) (hBl : Below callerA h₀ [] h₀)
    (hns : IntsAre vs ns) (hnl : ns.length ≤ 6) (F1 : Fr h₀ L s.heap (mR (.ref R) si (mC (cleanF text) tc (mF (.bool fr) (m4 bo to (m3 (valF (plainF text)) tv (m2 (plainF text) tp tw x1 x2 (m1 text tt D m)))))))) (N1 : News h₀ L s.heap ((R, W.listOf rv.toArray rn) :: led0 L B D ys vs oB w2 w1))
    (hQ : ∀ h' tk (d : Int) td, (d = 2 ∨ d = 3) → Fr h₀ L h' (mD d td (mR (.ref R) si (mC (cleanF text) tc (mF (.bool fr) (m4 bo to (m3 (valF (plainF text)) tv (m2 (plainF text) tp tw x1 x2 (m1 text tt D m)))))))) → News h₀ L h' ((R, W.listOf rv.toArray rn) :: led0 L B D ys vs oB w2 w1) → lawW w L fa cd 21 Q E { s with heap := h', toks := tk }) :
    lawW w L fa cd 20 Q E s := by
  revert hX; unfold lawW; k_fill; intro hX
  obtain ⟨h1, g1, n1, tk1, os1⟩ := s
  refine cutK 1 _ ?_
  intro K9 hK9
  dsimp only [lawB, lawRec, recOf, lawE, List.drop, List.take]
  dsimp only [led0] at N1
  k_steps
  rename Fr _ _ _ _ => F9; rename News _ _ _ _ => N9
  refine ⟨rfl, hK9 _ (hQ _ _ _ _ ?dd F9 (cb_drop N9 (by kcj_all)))⟩
  have h0 : 0 ≤ ns.sum.fmod 2 := Int.fmod_nonneg_of_pos _ (by decide)
  have h2 : ns.sum.fmod 2 < 2 := Int.fmod_lt_of_pos _ (by decide)
  omega
end
end Mine
end
section
open PySem PySem.W PySem.Calls PyProof.Rows
set_option Elab.async false
set_option maxRecDepth 100000
set_option maxHeartbeats 40000000
namespace Mine
theorem anew_CS9a : True := by
  w_top off
  exact True.intro
section
variable {w : World} {p : Program} {loose : List Str} {mean : ExcName → Option Value} {mg mb : Str → Option Value} {h₀ : Heap} {L : Nat} {fa : Addr} {cd : Value} {m : Str → Option Value} {w2 w1 : Obj} {Q : Flow → Shared → Prop} {E : Value → Shared → Prop} {s : Shared}
variable {text : Str} {tt tp tw tv tc td tn tT t2n t2 tkA tkB : Tok} {D B x1 d1 l1 x2 d2 l2 T T2 D2 R : Addr} {ys vs rv : List Value} {ns : List Int} {oB : Obj} {hs1 hs2 : Int} {k1 k2 rn : Nat} {bo to si : Value} {fr : Bool}
set_option maxHeartbeats 40000000
variable {ba en li re : Value} {bare e line nxt : Str} {tb te tli tre tl : Tok} {I c' G : Addr} {oI oc oL oG wG wL : Obj} {vs0 : Array Value} {t0 : Tok} {mZ : Str → Option Value} {dI : Int} {v0 vL v1 : Option Value} {gv : List Value}
theorem S9a (hX : (hd.heap_39 w.params).In h₀) (hTp : Top p loose mean mg mb h₀) (hBl : Below callerA h₀ [] h₀)
    (hText : TextOk text) (F1 : Fr h₀ L s.heap (mD 2 td (mR (.ref R) si (mC (cleanF text) tc (mF (.bool fr) (m4 bo to (m3 (valF (plainF text)) tv (m2 (plainF text) tp tw x1 x2 (m1 text tt D m))))))))) (N1 : News h₀ L s.heap ((R, W.listOf rv.toArray rn) :: led0 L B D ys vs oB w2 w1))
    (hQ : ∀ h' tk tr, Fr h₀ L h' (mE (page2F (cleanF text)) tr (mD 2 td (mR (.ref R) si (mC (cleanF text) tc (mF (.bool fr) (m4 bo to (m3 (valF (plainF text)) tv (m2 (plainF text) tp tw x1 x2 (m1 text tt D m))))))))) → News h₀ L h' ((R, W.listOf rv.toArray rn) :: led0 L B D ys vs oB w2 w1) → lawW w L fa cd 22 Q E { s with heap := h', toks := tk }) :
    lawW w L fa cd 21 Q E s := by
  revert hX; unfold lawW; k_fill; intro hX
  obtain ⟨h1, g1, n1, tk1, os1⟩ := s
  refine cutK 1 _ ?_
  intro K9 hK9
  dsimp only [lawB, lawRec, recOf, lawE, List.drop, List.take]
  dsimp only [led0] at N1
  have hCl := clean_ok hText
  have g0 := clean_good text
  have g1 := fmt_good g0
  have g2' := fmt_good g1
  have n0 : (cleanF text).length ≠ 0 := by have := hCl.len; omega
  have n1 := fmtF_pos (cleanF text)
  have n2 := fmtF_pos (fmtF (Str.ofString "k-1") (cleanF text))
  have l0' : (cleanF text).length ≤ 300 := by have := hCl.len; omega
  have l1' : (fmtF (Str.ofString "k-1") (cleanF text)).length ≤ 300 := by have := hCl.len; have := fmtF_short (cleanF text); omega
  have l2' : (fmtF (Str.ofString "k-1") (fmtF (Str.ofString "k-1") (cleanF text))).length ≤ 300 := by
    have := hCl.len; have := fmtF_short (cleanF text); have := fmtF_short (fmtF (Str.ofString "k-1") (cleanF text)); omega
  have l3' : (fmtF (Str.ofString "k-1") (fmtF (Str.ofString "k-1") (fmtF (Str.ofString "k-1") (cleanF text)))).length ≤ 300 := by
    have := hCl.len; have := fmtF_short (cleanF text); have := fmtF_short (fmtF (Str.ofString "k-1") (cleanF text)); have := fmtF_short (fmtF (Str.ofString "k-1") (fmtF (Str.ofString "k-1") (cleanF text))); omega
  repeat' (first | (k_unfold; (try dsimp only)) | (k_end; kc_close) | ((with_reducible show wpAny _ _ (call (Value.ref _) _ _) _ _ _); with_reducible (k_here; (first | (with_reducible show wpAny _ _ (call (Value.ref 228) _) _ _ _) | (with_reducible show wpAny _ _ (call (Value.ref 247) _) _ _ _) | (with_reducible show wpAny _ _ (call (Value.ref 240) _) _ _ _)); refine Hold.mk ?_)) | walk1 | (dsimp only; walk1) | (leave1; (try dsimp only)))
  ((unfold Hold; k_dflt (refine' c_page2 _ _ _ goodN_nest goodN_Nest goodN_k1 ?p0 ?p1 ?p2 ?p3 ?p4 ?p5 ?p6 _ _ _ _ _ _ _ _ _ _ _ _ _ _ _ _ _ _ _ _ ?B ?F ?X ?N ?T ?d ?u ?_; (case B => k_asm); (case F => k_asm); (case X => k_in); (case N => with_reducible assumption); (case T => k_asm); (case d => first | exact Nat.le_of_ble_eq_true rfl | ktr_room); (case u => first | exact Nat.le_of_ble_eq_true rfl | ktr_room); (case p0 => with_reducible assumption); (case p1 => with_reducible assumption); (case p2 => with_reducible assumption); (case p3 => with_reducible assumption); (case p4 => with_reducible assumption); (case p5 => with_reducible assumption); (case p6 => with_reducible assumption))))
  intro rv' h2 tk2 nw hr F2; refine park2 rv' nw ?_; intro Kp hKp; obtain ⟨t2, rfl, rfl⟩ := hr; refine hKp _ _ ?_; clear hKp Kp; intro N2
  try dsimp only
  repeat' (first | (k_unfold; (try dsimp only)) | (k_end; kc_close) | ((with_reducible show wpAny _ _ (call (Value.ref _) _ _) _ _ _); with_reducible (k_here; (first | (with_reducible show wpAny _ _ (call (Value.ref 228) _) _ _ _) | (with_reducible show wpAny _ _ (call (Value.ref 247) _) _ _ _) | (with_reducible show wpAny _ _ (call (Value.ref 240) _) _ _ _)); refine Hold.mk ?_)) | walk1 | (dsimp only; walk1) | (leave1; (try dsimp only)))
  rename Fr _ _ _ _ => F9; rename News _ _ _ _ => N9
  exact ⟨rfl, hK9 _ (hQ _ _ _ F9 (cb_drop N9 (by kcj_all)))⟩
end
end Mine
end
section
open PySem PySem.W PySem.Calls PyProof.Rows
set_option Elab.async false
set_option maxRecDepth 100000
set_option maxHeartbeats 40000000
namespace Mine
theorem anew_CS9b : True := by
  w_top off
  exact True.intro
section
variable {w : World} {p : Program} {loose : List Str} {mean : ExcName → Option Value} {mg mb : Str → Option Value} {h₀ : Heap} {L : Nat} {fa : Addr} {cd : Value} {m : Str → Option Value} {w2 w1 : Obj} {Q : Flow → Shared → Prop} {E : Value → Shared → Prop} {s : Shared}
variable {text : Str} {tt tp tw tv tc td tn tT t2n t2 tkA tkB : Tok} {D B x1 d1 l1 x2 d2 l2 T T2 D2 R : Addr} {ys vs rv : List Value} {ns : List Int} {oB : Obj} {hs1 hs2 : Int} {k1 k2 rn : Nat} {bo to si : Value} {fr : Bool}
set_option maxHeartbeats 40000000
variable {ba en li re : Value} {bare e line nxt : Str} {tb te tli tre tl : Tok} {I c' G : Addr} {oI oc oL oG wG wL : Obj} {vs0 : Array Value} {t0 : Tok} {mZ : Str → Option Value} {dI : Int} {v0 vL v1 : Option Value} {gv : List Value}
theorem S9b (hX : (hd.heap_39 w.params).In h₀) (hTp : Top p loose mean mg mb h₀) (hBl : Below callerA h₀ [] h₀)
    (hText : TextOk text) (F1 : Fr h₀ L s.heap (mD 3 td (mR (.ref R) si (mC (cleanF text) tc (mF (.bool fr) (m4 bo to (m3 (valF (plainF text)) tv (m2 (plainF text) tp tw x1 x2 (m1 text tt D m))))))))) (N1 : News h₀ L s.heap ((R, W.listOf rv.toArray rn) :: led0 L B D ys vs oB w2 w1))
    (hQ : ∀ h' tk tr, Fr h₀ L h' (mE (page3F (cleanF text)) tr (mD 3 td (mR (.ref R) si (mC (cleanF text) tc (mF (.bool fr) (m4 bo to (m3 (valF (plainF text)) tv (m2 (plainF text) tp tw x1 x2 (m1 text tt D m))))))))) → News h₀ L h' ((R, W.listOf rv.toArray rn) :: led0 L B D ys vs oB w2 w1) → lawW w L fa cd 22 Q E { s with heap := h', toks := tk }) :
    lawW w L fa cd 21 Q E s := by
  revert hX; unfold lawW; k_fill; intro hX
  obtain ⟨h1, g1, n1, tk1, os1⟩ := s
  refine cutK 1 _ ?_
  intro K9 hK9
  dsimp only [lawB, lawRec, recOf, lawE, List.drop, List.take]
  dsimp only [led0] at N1
  have hCl := clean_ok hText
  have g0 := clean_good text
  have g1 := fmt_good g0
  have g2' := fmt_good g1
  have n0 : (cleanF text).length ≠ 0 := by have := hCl.len; omega
  have n1 := fmtF_pos (cleanF text)
  have n2 := fmtF_pos (fmtF (Str.ofString "k-1") (cleanF text))
  have l0' : (cleanF text).length ≤ 300 := by have := hCl.len; omega
  have l1' : (fmtF (Str.ofString "k-1") (cleanF text)).length ≤ 300 := by have := hCl.len; have := fmtF_short (cleanF text); omega
  have l2' : (fmtF (Str.ofString "k-1") (fmtF (Str.ofString "k-1") (cleanF text))).length ≤ 300 := by
    have := hCl.len; have := fmtF_short (cleanF text); have := fmtF_short (fmtF (Str.ofString "k-1") (cleanF text)); omega
  have l3' : (fmtF (Str.ofString "k-1") (fmtF (Str.ofString "k-1") (fmtF (Str.ofString "k-1") (cleanF text)))).length ≤ 300 := by
    have := hCl.len; have := fmtF_short (cleanF text); have := fmtF_short (fmtF (Str.ofString "k-1") (cleanF text)); have := fmtF_short (fmtF (Str.ofString "k-1") (fmtF (Str.ofString "k-1") (cleanF text))); omega
  repeat' (first | (k_unfold; (try dsimp only)) | (k_end; kc_close) | ((with_reducible show wpAny _ _ (call (Value.ref _) _ _) _ _ _); with_reducible (k_here; (first | (with_reducible show wpAny _ _ (call (Value.ref 228) _) _ _ _) | (with_reducible show wpAny _ _ (call (Value.ref 247) _) _ _ _) | (with_reducible show wpAny _ _ (call (Value.ref 240) _) _ _ _)); refine Hold.mk ?_)) | walk1 | (dsimp only; walk1) | (leave1; (try dsimp only)))
  ((unfold Hold; k_dflt (refine' c_page3 _ _ _ goodN_nest goodN_Nest goodN_k1 ?p0 ?p1 ?p2 ?p3 ?p4 ?p5 ?p6 ?p7 ?p8 ?p9 _ _ _ _ _ _ _ _ _ _ _ _ _ _ _ _ _ _ _ _ ?B ?F ?X ?N ?T ?d ?u ?_; (case B => k_asm); (case F => k_asm); (case X => k_in); (case N => with_reducible assumption); (case T => k_asm); (case d => first | exact Nat.le_of_ble_eq_true rfl | ktr_room); (case u => first | exact Nat.le_of_ble_eq_true rfl | ktr_room); (case p0 => with_reducible assumption); (case p1 => with_reducible assumption); (case p2 => with_reducible assumption); (case p3 => with_reducible assumption); (case p4 => with_reducible assumption); (case p5 => with_reducible assumption); (case p6 => with_reducible assumption); (case p7 => with_reducible assumption); (case p8 => with_reducible assumption); (case p9 => with_reducible assumption))))
  intro rv' h2 tk2 nw hr F2; refine park2 rv' nw ?_; intro Kp hKp; obtain ⟨t2, rfl, rfl⟩ := hr; refine hKp _ _ ?_; clear hKp Kp; intro N2
  try dsimp only
  repeat' (first | (k_unfold; (try dsimp only)) | (k_end; kc_close) | ((with_reducible show wpAny _ _ (call (Value.ref _) _ _) _ _ _); with_reducible (k_here; (first | (with_reducible show wpAny _ _ (call (Value.ref 228) _) _ _ _) | (with_reducible show wpAny _ _ (call (Value.ref 247) _) _ _ _) | (with_reducible show wpAny _ _ (call (Value.ref 240) _) _ _ _)); refine Hold.mk ?_)) | walk1 | (dsimp only; walk1) | (leave1; (try dsimp only)))
  rename Fr _ _ _ _ => F9; rename News _ _ _ _ => N9
  exact ⟨rfl, hK9 _ (hQ _ _ _ F9 (cb_drop N9 (by kcj_all)))⟩
end
end Mine
end
section
open PySem PySem.W PySem.Calls PyProof.Rows
set_option Elab.async false
set_option maxRecDepth 100000
set_option maxHeartbeats 40000000
namespace Mine
theorem anew_CSP20 : True := by
  w_top off
  exact True.intro
section
variable {w : World} {p : Program} {loose : List Str} {mean : ExcName → Option Value} {mg mb : Str → Option Value} {h₀ : Heap} {L : Nat} {fa : Addr} {cd : Value} {m : Str → Option Value} {w2 w1 : Obj} {Q : Flow → Shared → Prop} {E : Value → Shared → Prop} {s : Shared}
variable {text : Str} {tt tp tw tv tc td tn tT t2n t2 tkA tkB : Tok} {D B x1 d1 l1 x2 d2 l2 T T2 D2 R : Addr} {ys vs rv : List Value} {ns : List Int} {oB : Obj} {hs1 hs2 : Int} {k1 k2 rn : Nat} {bo to si : Value} {fr : Bool}
set_option maxHeartbeats 40000000
variable {ba en li re : Value} {bare e line nxt : Str} {tb te tli tre tl : Tok} {I c' G : Addr} {oI oc oL oG wG wL : Obj} {vs0 : Array Value} {t0 : Tok} {mZ : Str → Option Value} {dI : Int} {v0 vL v1 : Option Value} {gv : List Value}
theorem SP20 (hX : (hd.heap_39 w.params).In h₀) (hTp : Top p loose mean mg mb h₀) (hBl : Below callerA h₀ [] h₀) (hE : PassesOwn (model Challenge.rw_pm0051_01.row.prog w) (callerA.deeper (lawE L fa cd)) (lawE L fa cd) E)
    (hText : TextOk text) (hcL : oL.data = .cell (some (.int 1 tl))) (F4 : Fr h₀ L s.heap (mE (page2F (cleanF text)) tre (mD 2 td (mR (.ref R) si (mC (cleanF text) tc mZ))))) (N4 : News h₀ L s.heap [(I, oI), (R, W.listOf rv.toArray rn), (242, tabObj #[]), (L + 1 + 1 + 1, wG), (L + 1 + 1, oL)])
    (hQ : ∀ h' tk tb te tli tre, Fr h₀ L h' (m5 (.str (Str.ofString "Nest: k-1=\"" ++ cleanF text ++ Str.ofString "\"" ++ Str.ofString "\r") tb) (.str (Str.ofString "\r") te) (.str (Str.ofString "Nest: " ++ wrF 1 (cleanF text) ++ Str.ofString "\r") tli) (.str (pairF (Str.ofString "Nest") (textL 2 (cleanF text))) tre) (mD 2 td (mR (.ref R) si (mC (cleanF text) tc mZ)))) → News h₀ L h' [(I, oI), (R, W.listOf rv.toArray rn), (242, tabObj #[]), (L + 1 + 1 + 1, wG), (L + 1 + 1, oL)] → lvW w L fa cd 4 Q E { s with heap := h', toks := tk }) :
    lvW w L fa cd 0 Q E s := by
  revert hX; unfold lvW; k_fill; intro hX
  obtain ⟨h1, g1, n1, tk1, os1⟩ := s
  refine cutK 4 _ ?_
  intro K9 hK9
  dsimp only [lvB, forBody, lawB, lawRec, recOf, lawE, List.drop, List.take]
  dsimp only [lawE, lawRec, recOf] at hE
  have hHN : HoldNe := trivial
  have hclen := (clean_ok hText).len
  have hsd := sd2_0 (clean_good text)
  have hpl := Nat.not_lt.mpr (page_lens hclen.2).1
  have hwl := Nat.not_lt.mpr (wr_len hclen.2).1
  have hcN : (Str.ofString "Nest: ").length = 6 := by decide +kernel
  have hcr : (Str.ofString "\r").length = 1 := by decide +kernel
  have hce : (Str.ofString "").length = 0 := by decide +kernel
  have hck : (Str.ofString "k-1=\"").length = 5 := by decide +kernel
  have hcq : (Str.ofString "\"").length = 1 := by decide +kernel
  have hb1 : (Str.ofString "Nest: k-1=\"").length = 11 := by decide +kernel
  have hb2 : (Str.ofString "\"").length = 1 := by decide +kernel
  repeat' (first | (k_unfold; (try dsimp only)) | (k_end; kc_close) | ((with_reducible show wpAny _ _ (binaryOp Operator.Add (Value.str _ _) (Value.str _ _)) _ _ _); with_reducible (k_dflt (refine' my_add (by first | omega | decide +kernel) (by first | omega | decide +kernel) ?_); intro _ _ _)) | ((with_reducible show wpAny _ _ (compareOp CmpOp.NotEq (Value.str _ _) (Value.str _ _)) _ _ _); with_reducible ((with_reducible rename HoldNe => q9hHN); first | (with_reducible refine ne_str_of rfl ?_) | refine Hold.mk ?_)) | ((with_reducible show wpAny _ _ (call (Value.ref 195) [Value.str _ _]) _ _ _); with_reducible (k_dflt (refine' c_splitdoc _ _ (by omega) _ _ _ _ _ _ _ _ _ _ _ _ _ _ _ _ _ _ _ _ (by k_asm) (by k_asm) (by k_in) (by k_asm) (by k_asm) (by k_room) (by k_room) ?_); intro q9rv q9h' q9tk' q9nw q9hr q9F'; refine park2 q9rv q9nw ?_; intro q9Kp q9hKp; obtain ⟨q9D, q9ta, q9tb, q9er, q9en, q9ho⟩ := q9hr; cases q9en; cases q9er; refine q9hKp _ _ ?_; clear q9hKp q9Kp; intro q9N'; (try ((with_reducible rename sdF _ = (_, _) => q9hsd9); rw [q9hsd9] at q9N'; (try dsimp only at q9N'))))) | ((with_reducible show wpAny _ _ (call (Value.ref 221) [Value.str _ _, Value.int _ _]) _ _ _); with_reducible ((first | k_dflt (refine' c_written _ _ _ 1 ?_ ?_ (by omega) _ _ _ _ _ _ _ _ _ _ _ _ _ _ _ _ _ _ _ _ (by k_asm) (by k_asm) (by k_in) (by k_asm) (by k_asm) (by k_room) (by k_room) ?_) | k_dflt (refine' c_written _ _ _ 2 ?_ ?_ (by omega) _ _ _ _ _ _ _ _ _ _ _ _ _ _ _ _ _ _ _ _ (by k_asm) (by k_asm) (by k_in) (by k_asm) (by k_asm) (by k_room) (by k_room) ?_) | k_dflt (refine' c_written _ _ _ 3 ?_ ?_ (by omega) _ _ _ _ _ _ _ _ _ _ _ _ _ _ _ _ _ _ _ _ (by k_asm) (by k_asm) (by k_in) (by k_asm) (by k_asm) (by k_room) (by k_room) ?_)); (try any_goals ((fail_if_success with_reducible show wpAny _ _ _ _ _ _); decide)); (try any_goals ((fail_if_success with_reducible show wpAny _ _ _ _ _ _); decide)); intro q9rv q9h' q9tk' q9nw q9hr q9F'; refine park2 q9rv q9nw ?_; intro q9Kp q9hKp; obtain ⟨q9en, q9tt, q9er⟩ := q9hr; cases q9en; cases q9er; refine q9hKp _ _ ?_; clear q9hKp q9Kp; intro q9N')) | walk1 | (dsimp only; walk1) | (leave1; (try dsimp only)))
  rename Fr _ _ _ _ => F9; rename News _ _ _ _ => N9
  exact ⟨rfl, hK9 _ (hQ _ _ _ _ _ _ (fr_m5E (p := page2F (cleanF text)) (M := mD 2 td (mR (.ref R) si (mC (cleanF text) tc mZ))) F9) (cb_drop N9 (by kcj_all)))⟩
end
end Mine
end
section
open PySem PySem.W PySem.Calls PyProof.Rows
set_option Elab.async false
set_option maxRecDepth 100000
set_option maxHeartbeats 40000000
namespace Mine
theorem anew_CSP21 : True := by
  w_top off
  exact True.intro
section
variable {w : World} {p : Program} {loose : List Str} {mean : ExcName → Option Value} {mg mb : Str → Option Value} {h₀ : Heap} {L : Nat} {fa : Addr} {cd : Value} {m : Str → Option Value} {w2 w1 : Obj} {Q : Flow → Shared → Prop} {E : Value → Shared → Prop} {s : Shared}
variable {text : Str} {tt tp tw tv tc td tn tT t2n t2 tkA tkB : Tok} {D B x1 d1 l1 x2 d2 l2 T T2 D2 R : Addr} {ys vs rv : List Value} {ns : List Int} {oB : Obj} {hs1 hs2 : Int} {k1 k2 rn : Nat} {bo to si : Value} {fr : Bool}
set_option maxHeartbeats 40000000
variable {ba en li re : Value} {bare e line nxt : Str} {tb te tli tre tl : Tok} {I c' G : Addr} {oI oc oL oG wG wL : Obj} {vs0 : Array Value} {t0 : Tok} {mZ : Str → Option Value} {dI : Int} {v0 vL v1 : Option Value} {gv : List Value}
theorem SP21 (hX : (hd.heap_39 w.params).In h₀) (hTp : Top p loose mean mg mb h₀) (hBl : Below callerA h₀ [] h₀) (hE : PassesOwn (model Challenge.rw_pm0051_01.row.prog w) (callerA.deeper (lawE L fa cd)) (lawE L fa cd) E)
    (hText : TextOk text) (hcL : oL.data = .cell (some (.int 2 tl))) (F4 : Fr h₀ L s.heap (m5 ba en li (.str (pairF (Str.ofString "Nest") (textL 2 (cleanF text))) tre) (mD 2 td (mR (.ref R) si (mC (cleanF text) tc mZ))))) (N4 : News h₀ L s.heap [(I, oI), (R, W.listOf rv.toArray rn), (c', oc), (242, tabObj #[rawInt 152, rawInt 29, .ref c']), (L + 1 + 1 + 1, wG), (L + 1 + 1, oL)])
    (hQ : ∀ h' tk tb te tli tre, Fr h₀ L h' (m5 (.str (Str.ofString "Nest: k-1=\"k-1=\"" ++ cleanF text ++ Str.ofString "\"\"" ++ Str.ofString "") tb) (.str (Str.ofString "") te) (.str (Str.ofString "Nest: " ++ wrF 2 (cleanF text) ++ Str.ofString "") tli) (.str (Str.ofString "") tre) (mD 2 td (mR (.ref R) si (mC (cleanF text) tc mZ)))) → News h₀ L h' [(I, oI), (R, W.listOf rv.toArray rn), (c', oc), (242, tabObj #[rawInt 152, rawInt 29, .ref c']), (L + 1 + 1 + 1, wG), (L + 1 + 1, oL)] → lvW w L fa cd 4 Q E { s with heap := h', toks := tk }) :
    lvW w L fa cd 0 Q E s := by
  revert hX; unfold lvW; k_fill; intro hX
  obtain ⟨h1, g1, n1, tk1, os1⟩ := s
  refine cutK 4 _ ?_
  intro K9 hK9
  dsimp only [lvB, forBody, lawB, lawRec, recOf, lawE, List.drop, List.take]
  dsimp only [lawE, lawRec, recOf] at hE
  have hHN : HoldNe := trivial
  have hclen := (clean_ok hText).len
  have hsd := sd2_1 (clean_good text)
  have hpl := Nat.not_lt.mpr (page_lens hclen.2).2.2.2.1
  have hwl := Nat.not_lt.mpr (wr_len hclen.2).2.1
  have hcN : (Str.ofString "Nest: ").length = 6 := by decide +kernel
  have hcr : (Str.ofString "\r").length = 1 := by decide +kernel
  have hce : (Str.ofString "").length = 0 := by decide +kernel
  have hck : (Str.ofString "k-1=\"").length = 5 := by decide +kernel
  have hcq : (Str.ofString "\"").length = 1 := by decide +kernel
  have hb1 : (Str.ofString "Nest: k-1=\"k-1=\"").length = 16 := by decide +kernel
  have hb2 : (Str.ofString "\"\"").length = 2 := by decide +kernel
  repeat' (first | (k_unfold; (try dsimp only)) | (k_end; kc_close) | ((with_reducible show wpAny _ _ (binaryOp Operator.Add (Value.str _ _) (Value.str _ _)) _ _ _); with_reducible (k_dflt (refine' my_add (by first | omega | decide +kernel) (by first | omega | decide +kernel) ?_); intro _ _ _)) | ((with_reducible show wpAny _ _ (compareOp CmpOp.NotEq (Value.str _ _) (Value.str _ _)) _ _ _); with_reducible ((with_reducible rename HoldNe => q9hHN); first | (with_reducible refine ne_str_of rfl ?_) | refine Hold.mk ?_)) | ((with_reducible show wpAny _ _ (call (Value.ref 195) [Value.str _ _]) _ _ _); with_reducible (k_dflt (refine' c_splitdoc _ _ (by omega) _ _ _ _ _ _ _ _ _ _ _ _ _ _ _ _ _ _ _ _ (by k_asm) (by k_asm) (by k_in) (by k_asm) (by k_asm) (by k_room) (by k_room) ?_); intro q9rv q9h' q9tk' q9nw q9hr q9F'; refine park2 q9rv q9nw ?_; intro q9Kp q9hKp; obtain ⟨q9D, q9ta, q9tb, q9er, q9en, q9ho⟩ := q9hr; cases q9en; cases q9er; refine q9hKp _ _ ?_; clear q9hKp q9Kp; intro q9N'; (try ((with_reducible rename sdF _ = (_, _) => q9hsd9); rw [q9hsd9] at q9N'; (try dsimp only at q9N'))))) | ((with_reducible show wpAny _ _ (call (Value.ref 221) [Value.str _ _, Value.int _ _]) _ _ _); with_reducible ((first | k_dflt (refine' c_written _ _ _ 1 ?_ ?_ (by omega) _ _ _ _ _ _ _ _ _ _ _ _ _ _ _ _ _ _ _ _ (by k_asm) (by k_asm) (by k_in) (by k_asm) (by k_asm) (by k_room) (by k_room) ?_) | k_dflt (refine' c_written _ _ _ 2 ?_ ?_ (by omega) _ _ _ _ _ _ _ _ _ _ _ _ _ _ _ _ _ _ _ _ (by k_asm) (by k_asm) (by k_in) (by k_asm) (by k_asm) (by k_room) (by k_room) ?_) | k_dflt (refine' c_written _ _ _ 3 ?_ ?_ (by omega) _ _ _ _ _ _ _ _ _ _ _ _ _ _ _ _ _ _ _ _ (by k_asm) (by k_asm) (by k_in) (by k_asm) (by k_asm) (by k_room) (by k_room) ?_)); (try any_goals ((fail_if_success with_reducible show wpAny _ _ _ _ _ _); decide)); (try any_goals ((fail_if_success with_reducible show wpAny _ _ _ _ _ _); decide)); intro q9rv q9h' q9tk' q9nw q9hr q9F'; refine park2 q9rv q9nw ?_; intro q9Kp q9hKp; obtain ⟨q9en, q9tt, q9er⟩ := q9hr; cases q9en; cases q9er; refine q9hKp _ _ ?_; clear q9hKp q9Kp; intro q9N')) | walk1 | (dsimp only; walk1) | (leave1; (try dsimp only)))
  rename Fr _ _ _ _ => F9; rename News _ _ _ _ => N9
  exact ⟨rfl, hK9 _ (hQ _ _ _ _ _ _ (fr_m55 (M := mD 2 td (mR (.ref R) si (mC (cleanF text) tc mZ))) F9) (cb_drop N9 (by kcj_all)))⟩
end
end Mine
end
section
open PySem PySem.W PySem.Calls PyProof.Rows
set_option Elab.async false
set_option maxRecDepth 100000
set_option maxHeartbeats 40000000
namespace Mine
theorem anew_CSP30 : True := by
  w_top off
  exact True.intro
section
variable {w : World} {p : Program} {loose : List Str} {mean : ExcName → Option Value} {mg mb : Str → Option Value} {h₀ : Heap} {L : Nat} {fa : Addr} {cd : Value} {m : Str → Option Value} {w2 w1 : Obj} {Q : Flow → Shared → Prop} {E : Value → Shared → Prop} {s : Shared}
variable {text : Str} {tt tp tw tv tc td tn tT t2n t2 tkA tkB : Tok} {D B x1 d1 l1 x2 d2 l2 T T2 D2 R : Addr} {ys vs rv : List Value} {ns : List Int} {oB : Obj} {hs1 hs2 : Int} {k1 k2 rn : Nat} {bo to si : Value} {fr : Bool}
set_option maxHeartbeats 40000000
variable {ba en li re : Value} {bare e line nxt : Str} {tb te tli tre tl : Tok} {I c' G : Addr} {oI oc oL oG wG wL : Obj} {vs0 : Array Value} {t0 : Tok} {mZ : Str → Option Value} {dI : Int} {v0 vL v1 : Option Value} {gv : List Value}
theorem SP30 (hX : (hd.heap_39 w.params).In h₀) (hTp : Top p loose mean mg mb h₀) (hBl : Below callerA h₀ [] h₀) (hE : PassesOwn (model Challenge.rw_pm0051_01.row.prog w) (callerA.deeper (lawE L fa cd)) (lawE L fa cd) E)
    (hText : TextOk text) (hcL : oL.data = .cell (some (.int 1 tl))) (F4 : Fr h₀ L s.heap (mE (page3F (cleanF text)) tre (mD 3 td (mR (.ref R) si (mC (cleanF text) tc mZ))))) (N4 : News h₀ L s.heap [(I, oI), (R, W.listOf rv.toArray rn), (242, tabObj #[]), (L + 1 + 1 + 1, wG), (L + 1 + 1, oL)])
    (hQ : ∀ h' tk tb te tli tre, Fr h₀ L h' (m5 (.str (Str.ofString "Nest: k-1=\"" ++ cleanF text ++ Str.ofString "\"" ++ Str.ofString "\r") tb) (.str (Str.ofString "\r") te) (.str (Str.ofString "Nest: " ++ wrF 1 (cleanF text) ++ Str.ofString "\r") tli) (.str (restJ (cleanF text)) tre) (mD 3 td (mR (.ref R) si (mC (cleanF text) tc mZ)))) → News h₀ L h' [(I, oI), (R, W.listOf rv.toArray rn), (242, tabObj #[]), (L + 1 + 1 + 1, wG), (L + 1 + 1, oL)] → lvW w L fa cd 4 Q E { s with heap := h', toks := tk }) :
    lvW w L fa cd 0 Q E s := by
  revert hX; unfold lvW; k_fill; intro hX
  obtain ⟨h1, g1, n1, tk1, os1⟩ := s
  refine cutK 4 _ ?_
  intro K9 hK9
  dsimp only [lvB, forBody, lawB, lawRec, recOf, lawE, List.drop, List.take]
  dsimp only [lawE, lawRec, recOf] at hE
  have hHN : HoldNe := trivial
  have hclen := (clean_ok hText).len
  have hsd := sd3_0 (clean_good text)
  have hpl := Nat.not_lt.mpr (page_lens hclen.2).2.1
  have hwl := Nat.not_lt.mpr (wr_len hclen.2).1
  have hcN : (Str.ofString "Nest: ").length = 6 := by decide +kernel
  have hcr : (Str.ofString "\r").length = 1 := by decide +kernel
  have hce : (Str.ofString "").length = 0 := by decide +kernel
  have hck : (Str.ofString "k-1=\"").length = 5 := by decide +kernel
  have hcq : (Str.ofString "\"").length = 1 := by decide +kernel
  have hb1 : (Str.ofString "Nest: k-1=\"").length = 11 := by decide +kernel
  have hb2 : (Str.ofString "\"").length = 1 := by decide +kernel
  repeat' (first | (k_unfold; (try dsimp only)) | (k_end; kc_close) | ((with_reducible show wpAny _ _ (binaryOp Operator.Add (Value.str _ _) (Value.str _ _)) _ _ _); with_reducible (k_dflt (refine' my_add (by first | omega | decide +kernel) (by first | omega | decide +kernel) ?_); intro _ _ _)) | ((with_reducible show wpAny _ _ (compareOp CmpOp.NotEq (Value.str _ _) (Value.str _ _)) _ _ _); with_reducible ((with_reducible rename HoldNe => q9hHN); first | (with_reducible refine ne_str_of rfl ?_) | refine Hold.mk ?_)) | ((with_reducible show wpAny _ _ (call (Value.ref 195) [Value.str _ _]) _ _ _); with_reducible (k_dflt (refine' c_splitdoc _ _ (by omega) _ _ _ _ _ _ _ _ _ _ _ _ _ _ _ _ _ _ _ _ (by k_asm) (by k_asm) (by k_in) (by k_asm) (by k_asm) (by k_room) (by k_room) ?_); intro q9rv q9h' q9tk' q9nw q9hr q9F'; refine park2 q9rv q9nw ?_; intro q9Kp q9hKp; obtain ⟨q9D, q9ta, q9tb, q9er, q9en, q9ho⟩ := q9hr; cases q9en; cases q9er; refine q9hKp _ _ ?_; clear q9hKp q9Kp; intro q9N'; (try ((with_reducible rename sdF _ = (_, _) => q9hsd9); rw [q9hsd9] at q9N'; (try dsimp only at q9N'))))) | ((with_reducible show wpAny _ _ (call (Value.ref 221) [Value.str _ _, Value.int _ _]) _ _ _); with_reducible ((first | k_dflt (refine' c_written _ _ _ 1 ?_ ?_ (by omega) _ _ _ _ _ _ _ _ _ _ _ _ _ _ _ _ _ _ _ _ (by k_asm) (by k_asm) (by k_in) (by k_asm) (by k_asm) (by k_room) (by k_room) ?_) | k_dflt (refine' c_written _ _ _ 2 ?_ ?_ (by omega) _ _ _ _ _ _ _ _ _ _ _ _ _ _ _ _ _ _ _ _ (by k_asm) (by k_asm) (by k_in) (by k_asm) (by k_asm) (by k_room) (by k_room) ?_) | k_dflt (refine' c_written _ _ _ 3 ?_ ?_ (by omega) _ _ _ _ _ _ _ _ _ _ _ _ _ _ _ _ _ _ _ _ (by k_asm) (by k_asm) (by k_in) (by k_asm) (by k_asm) (by k_room) (by k_room) ?_)); (try any_goals ((fail_if_success with_reducible show wpAny _ _ _ _ _ _); decide)); (try any_goals ((fail_if_success with_reducible show wpAny _ _ _ _ _ _); decide)); intro q9rv q9h' q9tk' q9nw q9hr q9F'; refine park2 q9rv q9nw ?_; intro q9Kp q9hKp; obtain ⟨q9en, q9tt, q9er⟩ := q9hr; cases q9en; cases q9er; refine q9hKp _ _ ?_; clear q9hKp q9Kp; intro q9N')) | walk1 | (dsimp only; walk1) | (leave1; (try dsimp only)))
  rename Fr _ _ _ _ => F9; rename News _ _ _ _ => N9
  exact ⟨rfl, hK9 _ (hQ _ _ _ _ _ _ (fr_m5E (p := page3F (cleanF text)) (M := mD 3 td (mR (.ref R) si (mC (cleanF text) tc mZ))) F9) (cb_drop N9 (by kcj_all)))⟩
end
end Mine
end
section
open PySem PySem.W PySem.Calls PyProof.Rows
set_option Elab.async false
set_option maxRecDepth 100000
set_option maxHeartbeats 40000000
namespace Mine
theorem anew_CSP31 : True := by
  w_top off
  exact True.intro
section
variable {w : World} {p : Program} {loose : List Str} {mean : ExcName → Option Value} {mg mb : Str → Option Value} {h₀ : Heap} {L : Nat} {fa : Addr} {cd : Value} {m : Str → Option Value} {w2 w1 : Obj} {Q : Flow → Shared → Prop} {E : Value → Shared → Prop} {s : Shared}
variable {text : Str} {tt tp tw tv tc td tn tT t2n t2 tkA tkB : Tok} {D B x1 d1 l1 x2 d2 l2 T T2 D2 R : Addr} {ys vs rv : List Value} {ns : List Int} {oB : Obj} {hs1 hs2 : Int} {k1 k2 rn : Nat} {bo to si : Value} {fr : Bool}
set_option maxHeartbeats 40000000
variable {ba en li re : Value} {bare e line nxt : Str} {tb te tli tre tl : Tok} {I c' G : Addr} {oI oc oL oG wG wL : Obj} {vs0 : Array Value} {t0 : Tok} {mZ : Str → Option Value} {dI : Int} {v0 vL v1 : Option Value} {gv : List Value}
theorem SP31 (hX : (hd.heap_39 w.params).In h₀) (hTp : Top p loose mean mg mb h₀) (hBl : Below callerA h₀ [] h₀) (hE : PassesOwn (model Challenge.rw_pm0051_01.row.prog w) (callerA.deeper (lawE L fa cd)) (lawE L fa cd) E)
    (hText : TextOk text) (hcL : oL.data = .cell (some (.int 2 tl))) (F4 : Fr h₀ L s.heap (m5 ba en li (.str (restJ (cleanF text)) tre) (mD 3 td (mR (.ref R) si (mC (cleanF text) tc mZ))))) (N4 : News h₀ L s.heap [(I, oI), (R, W.listOf rv.toArray rn), (c', oc), (242, tabObj #[rawInt 152, rawInt 29, .ref c']), (L + 1 + 1 + 1, wG), (L + 1 + 1, oL)])
    (hQ : ∀ h' tk tb te tli tre, Fr h₀ L h' (m5 (.str (Str.ofString "Nest: k-1=\"k-1=\"" ++ cleanF text ++ Str.ofString "\"\"" ++ Str.ofString "\r") tb) (.str (Str.ofString "\r") te) (.str (Str.ofString "Nest: " ++ wrF 2 (cleanF text) ++ Str.ofString "\r") tli) (.str (pairF (Str.ofString "Nest") (textL 3 (cleanF text))) tre) (mD 3 td (mR (.ref R) si (mC (cleanF text) tc mZ)))) → News h₀ L h' [(I, oI), (R, W.listOf rv.toArray rn), (c', oc), (242, tabObj #[rawInt 152, rawInt 29, .ref c']), (L + 1 + 1 + 1, wG), (L + 1 + 1, oL)] → lvW w L fa cd 4 Q E { s with heap := h', toks := tk }) :
    lvW w L fa cd 0 Q E s := by
  revert hX; unfold lvW; k_fill; intro hX
  obtain ⟨h1, g1, n1, tk1, os1⟩ := s
  refine cutK 4 _ ?_
  intro K9 hK9
  dsimp only [lvB, forBody, lawB, lawRec, recOf, lawE, List.drop, List.take]
  dsimp only [lawE, lawRec, recOf] at hE
  have hHN : HoldNe := trivial
  have hclen := (clean_ok hText).len
  have hsd := sd3_1 (clean_good text)
  have hpl := Nat.not_lt.mpr (page_lens hclen.2).2.2.1
  have hwl := Nat.not_lt.mpr (wr_len hclen.2).2.1
  have hcN : (Str.ofString "Nest: ").length = 6 := by decide +kernel
  have hcr : (Str.ofString "\r").length = 1 := by decide +kernel
  have hce : (Str.ofString "").length = 0 := by decide +kernel
  have hck : (Str.ofString "k-1=\"").length = 5 := by decide +kernel
  have hcq : (Str.ofString "\"").length = 1 := by decide +kernel
  have hb1 : (Str.ofString "Nest: k-1=\"k-1=\"").length = 16 := by decide +kernel
  have hb2 : (Str.ofString "\"\"").length = 2 := by decide +kernel
  repeat' (first | (k_unfold; (try dsimp only)) | (k_end; kc_close) | ((with_reducible show wpAny _ _ (binaryOp Operator.Add (Value.str _ _) (Value.str _ _)) _ _ _); with_reducible (k_dflt (refine' my_add (by first | omega | decide +kernel) (by first | omega | decide +kernel) ?_); intro _ _ _)) | ((with_reducible show wpAny _ _ (compareOp CmpOp.NotEq (Value.str _ _) (Value.str _ _)) _ _ _); with_reducible ((with_reducible rename HoldNe => q9hHN); first | (with_reducible refine ne_str_of rfl ?_) | refine Hold.mk ?_)) | ((with_reducible show wpAny _ _ (call (Value.ref 195) [Value.str _ _]) _ _ _); with_reducible (k_dflt (refine' c_splitdoc _ _ (by omega) _ _ _ _ _ _ _ _ _ _ _ _ _ _ _ _ _ _ _ _ (by k_asm) (by k_asm) (by k_in) (by k_asm) (by k_asm) (by k_room) (by k_room) ?_); intro q9rv q9h' q9tk' q9nw q9hr q9F'; refine park2 q9rv q9nw ?_; intro q9Kp q9hKp; obtain ⟨q9D, q9ta, q9tb, q9er, q9en, q9ho⟩ := q9hr; cases q9en; cases q9er; refine q9hKp _ _ ?_; clear q9hKp q9Kp; intro q9N'; (try ((with_reducible rename sdF _ = (_, _) => q9hsd9); rw [q9hsd9] at q9N'; (try dsimp only at q9N'))))) | ((with_reducible show wpAny _ _ (call (Value.ref 221) [Value.str _ _, Value.int _ _]) _ _ _); with_reducible ((first | k_dflt (refine' c_written _ _ _ 1 ?_ ?_ (by omega) _ _ _ _ _ _ _ _ _ _ _ _ _ _ _ _ _ _ _ _ (by k_asm) (by k_asm) (by k_in) (by k_asm) (by k_asm) (by k_room) (by k_room) ?_) | k_dflt (refine' c_written _ _ _ 2 ?_ ?_ (by omega) _ _ _ _ _ _ _ _ _ _ _ _ _ _ _ _ _ _ _ _ (by k_asm) (by k_asm) (by k_in) (by k_asm) (by k_asm) (by k_room) (by k_room) ?_) | k_dflt (refine' c_written _ _ _ 3 ?_ ?_ (by omega) _ _ _ _ _ _ _ _ _ _ _ _ _ _ _ _ _ _ _ _ (by k_asm) (by k_asm) (by k_in) (by k_asm) (by k_asm) (by k_room) (by k_room) ?_)); (try any_goals ((fail_if_success with_reducible show wpAny _ _ _ _ _ _); decide)); (try any_goals ((fail_if_success with_reducible show wpAny _ _ _ _ _ _); decide)); intro q9rv q9h' q9tk' q9nw q9hr q9F'; refine park2 q9rv q9nw ?_; intro q9Kp q9hKp; obtain ⟨q9en, q9tt, q9er⟩ := q9hr; cases q9en; cases q9er; refine q9hKp _ _ ?_; clear q9hKp q9Kp; intro q9N')) | walk1 | (dsimp only; walk1) | (leave1; (try dsimp only)))
  rename Fr _ _ _ _ => F9; rename News _ _ _ _ => N9
  exact ⟨rfl, hK9 _ (hQ _ _ _ _ _ _ (fr_m55 (M := mD 3 td (mR (.ref R) si (mC (cleanF text) tc mZ))) F9) (cb_drop N9 (by kcj_all)))⟩
end
end Mine
end
section
open PySem PySem.W PySem.Calls PyProof.Rows
set_option Elab.async false
set_option maxRecDepth 100000
set_option maxHeartbeats 40000000
namespace Mine
theorem anew_CSP32 : True := by
  w_top off
  exact True.intro
section
variable {w : World} {p : Program} {loose : List Str} {mean : ExcName → Option Value} {mg mb : Str → Option Value} {h₀ : Heap} {L : Nat} {fa : Addr} {cd : Value} {m : Str → Option Value} {w2 w1 : Obj} {Q : Flow → Shared → Prop} {E : Value → Shared → Prop} {s : Shared}
variable {text : Str} {tt tp tw tv tc td tn tT t2n t2 tkA tkB : Tok} {D B x1 d1 l1 x2 d2 l2 T T2 D2 R : Addr} {ys vs rv : List Value} {ns : List Int} {oB : Obj} {hs1 hs2 : Int} {k1 k2 rn : Nat} {bo to si : Value} {fr : Bool}
set_option maxHeartbeats 40000000
variable {ba en li re : Value} {bare e line nxt : Str} {tb te tli tre tl : Tok} {I c' G : Addr} {oI oc oL oG wG wL : Obj} {vs0 : Array Value} {t0 : Tok} {mZ : Str → Option Value} {dI : Int} {v0 vL v1 : Option Value} {gv : List Value}
theorem SP32 (hX : (hd.heap_39 w.params).In h₀) (hTp : Top p loose mean mg mb h₀) (hBl : Below callerA h₀ [] h₀) (hE : PassesOwn (model Challenge.rw_pm0051_01.row.prog w) (callerA.deeper (lawE L fa cd)) (lawE L fa cd) E)
    (hText : TextOk text) (hcL : oL.data = .cell (some (.int 3 tl))) (F4 : Fr h₀ L s.heap (m5 ba en li (.str (pairF (Str.ofString "Nest") (textL 3 (cleanF text))) tre) (mD 3 td (mR (.ref R) si (mC (cleanF text) tc mZ))))) (N4 : News h₀ L s.heap [(I, oI), (R, W.listOf rv.toArray rn), (c', oc), (242, tabObj #[rawInt 152, rawInt 29, .ref c']), (L + 1 + 1 + 1, wG), (L + 1 + 1, oL)])
    (hQ : ∀ h' tk tb te tli tre, Fr h₀ L h' (m5 (.str (Str.ofString "Nest: k-1=\"k-1=\"k-1=\"" ++ cleanF text ++ Str.ofString "\"\"\"" ++ Str.ofString "") tb) (.str (Str.ofString "") te) (.str (Str.ofString "Nest: " ++ wrF 3 (cleanF text) ++ Str.ofString "") tli) (.str (Str.ofString "") tre) (mD 3 td (mR (.ref R) si (mC (cleanF text) tc mZ)))) → News h₀ L h' [(I, oI), (R, W.listOf rv.toArray rn), (c', oc), (242, tabObj #[rawInt 152, rawInt 29, .ref c']), (L + 1 + 1 + 1, wG), (L + 1 + 1, oL)] → lvW w L fa cd 4 Q E { s with heap := h', toks := tk }) :
    lvW w L fa cd 0 Q E s := by
  revert hX; unfold lvW; k_fill; intro hX
  obtain ⟨h1, g1, n1, tk1, os1⟩ := s
  refine cutK 4 _ ?_
  intro K9 hK9
  dsimp only [lvB, forBody, lawB, lawRec, recOf, lawE, List.drop, List.take]
  dsimp only [lawE, lawRec, recOf] at hE
  have hHN : HoldNe := trivial
  have hclen := (clean_ok hText).len
  have hsd := sd3_2 (clean_good text)
  have hpl := Nat.not_lt.mpr (page_lens hclen.2).2.2.2.2
  have hwl := Nat.not_lt.mpr (wr_len hclen.2).2.2
  have hcN : (Str.ofString "Nest: ").length = 6 := by decide +kernel
  have hcr : (Str.ofString "\r").length = 1 := by decide +kernel
  have hce : (Str.ofString "").length = 0 := by decide +kernel
  have hck : (Str.ofString "k-1=\"").length = 5 := by decide +kernel
  have hcq : (Str.ofString "\"").length = 1 := by decide +kernel
  have hb1 : (Str.ofString "Nest: k-1=\"k-1=\"k-1=\"").length = 21 := by decide +kernel
  have hb2 : (Str.ofString "\"\"\"").length = 3 := by decide +kernel
  repeat' (first | (k_unfold; (try dsimp only)) | (k_end; kc_close) | ((with_reducible show wpAny _ _ (binaryOp Operator.Add (Value.str _ _) (Value.str _ _)) _ _ _); with_reducible (k_dflt (refine' my_add (by first | omega | decide +kernel) (by first | omega | decide +kernel) ?_); intro _ _ _)) | ((with_reducible show wpAny _ _ (compareOp CmpOp.NotEq (Value.str _ _) (Value.str _ _)) _ _ _); with_reducible ((with_reducible rename HoldNe => q9hHN); first | (with_reducible refine ne_str_of rfl ?_) | refine Hold.mk ?_)) | ((with_reducible show wpAny _ _ (call (Value.ref 195) [Value.str _ _]) _ _ _); with_reducible (k_dflt (refine' c_splitdoc _ _ (by omega) _ _ _ _ _ _ _ _ _ _ _ _ _ _ _ _ _ _ _ _ (by k_asm) (by k_asm) (by k_in) (by k_asm) (by k_asm) (by k_room) (by k_room) ?_); intro q9rv q9h' q9tk' q9nw q9hr q9F'; refine park2 q9rv q9nw ?_; intro q9Kp q9hKp; obtain ⟨q9D, q9ta, q9tb, q9er, q9en, q9ho⟩ := q9hr; cases q9en; cases q9er; refine q9hKp _ _ ?_; clear q9hKp q9Kp; intro q9N'; (try ((with_reducible rename sdF _ = (_, _) => q9hsd9); rw [q9hsd9] at q9N'; (try dsimp only at q9N'))))) | ((with_reducible show wpAny _ _ (call (Value.ref 221) [Value.str _ _, Value.int _ _]) _ _ _); with_reducible ((first | k_dflt (refine' c_written _ _ _ 1 ?_ ?_ (by omega) _ _ _ _ _ _ _ _ _ _ _ _ _ _ _ _ _ _ _ _ (by k_asm) (by k_asm) (by k_in) (by k_asm) (by k_asm) (by k_room) (by k_room) ?_) | k_dflt (refine' c_written _ _ _ 2 ?_ ?_ (by omega) _ _ _ _ _ _ _ _ _ _ _ _ _ _ _ _ _ _ _ _ (by k_asm) (by k_asm) (by k_in) (by k_asm) (by k_asm) (by k_room) (by k_room) ?_) | k_dflt (refine' c_written _ _ _ 3 ?_ ?_ (by omega) _ _ _ _ _ _ _ _ _ _ _ _ _ _ _ _ _ _ _ _ (by k_asm) (by k_asm) (by k_in) (by k_asm) (by k_asm) (by k_room) (by k_room) ?_)); (try any_goals ((fail_if_success with_reducible show wpAny _ _ _ _ _ _); decide)); (try any_goals ((fail_if_success with_reducible show wpAny _ _ _ _ _ _); decide)); intro q9rv q9h' q9tk' q9nw q9hr q9F'; refine park2 q9rv q9nw ?_; intro q9Kp q9hKp; obtain ⟨q9en, q9tt, q9er⟩ := q9hr; cases q9en; cases q9er; refine q9hKp _ _ ?_; clear q9hKp q9Kp; intro q9N')) | walk1 | (dsimp only; walk1) | (leave1; (try dsimp only)))
  rename Fr _ _ _ _ => F9; rename News _ _ _ _ => N9
  exact ⟨rfl, hK9 _ (hQ _ _ _ _ _ _ (fr_m55 (M := mD 3 td (mR (.ref R) si (mC (cleanF text) tc mZ))) F9) (cb_drop N9 (by kcj_all)))⟩
end
end Mine
end
section
open PySem PySem.W PySem.Calls PyProof.Rows
set_option Elab.async false
set_option maxRecDepth 100000
set_option maxHeartbeats 40000000
namespace Mine
theorem anew_CSG1 : True := by
  w_top off
  exact True.intro
section
variable {w : World} {p : Program} {loose : List Str} {mean : ExcName → Option Value} {mg mb : Str → Option Value} {h₀ : Heap} {L : Nat} {fa : Addr} {cd : Value} {m : Str → Option Value} {w2 w1 : Obj} {Q : Flow → Shared → Prop} {E : Value → Shared → Prop} {s : Shared}
variable {text : Str} {tt tp tw tv tc td tn tT t2n t2 tkA tkB : Tok} {D B x1 d1 l1 x2 d2 l2 T T2 D2 R : Addr} {ys vs rv : List Value} {ns : List Int} {oB : Obj} {hs1 hs2 : Int} {k1 k2 rn : Nat} {bo to si : Value} {fr : Bool}
set_option maxHeartbeats 40000000
variable {ba en li re : Value} {bare e line nxt : Str} {tb te tli tre tl : Tok} {I c' G : Addr} {oI oc oL oG wG wL : Obj} {vs0 : Array Value} {t0 : Tok} {mZ : Str → Option Value} {dI : Int} {v0 vL v1 : Option Value} {gv : List Value}
theorem SG1 (hX : (hd.heap_39 w.params).In h₀) (hTp : Top p loose mean mg mb h₀) (hBl : Below callerA h₀ [] h₀) (hE : PassesOwn (model Challenge.rw_pm0051_01.row.prog w) (callerA.deeper (lawE L fa cd)) (lawE L fa cd) E) (hl0 : 242 < L)
    (hrv : StrsAre rv rowsF) (hcL : oL.data = .cell (some (.int 1 tl))) (hdG : wG.data = .cell v0) (hR3 : @Ne Nat R (L + 1 + 1 + 1)) (hI3 : @Ne Nat I (L + 1 + 1 + 1))
    (F4 : Fr h₀ L s.heap (m5 ba en li re (mD dI td (mR (.ref R) si mZ)))) (N4 : News h₀ L s.heap [(I, oI), (R, W.listOf rv.toArray rn), (242, tabObj #[]), (L + 1 + 1 + 1, wG), (L + 1 + 1, oL)])
    (hQ : ∀ h' tk G gv oG, StrsAre gv (goodL 1) → oG.data = .cell (some (.ref G)) → Fr h₀ L h' (m5 ba en li re (mD dI td (mR (.ref R) si mZ))) → News h₀ L h' [(R, W.listOf rv.toArray rn), (242, tabObj #[]), (L + 1 + 1 + 1, oG), (G, LCg.lst gv), (L + 1 + 1, oL), (I, oI)] → lvW w L fa cd 5 Q E { s with heap := h', toks := tk }) :
    lvW w L fa cd 4 Q E s := by
  revert hX; unfold lvW; k_fill; intro hX
  obtain ⟨h1, g1, n1, tk1, os1⟩ := s
  refine cutK 1 _ ?_
  intro K9 hK9
  dsimp only [lvB, forBody, lawB, lawRec, recOf, lawE, List.drop, List.take]
  dsimp only [lawE, lawRec, recOf] at hE
  have hHN : HoldNe := trivial
  repeat' (first | (k_unfold; (try dsimp only)) | (k_end; kc_close) | ((with_reducible show wpAny _ _ (exec (Stmt.Assign (_ :: _) (Expr.ListComp ..) _) _) _ _ _); (k_here; refine wpAny_Assign_Name ?_)) | ((with_reducible show wpAny _ _ (call (Value.ref 254) [Value.str _ _, Value.int _ _]) _ _ _); with_reducible (k_dflt (refine' c_goes _ _ _ _ (by omega) _ _ _ _ _ _ _ _ _ _ _ _ _ _ _ _ _ _ _ _ (by k_asm) (by k_asm) (by k_in) (by k_asm) (by k_asm) (by k_room) (by k_room) ?_); intro q9rv q9h' q9tk' q9nw q9hr q9F'; refine park2 q9rv q9nw ?_; intro q9Kp q9hKp; obtain ⟨q9en, q9er⟩ := q9hr; cases q9en; cases q9er; refine q9hKp _ _ ?_; clear q9hKp q9Kp; intro q9N')) | ((with_reducible show wpAny _ _ (eval (Expr.ListComp ..) _) _ _ _); with_reducible (k_here; k_dflt (first | ((with_reducible show wpAny _ _ (eval (Expr.ListComp _ [⟨Expr.Name _ _, _, [], _⟩] _ _) _) _ _ _); refine lcs_U (_F₀ := by k_asm) (by with_unfolding_all rfl) (by decide) (by rfl) (by decide) (by rfl) ?_) | ((with_reducible show wpAny _ _ (eval (Expr.ListComp _ [⟨Expr.Name _ _, _, [_], _⟩] _ _) _) _ _ _); refine lcs_T (_F₀ := by k_asm) (by with_unfolding_all rfl) (by decide) (by rfl) (by decide) (by rfl) ?_)))) | ((with_reducible show wpAny _ _ (eval (Expr.Name (Str.ofString "_law_goes") _) (compEnvC _ _ _ _)) _ _ _); with_reducible (k_dflt (refine' LCgL.ld_global (by k_asm) (by k_asm) (by k_asm) (by k_is) ?_))) | ((with_reducible show InPost ..); with_reducible (k_here; k_dflt (refine' ⟨_, _, rfl, (by k_asm), cb_drop (by k_asm) (by kcj_all), ?_⟩))) | ((with_reducible show wpAny _ _ (storeName _ _ _) _ _ _); with_reducible (k_here; (first | (with_reducible show wpAny _ _ (storeName _ (Str.ofString "good") _) _ _ _) | (with_reducible show wpAny _ _ (storeName _ (Str.ofString "level") _) _ _ _)); refine Hold.mk ?_)) | walk1 | (dsimp only; walk1) | (leave1; (try dsimp only)))
  rename Fr _ _ _ _ => F5; rename News _ _ _ _ => N5
  refine genT_of (its := rowsF) (fun r => goesF r 1) (fun z => z) rfl F5 N5 (inSrc_list rfl N5 (by k_mem)) (fun p hp => by rw [List.mem_singleton.mp hp]; k_mem) (listAt_of hrv) (size_of_strs hrv) (by rw [sizeLine_eq]; exact Nat.le_trans rows_len (by decide)) ?turnG ?finG
  case turnG =>
    intro z tz I2 oI2 C2 oC2 D2 m₂ zs' h tk E' hz hC hx F6 N6 off ne
    have hzl := rows_short z hz
    clear F5 N5
    repeat' (first | (k_unfold; (try dsimp only)) | (k_end; kc_close) | ((with_reducible show wpAny _ _ (exec (Stmt.Assign (_ :: _) (Expr.ListComp ..) _) _) _ _ _); (k_here; refine wpAny_Assign_Name ?_)) | ((with_reducible show wpAny _ _ (call (Value.ref 254) [Value.str _ _, Value.int _ _]) _ _ _); with_reducible (k_dflt (refine' c_goes _ _ _ _ (by omega) _ _ _ _ _ _ _ _ _ _ _ _ _ _ _ _ _ _ _ _ (by k_asm) (by k_asm) (by k_in) (by k_asm) (by k_asm) (by k_room) (by k_room) ?_); intro q9rv q9h' q9tk' q9nw q9hr q9F'; refine park2 q9rv q9nw ?_; intro q9Kp q9hKp; obtain ⟨q9en, q9er⟩ := q9hr; cases q9en; cases q9er; refine q9hKp _ _ ?_; clear q9hKp q9Kp; intro q9N')) | ((with_reducible show wpAny _ _ (eval (Expr.ListComp ..) _) _ _ _); with_reducible (k_here; k_dflt (first | ((with_reducible show wpAny _ _ (eval (Expr.ListComp _ [⟨Expr.Name _ _, _, [], _⟩] _ _) _) _ _ _); refine lcs_U (_F₀ := by k_asm) (by with_unfolding_all rfl) (by decide) (by rfl) (by decide) (by rfl) ?_) | ((with_reducible show wpAny _ _ (eval (Expr.ListComp _ [⟨Expr.Name _ _, _, [_], _⟩] _ _) _) _ _ _); refine lcs_T (_F₀ := by k_asm) (by with_unfolding_all rfl) (by decide) (by rfl) (by decide) (by rfl) ?_)))) | ((with_reducible show wpAny _ _ (eval (Expr.Name (Str.ofString "_law_goes") _) (compEnvC _ _ _ _)) _ _ _); with_reducible (k_dflt (refine' LCgL.ld_global (by k_asm) (by k_asm) (by k_asm) (by k_is) ?_))) | ((with_reducible show InPost ..); with_reducible (k_here; k_dflt (refine' ⟨_, _, rfl, (by k_asm), cb_drop (by k_asm) (by kcj_all), ?_⟩))) | ((with_reducible show wpAny _ _ (storeName _ _ _) _ _ _); with_reducible (k_here; (first | (with_reducible show wpAny _ _ (storeName _ (Str.ofString "good") _) _ _ _) | (with_reducible show wpAny _ _ (storeName _ (Str.ofString "level") _) _ _ _)); refine Hold.mk ?_)) | walk1 | (dsimp only; walk1) | (leave1; (try dsimp only)))
    all_goals first | exact IsText.mk | (dsimp only; with_reducible assumption)
  case finG =>
    intro q gv hgv
    rw [List.map_id', good_1] at hgv
    clear F5 N5
    repeat' (first | (k_unfold; (try dsimp only)) | (k_end; kc_close) | ((with_reducible show wpAny _ _ (exec (Stmt.Assign (_ :: _) (Expr.ListComp ..) _) _) _ _ _); (k_here; refine wpAny_Assign_Name ?_)) | ((with_reducible show wpAny _ _ (call (Value.ref 254) [Value.str _ _, Value.int _ _]) _ _ _); with_reducible (k_dflt (refine' c_goes _ _ _ _ (by omega) _ _ _ _ _ _ _ _ _ _ _ _ _ _ _ _ _ _ _ _ (by k_asm) (by k_asm) (by k_in) (by k_asm) (by k_asm) (by k_room) (by k_room) ?_); intro q9rv q9h' q9tk' q9nw q9hr q9F'; refine park2 q9rv q9nw ?_; intro q9Kp q9hKp; obtain ⟨q9en, q9er⟩ := q9hr; cases q9en; cases q9er; refine q9hKp _ _ ?_; clear q9hKp q9Kp; intro q9N')) | ((with_reducible show wpAny _ _ (eval (Expr.ListComp ..) _) _ _ _); with_reducible (k_here; k_dflt (first | ((with_reducible show wpAny _ _ (eval (Expr.ListComp _ [⟨Expr.Name _ _, _, [], _⟩] _ _) _) _ _ _); refine lcs_U (_F₀ := by k_asm) (by with_unfolding_all rfl) (by decide) (by rfl) (by decide) (by rfl) ?_) | ((with_reducible show wpAny _ _ (eval (Expr.ListComp _ [⟨Expr.Name _ _, _, [_], _⟩] _ _) _) _ _ _); refine lcs_T (_F₀ := by k_asm) (by with_unfolding_all rfl) (by decide) (by rfl) (by decide) (by rfl) ?_)))) | ((with_reducible show wpAny _ _ (eval (Expr.Name (Str.ofString "_law_goes") _) (compEnvC _ _ _ _)) _ _ _); with_reducible (k_dflt (refine' LCgL.ld_global (by k_asm) (by k_asm) (by k_asm) (by k_is) ?_))) | ((with_reducible show InPost ..); with_reducible (k_here; k_dflt (refine' ⟨_, _, rfl, (by k_asm), cb_drop (by k_asm) (by kcj_all), ?_⟩))) | ((with_reducible show wpAny _ _ (storeName _ _ _) _ _ _); with_reducible (k_here; (first | (with_reducible show wpAny _ _ (storeName _ (Str.ofString "good") _) _ _ _) | (with_reducible show wpAny _ _ (storeName _ (Str.ofString "level") _) _ _ _)); refine Hold.mk ?_)) | walk1 | (dsimp only; walk1) | (leave1; (try dsimp only)))
    unfold Hold
    rename Fr _ _ _ _ => F6; rename News _ _ _ _ => N6
    refine store_good [(R, W.listOf rv.toArray rn), (242, tabObj #[]), (I, oI)] F6 rfl N6 hcL (by k_mem) (by k_mem) (by k_mem) hdG (by kcj_all) ?hr rfl rfl ?_
    case hr => simp only [List.forall_mem_cons]; exact ⟨hR3, (cell_lt hl0).2, hI3, fun _ h => nomatch h⟩
    intro h6 oG F7 N7 hcG
    clear F6 N6
    try dsimp only
    repeat' (first | (k_unfold; (try dsimp only)) | (k_end; kc_close) | ((with_reducible show wpAny _ _ (exec (Stmt.Assign (_ :: _) (Expr.ListComp ..) _) _) _ _ _); (k_here; refine wpAny_Assign_Name ?_)) | ((with_reducible show wpAny _ _ (call (Value.ref 254) [Value.str _ _, Value.int _ _]) _ _ _); with_reducible (k_dflt (refine' c_goes _ _ _ _ (by omega) _ _ _ _ _ _ _ _ _ _ _ _ _ _ _ _ _ _ _ _ (by k_asm) (by k_asm) (by k_in) (by k_asm) (by k_asm) (by k_room) (by k_room) ?_); intro q9rv q9h' q9tk' q9nw q9hr q9F'; refine park2 q9rv q9nw ?_; intro q9Kp q9hKp; obtain ⟨q9en, q9er⟩ := q9hr; cases q9en; cases q9er; refine q9hKp _ _ ?_; clear q9hKp q9Kp; intro q9N')) | ((with_reducible show wpAny _ _ (eval (Expr.ListComp ..) _) _ _ _); with_reducible (k_here; k_dflt (first | ((with_reducible show wpAny _ _ (eval (Expr.ListComp _ [⟨Expr.Name _ _, _, [], _⟩] _ _) _) _ _ _); refine lcs_U (_F₀ := by k_asm) (by with_unfolding_all rfl) (by decide) (by rfl) (by decide) (by rfl) ?_) | ((with_reducible show wpAny _ _ (eval (Expr.ListComp _ [⟨Expr.Name _ _, _, [_], _⟩] _ _) _) _ _ _); refine lcs_T (_F₀ := by k_asm) (by with_unfolding_all rfl) (by decide) (by rfl) (by decide) (by rfl) ?_)))) | ((with_reducible show wpAny _ _ (eval (Expr.Name (Str.ofString "_law_goes") _) (compEnvC _ _ _ _)) _ _ _); with_reducible (k_dflt (refine' LCgL.ld_global (by k_asm) (by k_asm) (by k_asm) (by k_is) ?_))) | ((with_reducible show InPost ..); with_reducible (k_here; k_dflt (refine' ⟨_, _, rfl, (by k_asm), cb_drop (by k_asm) (by kcj_all), ?_⟩))) | ((with_reducible show wpAny _ _ (storeName _ _ _) _ _ _); with_reducible (k_here; (first | (with_reducible show wpAny _ _ (storeName _ (Str.ofString "good") _) _ _ _) | (with_reducible show wpAny _ _ (storeName _ (Str.ofString "level") _) _ _ _)); refine Hold.mk ?_)) | walk1 | (dsimp only; walk1) | (leave1; (try dsimp only)))
    rename Fr _ _ _ _ => F9; rename News _ _ _ _ => N9
    exact ⟨rfl, hK9 _ (hQ _ _ _ _ _ hgv hcG F9 (cb_drop N9 (by kcj_all)))⟩
end
end Mine
end
section
open PySem PySem.W PySem.Calls PyProof.Rows
set_option Elab.async false
set_option maxRecDepth 100000
set_option maxHeartbeats 40000000
namespace Mine
theorem anew_CSG2 : True := by
  w_top off
  exact True.intro
section
variable {w : World} {p : Program} {loose : List Str} {mean : ExcName → Option Value} {mg mb : Str → Option Value} {h₀ : Heap} {L : Nat} {fa : Addr} {cd : Value} {m : Str → Option Value} {w2 w1 : Obj} {Q : Flow → Shared → Prop} {E : Value → Shared → Prop} {s : Shared}
variable {text : Str} {tt tp tw tv tc td tn tT t2n t2 tkA tkB : Tok} {D B x1 d1 l1 x2 d2 l2 T T2 D2 R : Addr} {ys vs rv : List Value} {ns : List Int} {oB : Obj} {hs1 hs2 : Int} {k1 k2 rn : Nat} {bo to si : Value} {fr : Bool}
set_option maxHeartbeats 40000000
variable {ba en li re : Value} {bare e line nxt : Str} {tb te tli tre tl : Tok} {I c' G : Addr} {oI oc oL oG wG wL : Obj} {vs0 : Array Value} {t0 : Tok} {mZ : Str → Option Value} {dI : Int} {v0 vL v1 : Option Value} {gv : List Value}
theorem SG2 (hX : (hd.heap_39 w.params).In h₀) (hTp : Top p loose mean mg mb h₀) (hBl : Below callerA h₀ [] h₀) (hE : PassesOwn (model Challenge.rw_pm0051_01.row.prog w) (callerA.deeper (lawE L fa cd)) (lawE L fa cd) E) (hl0 : 242 < L)
    (hrv : StrsAre rv rowsF) (hcL : oL.data = .cell (some (.int 2 tl))) (hdG : wG.data = .cell v0) (hR3 : @Ne Nat R (L + 1 + 1 + 1)) (hI3 : @Ne Nat I (L + 1 + 1 + 1)) (hc3 : @Ne Nat c' (L + 1 + 1 + 1))
    (F4 : Fr h₀ L s.heap (m5 ba en li re (mD dI td (mR (.ref R) si mZ)))) (N4 : News h₀ L s.heap [(I, oI), (R, W.listOf rv.toArray rn), (c', oc), (242, tabObj #[rawInt 152, rawInt 29, .ref c']), (L + 1 + 1 + 1, wG), (L + 1 + 1, oL)])
    (hQ : ∀ h' tk G gv oG, StrsAre gv (goodL 2) → oG.data = .cell (some (.ref G)) → Fr h₀ L h' (m5 ba en li re (mD dI td (mR (.ref R) si mZ))) → News h₀ L h' [(R, W.listOf rv.toArray rn), (c', oc), (242, tabObj #[rawInt 152, rawInt 29, .ref c']), (L + 1 + 1 + 1, oG), (G, LCg.lst gv), (L + 1 + 1, oL), (I, oI)] → lvW w L fa cd 5 Q E { s with heap := h', toks := tk }) :
    lvW w L fa cd 4 Q E s := by
  revert hX; unfold lvW; k_fill; intro hX
  obtain ⟨h1, g1, n1, tk1, os1⟩ := s
  refine cutK 1 _ ?_
  intro K9 hK9
  dsimp only [lvB, forBody, lawB, lawRec, recOf, lawE, List.drop, List.take]
  dsimp only [lawE, lawRec, recOf] at hE
  have hHN : HoldNe := trivial
  repeat' (first | (k_unfold; (try dsimp only)) | (k_end; kc_close) | ((with_reducible show wpAny _ _ (exec (Stmt.Assign (_ :: _) (Expr.ListComp ..) _) _) _ _ _); (k_here; refine wpAny_Assign_Name ?_)) | ((with_reducible show wpAny _ _ (call (Value.ref 254) [Value.str _ _, Value.int _ _]) _ _ _); with_reducible (k_dflt (refine' c_goes _ _ _ _ (by omega) _ _ _ _ _ _ _ _ _ _ _ _ _ _ _ _ _ _ _ _ (by k_asm) (by k_asm) (by k_in) (by k_asm) (by k_asm) (by k_room) (by k_room) ?_); intro q9rv q9h' q9tk' q9nw q9hr q9F'; refine park2 q9rv q9nw ?_; intro q9Kp q9hKp; obtain ⟨q9en, q9er⟩ := q9hr; cases q9en; cases q9er; refine q9hKp _ _ ?_; clear q9hKp q9Kp; intro q9N')) | ((with_reducible show wpAny _ _ (eval (Expr.ListComp ..) _) _ _ _); with_reducible (k_here; k_dflt (first | ((with_reducible show wpAny _ _ (eval (Expr.ListComp _ [⟨Expr.Name _ _, _, [], _⟩] _ _) _) _ _ _); refine lcs_U (_F₀ := by k_asm) (by with_unfolding_all rfl) (by decide) (by rfl) (by decide) (by rfl) ?_) | ((with_reducible show wpAny _ _ (eval (Expr.ListComp _ [⟨Expr.Name _ _, _, [_], _⟩] _ _) _) _ _ _); refine lcs_T (_F₀ := by k_asm) (by with_unfolding_all rfl) (by decide) (by rfl) (by decide) (by rfl) ?_)))) | ((with_reducible show wpAny _ _ (eval (Expr.Name (Str.ofString "_law_goes") _) (compEnvC _ _ _ _)) _ _ _); with_reducible (k_dflt (refine' LCgL.ld_global (by k_asm) (by k_asm) (by k_asm) (by k_is) ?_))) | ((with_reducible show InPost ..); with_reducible (k_here; k_dflt (refine' ⟨_, _, rfl, (by k_asm), cb_drop (by k_asm) (by kcj_all), ?_⟩))) | ((with_reducible show wpAny _ _ (storeName _ _ _) _ _ _); with_reducible (k_here; (first | (with_reducible show wpAny _ _ (storeName _ (Str.ofString "good") _) _ _ _) | (with_reducible show wpAny _ _ (storeName _ (Str.ofString "level") _) _ _ _)); refine Hold.mk ?_)) | walk1 | (dsimp only; walk1) | (leave1; (try dsimp only)))
  rename Fr _ _ _ _ => F5; rename News _ _ _ _ => N5
  refine genT_of (its := rowsF) (fun r => goesF r 2) (fun z => z) rfl F5 N5 (inSrc_list rfl N5 (by k_mem)) (fun p hp => by rw [List.mem_singleton.mp hp]; k_mem) (listAt_of hrv) (size_of_strs hrv) (by rw [sizeLine_eq]; exact Nat.le_trans rows_len (by decide)) ?turnG ?finG
  case turnG =>
    intro z tz I2 oI2 C2 oC2 D2 m₂ zs' h tk E' hz hC hx F6 N6 off ne
    have hzl := rows_short z hz
    clear F5 N5
    repeat' (first | (k_unfold; (try dsimp only)) | (k_end; kc_close) | ((with_reducible show wpAny _ _ (exec (Stmt.Assign (_ :: _) (Expr.ListComp ..) _) _) _ _ _); (k_here; refine wpAny_Assign_Name ?_)) | ((with_reducible show wpAny _ _ (call (Value.ref 254) [Value.str _ _, Value.int _ _]) _ _ _); with_reducible (k_dflt (refine' c_goes _ _ _ _ (by omega) _ _ _ _ _ _ _ _ _ _ _ _ _ _ _ _ _ _ _ _ (by k_asm) (by k_asm) (by k_in) (by k_asm) (by k_asm) (by k_room) (by k_room) ?_); intro q9rv q9h' q9tk' q9nw q9hr q9F'; refine park2 q9rv q9nw ?_; intro q9Kp q9hKp; obtain ⟨q9en, q9er⟩ := q9hr; cases q9en; cases q9er; refine q9hKp _ _ ?_; clear q9hKp q9Kp; intro q9N')) | ((with_reducible show wpAny _ _ (eval (Expr.ListComp ..) _) _ _ _); with_reducible (k_here; k_dflt (first | ((with_reducible show wpAny _ _ (eval (Expr.ListComp _ [⟨Expr.Name _ _, _, [], _⟩] _ _) _) _ _ _); refine lcs_U (_F₀ := by k_asm) (by with_unfolding_all rfl) (by decide) (by rfl) (by decide) (by rfl) ?_) | ((with_reducible show wpAny _ _ (eval (Expr.ListComp _ [⟨Expr.Name _ _, _, [_], _⟩] _ _) _) _ _ _); refine lcs_T (_F₀ := by k_asm) (by with_unfolding_all rfl) (by decide) (by rfl) (by decide) (by rfl) ?_)))) | ((with_reducible show wpAny _ _ (eval (Expr.Name (Str.ofString "_law_goes") _) (compEnvC _ _ _ _)) _ _ _); with_reducible (k_dflt (refine' LCgL.ld_global (by k_asm) (by k_asm) (by k_asm) (by k_is) ?_))) | ((with_reducible show InPost ..); with_reducible (k_here; k_dflt (refine' ⟨_, _, rfl, (by k_asm), cb_drop (by k_asm) (by kcj_all), ?_⟩))) | ((with_reducible show wpAny _ _ (storeName _ _ _) _ _ _); with_reducible (k_here; (first | (with_reducible show wpAny _ _ (storeName _ (Str.ofString "good") _) _ _ _) | (with_reducible show wpAny _ _ (storeName _ (Str.ofString "level") _) _ _ _)); refine Hold.mk ?_)) | walk1 | (dsimp only; walk1) | (leave1; (try dsimp only)))
    all_goals first | exact IsText.mk | (dsimp only; with_reducible assumption)
  case finG =>
    intro q gv hgv
    rw [List.map_id', good_2] at hgv
    clear F5 N5
    repeat' (first | (k_unfold; (try dsimp only)) | (k_end; kc_close) | ((with_reducible show wpAny _ _ (exec (Stmt.Assign (_ :: _) (Expr.ListComp ..) _) _) _ _ _); (k_here; refine wpAny_Assign_Name ?_)) | ((with_reducible show wpAny _ _ (call (Value.ref 254) [Value.str _ _, Value.int _ _]) _ _ _); with_reducible (k_dflt (refine' c_goes _ _ _ _ (by omega) _ _ _ _ _ _ _ _ _ _ _ _ _ _ _ _ _ _ _ _ (by k_asm) (by k_asm) (by k_in) (by k_asm) (by k_asm) (by k_room) (by k_room) ?_); intro q9rv q9h' q9tk' q9nw q9hr q9F'; refine park2 q9rv q9nw ?_; intro q9Kp q9hKp; obtain ⟨q9en, q9er⟩ := q9hr; cases q9en; cases q9er; refine q9hKp _ _ ?_; clear q9hKp q9Kp; intro q9N')) | ((with_reducible show wpAny _ _ (eval (Expr.ListComp ..) _) _ _ _); with_reducible (k_here; k_dflt (first | ((with_reducible show wpAny _ _ (eval (Expr.ListComp _ [⟨Expr.Name _ _, _, [], _⟩] _ _) _) _ _ _); refine lcs_U (_F₀ := by k_asm) (by with_unfolding_all rfl) (by decide) (by rfl) (by decide) (by rfl) ?_) | ((with_reducible show wpAny _ _ (eval (Expr.ListComp _ [⟨Expr.Name _ _, _, [_], _⟩] _ _) _) _ _ _); refine lcs_T (_F₀ := by k_asm) (by with_unfolding_all rfl) (by decide) (by rfl) (by decide) (by rfl) ?_)))) | ((with_reducible show wpAny _ _ (eval (Expr.Name (Str.ofString "_law_goes") _) (compEnvC _ _ _ _)) _ _ _); with_reducible (k_dflt (refine' LCgL.ld_global (by k_asm) (by k_asm) (by k_asm) (by k_is) ?_))) | ((with_reducible show InPost ..); with_reducible (k_here; k_dflt (refine' ⟨_, _, rfl, (by k_asm), cb_drop (by k_asm) (by kcj_all), ?_⟩))) | ((with_reducible show wpAny _ _ (storeName _ _ _) _ _ _); with_reducible (k_here; (first | (with_reducible show wpAny _ _ (storeName _ (Str.ofString "good") _) _ _ _) | (with_reducible show wpAny _ _ (storeName _ (Str.ofString "level") _) _ _ _)); refine Hold.mk ?_)) | walk1 | (dsimp only; walk1) | (leave1; (try dsimp only)))
    unfold Hold
    rename Fr _ _ _ _ => F6; rename News _ _ _ _ => N6
    refine store_good [(R, W.listOf rv.toArray rn), (c', oc), (242, tabObj #[rawInt 152, rawInt 29, .ref c']), (I, oI)] F6 rfl N6 hcL (by k_mem) (by k_mem) (by k_mem) hdG (by kcj_all) ?hr rfl rfl ?_
    case hr => simp only [List.forall_mem_cons]; exact ⟨hR3, hc3, (cell_lt hl0).2, hI3, fun _ h => nomatch h⟩
    intro h6 oG F7 N7 hcG
    clear F6 N6
    try dsimp only
    repeat' (first | (k_unfold; (try dsimp only)) | (k_end; kc_close) | ((with_reducible show wpAny _ _ (exec (Stmt.Assign (_ :: _) (Expr.ListComp ..) _) _) _ _ _); (k_here; refine wpAny_Assign_Name ?_)) | ((with_reducible show wpAny _ _ (call (Value.ref 254) [Value.str _ _, Value.int _ _]) _ _ _); with_reducible (k_dflt (refine' c_goes _ _ _ _ (by omega) _ _ _ _ _ _ _ _ _ _ _ _ _ _ _ _ _ _ _ _ (by k_asm) (by k_asm) (by k_in) (by k_asm) (by k_asm) (by k_room) (by k_room) ?_); intro q9rv q9h' q9tk' q9nw q9hr q9F'; refine park2 q9rv q9nw ?_; intro q9Kp q9hKp; obtain ⟨q9en, q9er⟩ := q9hr; cases q9en; cases q9er; refine q9hKp _ _ ?_; clear q9hKp q9Kp; intro q9N')) | ((with_reducible show wpAny _ _ (eval (Expr.ListComp ..) _) _ _ _); with_reducible (k_here; k_dflt (first | ((with_reducible show wpAny _ _ (eval (Expr.ListComp _ [⟨Expr.Name _ _, _, [], _⟩] _ _) _) _ _ _); refine lcs_U (_F₀ := by k_asm) (by with_unfolding_all rfl) (by decide) (by rfl) (by decide) (by rfl) ?_) | ((with_reducible show wpAny _ _ (eval (Expr.ListComp _ [⟨Expr.Name _ _, _, [_], _⟩] _ _) _) _ _ _); refine lcs_T (_F₀ := by k_asm) (by with_unfolding_all rfl) (by decide) (by rfl) (by decide) (by rfl) ?_)))) | ((with_reducible show wpAny _ _ (eval (Expr.Name (Str.ofString "_law_goes") _) (compEnvC _ _ _ _)) _ _ _); with_reducible (k_dflt (refine' LCgL.ld_global (by k_asm) (by k_asm) (by k_asm) (by k_is) ?_))) | ((with_reducible show InPost ..); with_reducible (k_here; k_dflt (refine' ⟨_, _, rfl, (by k_asm), cb_drop (by k_asm) (by kcj_all), ?_⟩))) | ((with_reducible show wpAny _ _ (storeName _ _ _) _ _ _); with_reducible (k_here; (first | (with_reducible show wpAny _ _ (storeName _ (Str.ofString "good") _) _ _ _) | (with_reducible show wpAny _ _ (storeName _ (Str.ofString "level") _) _ _ _)); refine Hold.mk ?_)) | walk1 | (dsimp only; walk1) | (leave1; (try dsimp only)))
    rename Fr _ _ _ _ => F9; rename News _ _ _ _ => N9
    exact ⟨rfl, hK9 _ (hQ _ _ _ _ _ hgv hcG F9 (cb_drop N9 (by kcj_all)))⟩
end
end Mine
end
section
open PySem PySem.W PySem.Calls PyProof.Rows
set_option Elab.async false
set_option maxRecDepth 100000
set_option maxHeartbeats 40000000
namespace Mine
theorem anew_CSG3 : True := by
  w_top off
  exact True.intro
section
variable {w : World} {p : Program} {loose : List Str} {mean : ExcName → Option Value} {mg mb : Str → Option Value} {h₀ : Heap} {L : Nat} {fa : Addr} {cd : Value} {m : Str → Option Value} {w2 w1 : Obj} {Q : Flow → Shared → Prop} {E : Value → Shared → Prop} {s : Shared}
variable {text : Str} {tt tp tw tv tc td tn tT t2n t2 tkA tkB : Tok} {D B x1 d1 l1 x2 d2 l2 T T2 D2 R : Addr} {ys vs rv : List Value} {ns : List Int} {oB : Obj} {hs1 hs2 : Int} {k1 k2 rn : Nat} {bo to si : Value} {fr : Bool}
set_option maxHeartbeats 40000000
variable {ba en li re : Value} {bare e line nxt : Str} {tb te tli tre tl : Tok} {I c' G : Addr} {oI oc oL oG wG wL : Obj} {vs0 : Array Value} {t0 : Tok} {mZ : Str → Option Value} {dI : Int} {v0 vL v1 : Option Value} {gv : List Value}
theorem SG3 (hX : (hd.heap_39 w.params).In h₀) (hTp : Top p loose mean mg mb h₀) (hBl : Below callerA h₀ [] h₀) (hE : PassesOwn (model Challenge.rw_pm0051_01.row.prog w) (callerA.deeper (lawE L fa cd)) (lawE L fa cd) E) (hl0 : 242 < L)
    (hrv : StrsAre rv rowsF) (hcL : oL.data = .cell (some (.int 3 tl))) (hdG : wG.data = .cell v0) (hR3 : @Ne Nat R (L + 1 + 1 + 1)) (hI3 : @Ne Nat I (L + 1 + 1 + 1)) (hc3 : @Ne Nat c' (L + 1 + 1 + 1))
    (F4 : Fr h₀ L s.heap (m5 ba en li re (mD dI td (mR (.ref R) si mZ)))) (N4 : News h₀ L s.heap [(I, oI), (R, W.listOf rv.toArray rn), (c', oc), (242, tabObj #[rawInt 152, rawInt 29, .ref c']), (L + 1 + 1 + 1, wG), (L + 1 + 1, oL)])
    (hQ : ∀ h' tk G gv oG, StrsAre gv (goodL 3) → oG.data = .cell (some (.ref G)) → Fr h₀ L h' (m5 ba en li re (mD dI td (mR (.ref R) si mZ))) → News h₀ L h' [(R, W.listOf rv.toArray rn), (c', oc), (242, tabObj #[rawInt 152, rawInt 29, .ref c']), (L + 1 + 1 + 1, oG), (G, LCg.lst gv), (L + 1 + 1, oL), (I, oI)] → lvW w L fa cd 5 Q E { s with heap := h', toks := tk }) :
    lvW w L fa cd 4 Q E s := by
  revert hX; unfold lvW; k_fill; intro hX
  obtain ⟨h1, g1, n1, tk1, os1⟩ := s
  refine cutK 1 _ ?_
  intro K9 hK9
  dsimp only [lvB, forBody, lawB, lawRec, recOf, lawE, List.drop, List.take]
  dsimp only [lawE, lawRec, recOf] at hE
  have hHN : HoldNe := trivial
  repeat' (first | (k_unfold; (try dsimp only)) | (k_end; kc_close) | ((with_reducible show wpAny _ _ (exec (Stmt.Assign (_ :: _) (Expr.ListComp ..) _) _) _ _ _); (k_here; refine wpAny_Assign_Name ?_)) | ((with_reducible show wpAny _ _ (call (Value.ref 254) [Value.str _ _, Value.int _ _]) _ _ _); with_reducible (k_dflt (refine' c_goes _ _ _ _ (by omega) _ _ _ _ _ _ _ _ _ _ _ _ _ _ _ _ _ _ _ _ (by k_asm) (by k_asm) (by k_in) (by k_asm) (by k_asm) (by k_room) (by k_room) ?_); intro q9rv q9h' q9tk' q9nw q9hr q9F'; refine park2 q9rv q9nw ?_; intro q9Kp q9hKp; obtain ⟨q9en, q9er⟩ := q9hr; cases q9en; cases q9er; refine q9hKp _ _ ?_; clear q9hKp q9Kp; intro q9N')) | ((with_reducible show wpAny _ _ (eval (Expr.ListComp ..) _) _ _ _); with_reducible (k_here; k_dflt (first | ((with_reducible show wpAny _ _ (eval (Expr.ListComp _ [⟨Expr.Name _ _, _, [], _⟩] _ _) _) _ _ _); refine lcs_U (_F₀ := by k_asm) (by with_unfolding_all rfl) (by decide) (by rfl) (by decide) (by rfl) ?_) | ((with_reducible show wpAny _ _ (eval (Expr.ListComp _ [⟨Expr.Name _ _, _, [_], _⟩] _ _) _) _ _ _); refine lcs_T (_F₀ := by k_asm) (by with_unfolding_all rfl) (by decide) (by rfl) (by decide) (by rfl) ?_)))) | ((with_reducible show wpAny _ _ (eval (Expr.Name (Str.ofString "_law_goes") _) (compEnvC _ _ _ _)) _ _ _); with_reducible (k_dflt (refine' LCgL.ld_global (by k_asm) (by k_asm) (by k_asm) (by k_is) ?_))) | ((with_reducible show InPost ..); with_reducible (k_here; k_dflt (refine' ⟨_, _, rfl, (by k_asm), cb_drop (by k_asm) (by kcj_all), ?_⟩))) | ((with_reducible show wpAny _ _ (storeName _ _ _) _ _ _); with_reducible (k_here; (first | (with_reducible show wpAny _ _ (storeName _ (Str.ofString "good") _) _ _ _) | (with_reducible show wpAny _ _ (storeName _ (Str.ofString "level") _) _ _ _)); refine Hold.mk ?_)) | walk1 | (dsimp only; walk1) | (leave1; (try dsimp only)))
  rename Fr _ _ _ _ => F5; rename News _ _ _ _ => N5
  refine genT_of (its := rowsF) (fun r => goesF r 3) (fun z => z) rfl F5 N5 (inSrc_list rfl N5 (by k_mem)) (fun p hp => by rw [List.mem_singleton.mp hp]; k_mem) (listAt_of hrv) (size_of_strs hrv) (by rw [sizeLine_eq]; exact Nat.le_trans rows_len (by decide)) ?turnG ?finG
  case turnG =>
    intro z tz I2 oI2 C2 oC2 D2 m₂ zs' h tk E' hz hC hx F6 N6 off ne
    have hzl := rows_short z hz
    clear F5 N5
    repeat' (first | (k_unfold; (try dsimp only)) | (k_end; kc_close) | ((with_reducible show wpAny _ _ (exec (Stmt.Assign (_ :: _) (Expr.ListComp ..) _) _) _ _ _); (k_here; refine wpAny_Assign_Name ?_)) | ((with_reducible show wpAny _ _ (call (Value.ref 254) [Value.str _ _, Value.int _ _]) _ _ _); with_reducible (k_dflt (refine' c_goes _ _ _ _ (by omega) _ _ _ _ _ _ _ _ _ _ _ _ _ _ _ _ _ _ _ _ (by k_asm) (by k_asm) (by k_in) (by k_asm) (by k_asm) (by k_room) (by k_room) ?_); intro q9rv q9h' q9tk' q9nw q9hr q9F'; refine park2 q9rv q9nw ?_; intro q9Kp q9hKp; obtain ⟨q9en, q9er⟩ := q9hr; cases q9en; cases q9er; refine q9hKp _ _ ?_; clear q9hKp q9Kp; intro q9N')) | ((with_reducible show wpAny _ _ (eval (Expr.ListComp ..) _) _ _ _); with_reducible (k_here; k_dflt (first | ((with_reducible show wpAny _ _ (eval (Expr.ListComp _ [⟨Expr.Name _ _, _, [], _⟩] _ _) _) _ _ _); refine lcs_U (_F₀ := by k_asm) (by with_unfolding_all rfl) (by decide) (by rfl) (by decide) (by rfl) ?_) | ((with_reducible show wpAny _ _ (eval (Expr.ListComp _ [⟨Expr.Name _ _, _, [_], _⟩] _ _) _) _ _ _); refine lcs_T (_F₀ := by k_asm) (by with_unfolding_all rfl) (by decide) (by rfl) (by decide) (by rfl) ?_)))) | ((with_reducible show wpAny _ _ (eval (Expr.Name (Str.ofString "_law_goes") _) (compEnvC _ _ _ _)) _ _ _); with_reducible (k_dflt (refine' LCgL.ld_global (by k_asm) (by k_asm) (by k_asm) (by k_is) ?_))) | ((with_reducible show InPost ..); with_reducible (k_here; k_dflt (refine' ⟨_, _, rfl, (by k_asm), cb_drop (by k_asm) (by kcj_all), ?_⟩))) | ((with_reducible show wpAny _ _ (storeName _ _ _) _ _ _); with_reducible (k_here; (first | (with_reducible show wpAny _ _ (storeName _ (Str.ofString "good") _) _ _ _) | (with_reducible show wpAny _ _ (storeName _ (Str.ofString "level") _) _ _ _)); refine Hold.mk ?_)) | walk1 | (dsimp only; walk1) | (leave1; (try dsimp only)))
    all_goals first | exact IsText.mk | (dsimp only; with_reducible assumption)
  case finG =>
    intro q gv hgv
    rw [List.map_id', good_3] at hgv
    clear F5 N5
    repeat' (first | (k_unfold; (try dsimp only)) | (k_end; kc_close) | ((with_reducible show wpAny _ _ (exec (Stmt.Assign (_ :: _) (Expr.ListComp ..) _) _) _ _ _); (k_here; refine wpAny_Assign_Name ?_)) | ((with_reducible show wpAny _ _ (call (Value.ref 254) [Value.str _ _, Value.int _ _]) _ _ _); with_reducible (k_dflt (refine' c_goes _ _ _ _ (by omega) _ _ _ _ _ _ _ _ _ _ _ _ _ _ _ _ _ _ _ _ (by k_asm) (by k_asm) (by k_in) (by k_asm) (by k_asm) (by k_room) (by k_room) ?_); intro q9rv q9h' q9tk' q9nw q9hr q9F'; refine park2 q9rv q9nw ?_; intro q9Kp q9hKp; obtain ⟨q9en, q9er⟩ := q9hr; cases q9en; cases q9er; refine q9hKp _ _ ?_; clear q9hKp q9Kp; intro q9N')) | ((with_reducible show wpAny _ _ (eval (Expr.ListComp ..) _) _ _ _); with_reducible (k_here; k_dflt (first | ((with_reducible show wpAny _ _ (eval (Expr.ListComp _ [⟨Expr.Name _ _, _, [], _⟩] _ _) _) _ _ _); refine lcs_U (_F₀ := by k_asm) (by with_unfolding_all rfl) (by decide) (by rfl) (by decide) (by rfl) ?_) | ((with_reducible show wpAny _ _ (eval (Expr.ListComp _ [⟨Expr.Name _ _, _, [_], _⟩] _ _) _) _ _ _); refine lcs_T (_F₀ := by k_asm) (by with_unfolding_all rfl) (by decide) (by rfl) (by decide) (by rfl) ?_)))) | ((with_reducible show wpAny _ _ (eval (Expr.Name (Str.ofString "_law_goes") _) (compEnvC _ _ _ _)) _ _ _); with_reducible (k_dflt (refine' LCgL.ld_global (by k_asm) (by k_asm) (by k_asm) (by k_is) ?_))) | ((with_reducible show InPost ..); with_reducible (k_here; k_dflt (refine' ⟨_, _, rfl, (by k_asm), cb_drop (by k_asm) (by kcj_all), ?_⟩))) | ((with_reducible show wpAny _ _ (storeName _ _ _) _ _ _); with_reducible (k_here; (first | (with_reducible show wpAny _ _ (storeName _ (Str.ofString "good") _) _ _ _) | (with_reducible show wpAny _ _ (storeName _ (Str.ofString "level") _) _ _ _)); refine Hold.mk ?_)) | walk1 | (dsimp only; walk1) | (leave1; (try dsimp only)))
    unfold Hold
    rename Fr _ _ _ _ => F6; rename News _ _ _ _ => N6
    refine store_good [(R, W.listOf rv.toArray rn), (c', oc), (242, tabObj #[rawInt 152, rawInt 29, .ref c']), (I, oI)] F6 rfl N6 hcL (by k_mem) (by k_mem) (by k_mem) hdG (by kcj_all) ?hr rfl rfl ?_
    case hr => simp only [List.forall_mem_cons]; exact ⟨hR3, hc3, (cell_lt hl0).2, hI3, fun _ h => nomatch h⟩
    intro h6 oG F7 N7 hcG
    clear F6 N6
    try dsimp only
    repeat' (first | (k_unfold; (try dsimp only)) | (k_end; kc_close) | ((with_reducible show wpAny _ _ (exec (Stmt.Assign (_ :: _) (Expr.ListComp ..) _) _) _ _ _); (k_here; refine wpAny_Assign_Name ?_)) | ((with_reducible show wpAny _ _ (call (Value.ref 254) [Value.str _ _, Value.int _ _]) _ _ _); with_reducible (k_dflt (refine' c_goes _ _ _ _ (by omega) _ _ _ _ _ _ _ _ _ _ _ _ _ _ _ _ _ _ _ _ (by k_asm) (by k_asm) (by k_in) (by k_asm) (by k_asm) (by k_room) (by k_room) ?_); intro q9rv q9h' q9tk' q9nw q9hr q9F'; refine park2 q9rv q9nw ?_; intro q9Kp q9hKp; obtain ⟨q9en, q9er⟩ := q9hr; cases q9en; cases q9er; refine q9hKp _ _ ?_; clear q9hKp q9Kp; intro q9N')) | ((with_reducible show wpAny _ _ (eval (Expr.ListComp ..) _) _ _ _); with_reducible (k_here; k_dflt (first | ((with_reducible show wpAny _ _ (eval (Expr.ListComp _ [⟨Expr.Name _ _, _, [], _⟩] _ _) _) _ _ _); refine lcs_U (_F₀ := by k_asm) (by with_unfolding_all rfl) (by decide) (by rfl) (by decide) (by rfl) ?_) | ((with_reducible show wpAny _ _ (eval (Expr.ListComp _ [⟨Expr.Name _ _, _, [_], _⟩] _ _) _) _ _ _); refine lcs_T (_F₀ := by k_asm) (by with_unfolding_all rfl) (by decide) (by rfl) (by decide) (by rfl) ?_)))) | ((with_reducible show wpAny _ _ (eval (Expr.Name (Str.ofString "_law_goes") _) (compEnvC _ _ _ _)) _ _ _); with_reducible (k_dflt (refine' LCgL.ld_global (by k_asm) (by k_asm) (by k_asm) (by k_is) ?_))) | ((with_reducible show InPost ..); with_reducible (k_here; k_dflt (refine' ⟨_, _, rfl, (by k_asm), cb_drop (by k_asm) (by kcj_all), ?_⟩))) | ((with_reducible show wpAny _ _ (storeName _ _ _) _ _ _); with_reducible (k_here; (first | (with_reducible show wpAny _ _ (storeName _ (Str.ofString "good") _) _ _ _) | (with_reducible show wpAny _ _ (storeName _ (Str.ofString "level") _) _ _ _)); refine Hold.mk ?_)) | walk1 | (dsimp only; walk1) | (leave1; (try dsimp only)))
    rename Fr _ _ _ _ => F9; rename News _ _ _ _ => N9
    exact ⟨rfl, hK9 _ (hQ _ _ _ _ _ hgv hcG F9 (cb_drop N9 (by kcj_all)))⟩
end
end Mine
end
section
open PySem PySem.W PySem.Calls PyProof.Rows
set_option Elab.async false
set_option maxRecDepth 100000
set_option maxHeartbeats 40000000
namespace Mine
theorem anew_CSH1 : True := by
  w_top off
  exact True.intro
section
variable {w : World} {p : Program} {loose : List Str} {mean : ExcName → Option Value} {mg mb : Str → Option Value} {h₀ : Heap} {L : Nat} {fa : Addr} {cd : Value} {m : Str → Option Value} {w2 w1 : Obj} {Q : Flow → Shared → Prop} {E : Value → Shared → Prop} {s : Shared}
variable {text : Str} {tt tp tw tv tc td tn tT t2n t2 tkA tkB : Tok} {D B x1 d1 l1 x2 d2 l2 T T2 D2 R : Addr} {ys vs rv : List Value} {ns : List Int} {oB : Obj} {hs1 hs2 : Int} {k1 k2 rn : Nat} {bo to si : Value} {fr : Bool}
set_option maxHeartbeats 40000000
variable {ba en li re : Value} {bare e line nxt : Str} {tb te tli tre tl : Tok} {I c' G : Addr} {oI oc oL oG wG wL : Obj} {vs0 : Array Value} {t0 : Tok} {mZ : Str → Option Value} {dI : Int} {v0 vL v1 : Option Value} {gv : List Value}
theorem SH1 (hX : (hd.heap_39 w.params).In h₀) (hTp : Top p loose mean mg mb h₀) (hBl : Below callerA h₀ [] h₀) (hCh : CodeHd h₀ 246 242) (hE : PassesOwn (model Challenge.rw_pm0051_01.row.prog w) (callerA.deeper (lawE L fa cd)) (lawE L fa cd) E) (hl0 : 242 < L)
    (hrv : StrsAre rv rowsF) (hR242 : R ≠ 242) (hoff : ∀ p ∈ [(R, W.listOf rv.toArray rn), (242, tabObj #[]), (L + 1 + 1 + 1, wG), (L + 1 + 1, wL)], p.1 ≠ I) (hcL : oL.data = .cell (some (.int 1 tl))) (hcG : oG.data = .cell (some (.ref G))) (hgS : StrsAre gv (goodL 1))
    (hE1 : ∀ row, (replAll line (pairsOf row) == bare) = goesF row 1) (hll : ¬ 1000 < line.length)
    (F5 : Fr h₀ L s.heap (m5 (.str bare tb) (.str e te) (.str line tli) (.str nxt tre) (mD dI td (mR (.ref R) si mZ)))) (N5 : News h₀ L s.heap [(R, W.listOf rv.toArray rn), (242, tabObj #[]), (L + 1 + 1 + 1, oG), (G, LCg.lst gv), (L + 1 + 1, oL), (I, oI)])
    (hQ : ∀ h' tk, ∀ c' oc vs0 t0, oc.data = .fields vs0 → vs0[1]? = some (.str lamQ t0) → Fr h₀ L h' (m5 (.str bare tb) (.str e te) (.str line tli) (.str nxt tre) (mD dI td (mR (.ref R) si mZ))) → News h₀ L h' ((I, oI) :: [(R, W.listOf rv.toArray rn), (c', oc), (242, tabObj #[rawInt 152, rawInt 29, .ref c']), (L + 1 + 1 + 1, oG), (L + 1 + 1, oL)]) → (∀ p ∈ [(R, W.listOf rv.toArray rn), (c', oc), (242, tabObj #[rawInt 152, rawInt 29, .ref c']), (L + 1 + 1 + 1, oG), (L + 1 + 1, oL)], p.1 ≠ I) → Q .next { s with heap := h', toks := tk }) :
    lvW w L fa cd 5 Q E s := by
  revert hX; unfold lvW; k_fill; intro hX
  obtain ⟨h1, g1, n1, tk1, os1⟩ := s
  dsimp only [lvB, forBody, lawB, lawRec, recOf, lawE, List.drop, List.take]
  dsimp only [lawE, lawRec, recOf] at hE
  have hHN : HoldNe := trivial
  have hgv := hgS
  obtain ⟨tg0, tg1, tg2, rfl⟩ := strs_three hgv
  clear hgv
  have hR2 : R ≠ 242 := hR242
  have hpo := part_off N5 hl0 (hoff (242, _) (.tail _ (.head _)))
  repeat' (first | (k_unfold; (try dsimp only)) | (k_end; kc_close) | ((with_reducible show wpAny _ _ (compareOp CmpOp.NotEq (Value.ref _) (Value.ref _)) _ _ _); with_reducible ((with_reducible rename HoldNe => q9hHN); refine Hold.mk ?_)) | ((with_reducible show wpAny _ _ (compareOp CmpOp.NotEq (Value.str _ _) (Value.str _ _)) _ _ _); with_reducible ((with_reducible rename HoldNe => q9hHN); first | (with_reducible refine ne_str_of rfl ?_) | refine Hold.mk ?_)) | ((with_reducible show wpAny _ _ (compareOp CmpOp.NotIn (Value.str _ _) (Value.ref _)) _ _ _); with_reducible (k_dflt (refine' notin_list_strs (by exact News.isList (by k_asm) (by k_mem)) (by with_reducible assumption) ?_; k_whole))) | ((with_reducible show wpAny _ _ (call (Value.ref _) _ _) _ _ _); with_reducible (k_here; (first | (with_reducible show wpAny _ _ (call (Value.ref 228) _) _ _ _) | (with_reducible show wpAny _ _ (call (Value.ref 247) _) _ _ _) | (with_reducible show wpAny _ _ (call (Value.ref 240) _) _ _ _)); refine Hold.mk ?_)) | ((with_reducible show wpAny _ _ (call (Value.ref 233) _) _ _ _); with_reducible (refine Hold.mk ?_)) | ((with_reducible show wpAny _ _ (eval (Expr.ListComp ..) _) _ _ _); with_reducible (k_here; k_dflt (first | ((with_reducible show wpAny _ _ (eval (Expr.ListComp _ [⟨Expr.Name _ _, _, [], _⟩] _ _) _) _ _ _); refine lcs_U (_F₀ := by k_asm) (by with_unfolding_all rfl) (by decide) (by rfl) (by decide) (by rfl) ?_) | ((with_reducible show wpAny _ _ (eval (Expr.ListComp _ [⟨Expr.Name _ _, _, [_], _⟩] _ _) _) _ _ _); refine lcs_T (_F₀ := by k_asm) (by with_unfolding_all rfl) (by decide) (by rfl) (by decide) (by rfl) ?_)))) | ((with_reducible show wpAny _ _ (subscriptTail (Expr.Call _ _ _ _) _ (Value.ref _) (Value.ref _)) _ _ _); with_reducible ((with_reducible rename HoldNe => q9hHN); k_dflt (refine kba_turn (value' := Expr.Name (Str.ofString "_") ⟨0, 0, 0, 0⟩) (fun _ => rfl) ?_))) | ((with_reducible show InPost ..); with_reducible (k_here; k_dflt (refine' ⟨_, _, rfl, (by k_asm), cb_drop (by k_asm) (by kcj_all), ?_⟩))) | ((with_reducible show wpAny _ _ (newList ..) _ _ _); with_reducible (k_here; k_dflt (refine' newList_K (by k_asm) (by k_asm) ?_ (by first | exact Nat.zero_le _ | exact Nat.le_of_ble_eq_true rfl | size_fits); k_whole); intro q9l' q9h' q9F' q9N' q9l1; (try k_lt q9l1); (try k_sweep))) | walk1 | (dsimp only; walk1) | (leave1; (try dsimp only)))
  rename News _ _ _ _ => N6
  have N7 : News _ _ _ ((R, { cls := .type "list", data := .seq rv.toArray rn }) :: (242, tabObj #[]) :: _) := N6
  ((unfold Hold; k_dflt (refine' c_partedN _ _ _ _ _ _ _ _ ?a1 rows_len rows_short ?a4 ?a5 ?a6 _ _ _ _ _ _ _ _ _ _ _ _ _ _ _ _ _ _ _ _ ?B ?F ?X ?N ?T ?C ?d ?u ?_; (case B => k_asm); (case F => k_asm); (case X => k_in); (case N => with_reducible assumption); (case T => k_asm); (case d => first | exact Nat.le_of_ble_eq_true rfl | ktr_room); (case u => first | exact Nat.le_of_ble_eq_true rfl | ktr_room); (case C => k_asm); (case a1 => with_reducible assumption); (case a4 => exact Nat.not_lt.mp (by with_reducible assumption)); (case a5 => with_reducible assumption); (case a6 => with_reducible assumption))))
  intro rv' h6 tk6 nw hr F8; refine park2 rv' nw ?_; intro Kp hKp; obtain ⟨Dp, no, yes, c', oc, py, pn, ky, kn, vs0, t0, rfl, rfl, spy, spn, hoc, hov, hcc⟩ := hr; refine hKp _ _ ?_; clear hKp Kp; intro N8
  simp only [hE1] at spy spn
  rw [good_1] at spy
  rw [rest_1] at spn
  try dsimp only
  clear hE1 N6 N7
  repeat' (first | (k_unfold; (try dsimp only)) | (k_end; kc_close) | ((with_reducible show wpAny _ _ (compareOp CmpOp.NotEq (Value.ref _) (Value.ref _)) _ _ _); with_reducible ((with_reducible rename HoldNe => q9hHN); refine Hold.mk ?_)) | ((with_reducible show wpAny _ _ (compareOp CmpOp.NotEq (Value.str _ _) (Value.str _ _)) _ _ _); with_reducible ((with_reducible rename HoldNe => q9hHN); first | (with_reducible refine ne_str_of rfl ?_) | refine Hold.mk ?_)) | ((with_reducible show wpAny _ _ (compareOp CmpOp.NotIn (Value.str _ _) (Value.ref _)) _ _ _); with_reducible (k_dflt (refine' notin_list_strs (by exact News.isList (by k_asm) (by k_mem)) (by with_reducible assumption) ?_; k_whole))) | ((with_reducible show wpAny _ _ (call (Value.ref _) _ _) _ _ _); with_reducible (k_here; (first | (with_reducible show wpAny _ _ (call (Value.ref 228) _) _ _ _) | (with_reducible show wpAny _ _ (call (Value.ref 247) _) _ _ _) | (with_reducible show wpAny _ _ (call (Value.ref 240) _) _ _ _)); refine Hold.mk ?_)) | ((with_reducible show wpAny _ _ (call (Value.ref 233) _) _ _ _); with_reducible (refine Hold.mk ?_)) | ((with_reducible show wpAny _ _ (eval (Expr.ListComp ..) _) _ _ _); with_reducible (k_here; k_dflt (first | ((with_reducible show wpAny _ _ (eval (Expr.ListComp _ [⟨Expr.Name _ _, _, [], _⟩] _ _) _) _ _ _); refine lcs_U (_F₀ := by k_asm) (by with_unfolding_all rfl) (by decide) (by rfl) (by decide) (by rfl) ?_) | ((with_reducible show wpAny _ _ (eval (Expr.ListComp _ [⟨Expr.Name _ _, _, [_], _⟩] _ _) _) _ _ _); refine lcs_T (_F₀ := by k_asm) (by with_unfolding_all rfl) (by decide) (by rfl) (by decide) (by rfl) ?_)))) | ((with_reducible show wpAny _ _ (subscriptTail (Expr.Call _ _ _ _) _ (Value.ref _) (Value.ref _)) _ _ _); with_reducible ((with_reducible rename HoldNe => q9hHN); k_dflt (refine kba_turn (value' := Expr.Name (Str.ofString "_") ⟨0, 0, 0, 0⟩) (fun _ => rfl) ?_))) | ((with_reducible show InPost ..); with_reducible (k_here; k_dflt (refine' ⟨_, _, rfl, (by k_asm), cb_drop (by k_asm) (by kcj_all), ?_⟩))) | ((with_reducible show wpAny _ _ (newList ..) _ _ _); with_reducible (k_here; k_dflt (refine' newList_K (by k_asm) (by k_asm) ?_ (by first | exact Nat.zero_le _ | exact Nat.le_of_ble_eq_true rfl | size_fits); k_whole); intro q9l' q9h' q9F' q9N' q9l1; (try k_lt q9l1); (try k_sweep))) | walk1 | (dsimp only; walk1) | (leave1; (try dsimp only)))
  rename Fr _ _ _ _ => F9; rename News _ _ _ _ => N9
  refine genT_of (its := rowsF) (fun z => !((goodL 1).any fun x => x == z)) (fun z => z) rfl F9 N9 (inSrc_list rfl N9 (by k_mem)) (fun p hp => by rw [List.mem_singleton.mp hp]; k_mem) (listAt_of hrv) (size_of_strs hrv) (by rw [sizeLine_eq]; exact Nat.le_trans rows_len (by decide)) ?turnN ?finN
  case turnN =>
    intro z tz I2 oI2 C2 oC2 D2 m₂ zs' h tk E' hz hC hx F6 N6 off ne
    clear F9 N9 spy spn hrv
    repeat' (first | (k_unfold; (try dsimp only)) | (k_end; kc_close) | ((with_reducible show wpAny _ _ (compareOp CmpOp.NotEq (Value.ref _) (Value.ref _)) _ _ _); with_reducible ((with_reducible rename HoldNe => q9hHN); refine Hold.mk ?_)) | ((with_reducible show wpAny _ _ (compareOp CmpOp.NotEq (Value.str _ _) (Value.str _ _)) _ _ _); with_reducible ((with_reducible rename HoldNe => q9hHN); first | (with_reducible refine ne_str_of rfl ?_) | refine Hold.mk ?_)) | ((with_reducible show wpAny _ _ (compareOp CmpOp.NotIn (Value.str _ _) (Value.ref _)) _ _ _); with_reducible (k_dflt (refine' notin_list_strs (by exact News.isList (by k_asm) (by k_mem)) (by with_reducible assumption) ?_; k_whole))) | ((with_reducible show wpAny _ _ (call (Value.ref _) _ _) _ _ _); with_reducible (k_here; (first | (with_reducible show wpAny _ _ (call (Value.ref 228) _) _ _ _) | (with_reducible show wpAny _ _ (call (Value.ref 247) _) _ _ _) | (with_reducible show wpAny _ _ (call (Value.ref 240) _) _ _ _)); refine Hold.mk ?_)) | ((with_reducible show wpAny _ _ (call (Value.ref 233) _) _ _ _); with_reducible (refine Hold.mk ?_)) | ((with_reducible show wpAny _ _ (eval (Expr.ListComp ..) _) _ _ _); with_reducible (k_here; k_dflt (first | ((with_reducible show wpAny _ _ (eval (Expr.ListComp _ [⟨Expr.Name _ _, _, [], _⟩] _ _) _) _ _ _); refine lcs_U (_F₀ := by k_asm) (by with_unfolding_all rfl) (by decide) (by rfl) (by decide) (by rfl) ?_) | ((with_reducible show wpAny _ _ (eval (Expr.ListComp _ [⟨Expr.Name _ _, _, [_], _⟩] _ _) _) _ _ _); refine lcs_T (_F₀ := by k_asm) (by with_unfolding_all rfl) (by decide) (by rfl) (by decide) (by rfl) ?_)))) | ((with_reducible show wpAny _ _ (subscriptTail (Expr.Call _ _ _ _) _ (Value.ref _) (Value.ref _)) _ _ _); with_reducible ((with_reducible rename HoldNe => q9hHN); k_dflt (refine kba_turn (value' := Expr.Name (Str.ofString "_") ⟨0, 0, 0, 0⟩) (fun _ => rfl) ?_))) | ((with_reducible show InPost ..); with_reducible (k_here; k_dflt (refine' ⟨_, _, rfl, (by k_asm), cb_drop (by k_asm) (by kcj_all), ?_⟩))) | ((with_reducible show wpAny _ _ (newList ..) _ _ _); with_reducible (k_here; k_dflt (refine' newList_K (by k_asm) (by k_asm) ?_ (by first | exact Nat.zero_le _ | exact Nat.le_of_ble_eq_true rfl | size_fits); k_whole); intro q9l' q9h' q9F' q9N' q9l1; (try k_lt q9l1); (try k_sweep))) | walk1 | (dsimp only; walk1) | (leave1; (try dsimp only)))
    all_goals first
      | exact IsText.mk
      | (rename (!(List.any (goodL 1) _)) = false => hx; exact hx)
      | (rename (List.any (goodL 1) _) = true => hx; show (!(List.any (goodL 1) _)) = false; rw [hx]; rfl)
      | (dsimp only; with_reducible assumption)
  case finN =>
    intro q kv hkv
    rw [List.map_id'] at hkv
    clear F9 N9
    repeat' (first | (k_unfold; (try dsimp only)) | (k_end; kc_close) | ((with_reducible show wpAny _ _ (compareOp CmpOp.NotEq (Value.ref _) (Value.ref _)) _ _ _); with_reducible ((with_reducible rename HoldNe => q9hHN); refine Hold.mk ?_)) | ((with_reducible show wpAny _ _ (compareOp CmpOp.NotEq (Value.str _ _) (Value.str _ _)) _ _ _); with_reducible ((with_reducible rename HoldNe => q9hHN); first | (with_reducible refine ne_str_of rfl ?_) | refine Hold.mk ?_)) | ((with_reducible show wpAny _ _ (compareOp CmpOp.NotIn (Value.str _ _) (Value.ref _)) _ _ _); with_reducible (k_dflt (refine' notin_list_strs (by exact News.isList (by k_asm) (by k_mem)) (by with_reducible assumption) ?_; k_whole))) | ((with_reducible show wpAny _ _ (call (Value.ref _) _ _) _ _ _); with_reducible (k_here; (first | (with_reducible show wpAny _ _ (call (Value.ref 228) _) _ _ _) | (with_reducible show wpAny _ _ (call (Value.ref 247) _) _ _ _) | (with_reducible show wpAny _ _ (call (Value.ref 240) _) _ _ _)); refine Hold.mk ?_)) | ((with_reducible show wpAny _ _ (call (Value.ref 233) _) _ _ _); with_reducible (refine Hold.mk ?_)) | ((with_reducible show wpAny _ _ (eval (Expr.ListComp ..) _) _ _ _); with_reducible (k_here; k_dflt (first | ((with_reducible show wpAny _ _ (eval (Expr.ListComp _ [⟨Expr.Name _ _, _, [], _⟩] _ _) _) _ _ _); refine lcs_U (_F₀ := by k_asm) (by with_unfolding_all rfl) (by decide) (by rfl) (by decide) (by rfl) ?_) | ((with_reducible show wpAny _ _ (eval (Expr.ListComp _ [⟨Expr.Name _ _, _, [_], _⟩] _ _) _) _ _ _); refine lcs_T (_F₀ := by k_asm) (by with_unfolding_all rfl) (by decide) (by rfl) (by decide) (by rfl) ?_)))) | ((with_reducible show wpAny _ _ (subscriptTail (Expr.Call _ _ _ _) _ (Value.ref _) (Value.ref _)) _ _ _); with_reducible ((with_reducible rename HoldNe => q9hHN); k_dflt (refine kba_turn (value' := Expr.Name (Str.ofString "_") ⟨0, 0, 0, 0⟩) (fun _ => rfl) ?_))) | ((with_reducible show InPost ..); with_reducible (k_here; k_dflt (refine' ⟨_, _, rfl, (by k_asm), cb_drop (by k_asm) (by kcj_all), ?_⟩))) | ((with_reducible show wpAny _ _ (newList ..) _ _ _); with_reducible (k_here; k_dflt (refine' newList_K (by k_asm) (by k_asm) ?_ (by first | exact Nat.zero_le _ | exact Nat.le_of_ble_eq_true rfl | size_fits); k_whole); intro q9l' q9h' q9F' q9N' q9l1; (try k_lt q9l1); (try k_sweep))) | walk1 | (dsimp only; walk1) | (leave1; (try dsimp only)))
    unfold Hold
    rename News _ _ _ _ => N12
    refine ne_parted N12 (by k_mem) (by k_mem) (by k_mem) (by k_mem) (by k_mem) (by k_mem) spy spn hgS hkv (good_in 1 good_1.symm) (fun x hx => rows_ok x (List.mem_filter.mp hx).1) (by ke_room) ?_
    repeat' (first | (k_unfold; (try dsimp only)) | (k_end; kc_close) | ((with_reducible show wpAny _ _ (compareOp CmpOp.NotEq (Value.ref _) (Value.ref _)) _ _ _); with_reducible ((with_reducible rename HoldNe => q9hHN); refine Hold.mk ?_)) | ((with_reducible show wpAny _ _ (compareOp CmpOp.NotEq (Value.str _ _) (Value.str _ _)) _ _ _); with_reducible ((with_reducible rename HoldNe => q9hHN); first | (with_reducible refine ne_str_of rfl ?_) | refine Hold.mk ?_)) | ((with_reducible show wpAny _ _ (compareOp CmpOp.NotIn (Value.str _ _) (Value.ref _)) _ _ _); with_reducible (k_dflt (refine' notin_list_strs (by exact News.isList (by k_asm) (by k_mem)) (by with_reducible assumption) ?_; k_whole))) | ((with_reducible show wpAny _ _ (call (Value.ref _) _ _) _ _ _); with_reducible (k_here; (first | (with_reducible show wpAny _ _ (call (Value.ref 228) _) _ _ _) | (with_reducible show wpAny _ _ (call (Value.ref 247) _) _ _ _) | (with_reducible show wpAny _ _ (call (Value.ref 240) _) _ _ _)); refine Hold.mk ?_)) | ((with_reducible show wpAny _ _ (call (Value.ref 233) _) _ _ _); with_reducible (refine Hold.mk ?_)) | ((with_reducible show wpAny _ _ (eval (Expr.ListComp ..) _) _ _ _); with_reducible (k_here; k_dflt (first | ((with_reducible show wpAny _ _ (eval (Expr.ListComp _ [⟨Expr.Name _ _, _, [], _⟩] _ _) _) _ _ _); refine lcs_U (_F₀ := by k_asm) (by with_unfolding_all rfl) (by decide) (by rfl) (by decide) (by rfl) ?_) | ((with_reducible show wpAny _ _ (eval (Expr.ListComp _ [⟨Expr.Name _ _, _, [_], _⟩] _ _) _) _ _ _); refine lcs_T (_F₀ := by k_asm) (by with_unfolding_all rfl) (by decide) (by rfl) (by decide) (by rfl) ?_)))) | ((with_reducible show wpAny _ _ (subscriptTail (Expr.Call _ _ _ _) _ (Value.ref _) (Value.ref _)) _ _ _); with_reducible ((with_reducible rename HoldNe => q9hHN); k_dflt (refine kba_turn (value' := Expr.Name (Str.ofString "_") ⟨0, 0, 0, 0⟩) (fun _ => rfl) ?_))) | ((with_reducible show InPost ..); with_reducible (k_here; k_dflt (refine' ⟨_, _, rfl, (by k_asm), cb_drop (by k_asm) (by kcj_all), ?_⟩))) | ((with_reducible show wpAny _ _ (newList ..) _ _ _); with_reducible (k_here; k_dflt (refine' newList_K (by k_asm) (by k_asm) ?_ (by first | exact Nat.zero_le _ | exact Nat.le_of_ble_eq_true rfl | size_fits); k_whole); intro q9l' q9h' q9F' q9N' q9l1; (try k_lt q9l1); (try k_sweep))) | walk1 | (dsimp only; walk1) | (leave1; (try dsimp only)))
    ((unfold Hold; k_dflt (refine' c_pairs _ _ ?pa _ _ _ _ _ _ _ _ _ _ _ _ _ _ _ _ _ _ _ _ ?B ?F ?X ?N ?T ?d ?u ?_; (case B => k_asm); (case F => k_asm); (case X => k_in); (case N => k_asm); (case T => k_asm); (case d => first | exact Nat.le_of_ble_eq_true rfl | ktr_room); (case u => first | exact Nat.le_of_ble_eq_true rfl | ktr_room); (case pa => exact Nat.le_of_ble_eq_true rfl))))
    intro rv2 h7 tk7 nw2 hr F13; refine park2 rv2 nw2 ?_; intro Kp hKp; obtain ⟨pD, pv, rfl, rfl, pS, pO⟩ := hr; refine hKp _ _ ?_; clear hKp Kp; intro N13
    rw [pairs_1] at pS
    obtain ⟨us0, us1, us2, us3, rfl⟩ := strs_four pS
    clear pS
    try dsimp only
    repeat' (first | (k_unfold; (try dsimp only)) | (k_end; kc_close) | ((with_reducible show wpAny _ _ (compareOp CmpOp.NotEq (Value.ref _) (Value.ref _)) _ _ _); with_reducible ((with_reducible rename HoldNe => q9hHN); refine Hold.mk ?_)) | ((with_reducible show wpAny _ _ (compareOp CmpOp.NotEq (Value.str _ _) (Value.str _ _)) _ _ _); with_reducible ((with_reducible rename HoldNe => q9hHN); first | (with_reducible refine ne_str_of rfl ?_) | refine Hold.mk ?_)) | ((with_reducible show wpAny _ _ (compareOp CmpOp.NotIn (Value.str _ _) (Value.ref _)) _ _ _); with_reducible (k_dflt (refine' notin_list_strs (by exact News.isList (by k_asm) (by k_mem)) (by with_reducible assumption) ?_; k_whole))) | ((with_reducible show wpAny _ _ (call (Value.ref _) _ _) _ _ _); with_reducible (k_here; (first | (with_reducible show wpAny _ _ (call (Value.ref 228) _) _ _ _) | (with_reducible show wpAny _ _ (call (Value.ref 247) _) _ _ _) | (with_reducible show wpAny _ _ (call (Value.ref 240) _) _ _ _)); refine Hold.mk ?_)) | ((with_reducible show wpAny _ _ (call (Value.ref 233) _) _ _ _); with_reducible (refine Hold.mk ?_)) | ((with_reducible show wpAny _ _ (eval (Expr.ListComp ..) _) _ _ _); with_reducible (k_here; k_dflt (first | ((with_reducible show wpAny _ _ (eval (Expr.ListComp _ [⟨Expr.Name _ _, _, [], _⟩] _ _) _) _ _ _); refine lcs_U (_F₀ := by k_asm) (by with_unfolding_all rfl) (by decide) (by rfl) (by decide) (by rfl) ?_) | ((with_reducible show wpAny _ _ (eval (Expr.ListComp _ [⟨Expr.Name _ _, _, [_], _⟩] _ _) _) _ _ _); refine lcs_T (_F₀ := by k_asm) (by with_unfolding_all rfl) (by decide) (by rfl) (by decide) (by rfl) ?_)))) | ((with_reducible show wpAny _ _ (subscriptTail (Expr.Call _ _ _ _) _ (Value.ref _) (Value.ref _)) _ _ _); with_reducible ((with_reducible rename HoldNe => q9hHN); k_dflt (refine kba_turn (value' := Expr.Name (Str.ofString "_") ⟨0, 0, 0, 0⟩) (fun _ => rfl) ?_))) | ((with_reducible show InPost ..); with_reducible (k_here; k_dflt (refine' ⟨_, _, rfl, (by k_asm), cb_drop (by k_asm) (by kcj_all), ?_⟩))) | ((with_reducible show wpAny _ _ (newList ..) _ _ _); with_reducible (k_here; k_dflt (refine' newList_K (by k_asm) (by k_asm) ?_ (by first | exact Nat.zero_le _ | exact Nat.le_of_ble_eq_true rfl | size_fits); k_whole); intro q9l' q9h' q9F' q9N' q9l1; (try k_lt q9l1); (try k_sweep))) | walk1 | (dsimp only; walk1) | (leave1; (try dsimp only)))
    ((unfold Hold; k_dflt (refine' c_kindS1 _ _ _ _ _ _ _ _ _ _ ?a1 ok_slash _ _ _ _ _ _ _ _ _ _ _ _ _ _ _ _ _ _ ?B ?F ?X ?N ?T ?d ?u ?_; (case B => k_asm); (case F => k_asm); (case X => k_in); (case N => k_asm); (case T => k_asm); (case d => first | exact Nat.le_of_ble_eq_true rfl | ktr_room); (case u => first | exact Nat.le_of_ble_eq_true rfl | ktr_room); (case a1 => exact Nat.not_lt.mp (by with_reducible assumption)))))
    intro rv3 h8 tk8 nw3 hr F14; refine park2 rv3 nw3 ?_; intro Kp hKp; obtain ⟨tS, rfl, rfl⟩ := hr; refine hKp _ _ ?_; clear hKp Kp; intro N14
    try dsimp only
    repeat' (first | (k_unfold; (try dsimp only)) | (k_end; kc_close) | ((with_reducible show wpAny _ _ (compareOp CmpOp.NotEq (Value.ref _) (Value.ref _)) _ _ _); with_reducible ((with_reducible rename HoldNe => q9hHN); refine Hold.mk ?_)) | ((with_reducible show wpAny _ _ (compareOp CmpOp.NotEq (Value.str _ _) (Value.str _ _)) _ _ _); with_reducible ((with_reducible rename HoldNe => q9hHN); first | (with_reducible refine ne_str_of rfl ?_) | refine Hold.mk ?_)) | ((with_reducible show wpAny _ _ (compareOp CmpOp.NotIn (Value.str _ _) (Value.ref _)) _ _ _); with_reducible (k_dflt (refine' notin_list_strs (by exact News.isList (by k_asm) (by k_mem)) (by with_reducible assumption) ?_; k_whole))) | ((with_reducible show wpAny _ _ (call (Value.ref _) _ _) _ _ _); with_reducible (k_here; (first | (with_reducible show wpAny _ _ (call (Value.ref 228) _) _ _ _) | (with_reducible show wpAny _ _ (call (Value.ref 247) _) _ _ _) | (with_reducible show wpAny _ _ (call (Value.ref 240) _) _ _ _)); refine Hold.mk ?_)) | ((with_reducible show wpAny _ _ (call (Value.ref 233) _) _ _ _); with_reducible (refine Hold.mk ?_)) | ((with_reducible show wpAny _ _ (eval (Expr.ListComp ..) _) _ _ _); with_reducible (k_here; k_dflt (first | ((with_reducible show wpAny _ _ (eval (Expr.ListComp _ [⟨Expr.Name _ _, _, [], _⟩] _ _) _) _ _ _); refine lcs_U (_F₀ := by k_asm) (by with_unfolding_all rfl) (by decide) (by rfl) (by decide) (by rfl) ?_) | ((with_reducible show wpAny _ _ (eval (Expr.ListComp _ [⟨Expr.Name _ _, _, [_], _⟩] _ _) _) _ _ _); refine lcs_T (_F₀ := by k_asm) (by with_unfolding_all rfl) (by decide) (by rfl) (by decide) (by rfl) ?_)))) | ((with_reducible show wpAny _ _ (subscriptTail (Expr.Call _ _ _ _) _ (Value.ref _) (Value.ref _)) _ _ _); with_reducible ((with_reducible rename HoldNe => q9hHN); k_dflt (refine kba_turn (value' := Expr.Name (Str.ofString "_") ⟨0, 0, 0, 0⟩) (fun _ => rfl) ?_))) | ((with_reducible show InPost ..); with_reducible (k_here; k_dflt (refine' ⟨_, _, rfl, (by k_asm), cb_drop (by k_asm) (by kcj_all), ?_⟩))) | ((with_reducible show wpAny _ _ (newList ..) _ _ _); with_reducible (k_here; k_dflt (refine' newList_K (by k_asm) (by k_asm) ?_ (by first | exact Nat.zero_le _ | exact Nat.le_of_ble_eq_true rfl | size_fits); k_whole); intro q9l' q9h' q9F' q9N' q9l1; (try k_lt q9l1); (try k_sweep))) | walk1 | (dsimp only; walk1) | (leave1; (try dsimp only)))
    ((unfold Hold; k_dflt (refine' c_kindE _ _ _ _ _ _ ?a1 _ _ _ _ _ _ _ _ _ _ _ _ _ _ _ _ _ _ ?B ?F ?X ?N ?T ?d ?u ?_; (case B => k_asm); (case F => k_asm); (case X => k_in); (case N => k_asm); (case T => k_asm); (case d => first | exact Nat.le_of_ble_eq_true rfl | ktr_room); (case u => first | exact Nat.le_of_ble_eq_true rfl | ktr_room); (case a1 => exact Nat.not_lt.mp (by with_reducible assumption)))))
    intro rv4 h9 tk9 nw4 hr F15; refine park2 rv4 nw4 ?_; intro Kp hKp; obtain ⟨tE, rfl, rfl⟩ := hr; refine hKp _ _ ?_; clear hKp Kp; intro N15
    try dsimp only
    repeat' (first | (k_unfold; (try dsimp only)) | (k_end; kc_close) | ((with_reducible show wpAny _ _ (compareOp CmpOp.NotEq (Value.ref _) (Value.ref _)) _ _ _); with_reducible ((with_reducible rename HoldNe => q9hHN); refine Hold.mk ?_)) | ((with_reducible show wpAny _ _ (compareOp CmpOp.NotEq (Value.str _ _) (Value.str _ _)) _ _ _); with_reducible ((with_reducible rename HoldNe => q9hHN); first | (with_reducible refine ne_str_of rfl ?_) | refine Hold.mk ?_)) | ((with_reducible show wpAny _ _ (compareOp CmpOp.NotIn (Value.str _ _) (Value.ref _)) _ _ _); with_reducible (k_dflt (refine' notin_list_strs (by exact News.isList (by k_asm) (by k_mem)) (by with_reducible assumption) ?_; k_whole))) | ((with_reducible show wpAny _ _ (call (Value.ref _) _ _) _ _ _); with_reducible (k_here; (first | (with_reducible show wpAny _ _ (call (Value.ref 228) _) _ _ _) | (with_reducible show wpAny _ _ (call (Value.ref 247) _) _ _ _) | (with_reducible show wpAny _ _ (call (Value.ref 240) _) _ _ _)); refine Hold.mk ?_)) | ((with_reducible show wpAny _ _ (call (Value.ref 233) _) _ _ _); with_reducible (refine Hold.mk ?_)) | ((with_reducible show wpAny _ _ (eval (Expr.ListComp ..) _) _ _ _); with_reducible (k_here; k_dflt (first | ((with_reducible show wpAny _ _ (eval (Expr.ListComp _ [⟨Expr.Name _ _, _, [], _⟩] _ _) _) _ _ _); refine lcs_U (_F₀ := by k_asm) (by with_unfolding_all rfl) (by decide) (by rfl) (by decide) (by rfl) ?_) | ((with_reducible show wpAny _ _ (eval (Expr.ListComp _ [⟨Expr.Name _ _, _, [_], _⟩] _ _) _) _ _ _); refine lcs_T (_F₀ := by k_asm) (by with_unfolding_all rfl) (by decide) (by rfl) (by decide) (by rfl) ?_)))) | ((with_reducible show wpAny _ _ (subscriptTail (Expr.Call _ _ _ _) _ (Value.ref _) (Value.ref _)) _ _ _); with_reducible ((with_reducible rename HoldNe => q9hHN); k_dflt (refine kba_turn (value' := Expr.Name (Str.ofString "_") ⟨0, 0, 0, 0⟩) (fun _ => rfl) ?_))) | ((with_reducible show InPost ..); with_reducible (k_here; k_dflt (refine' ⟨_, _, rfl, (by k_asm), cb_drop (by k_asm) (by kcj_all), ?_⟩))) | ((with_reducible show wpAny _ _ (newList ..) _ _ _); with_reducible (k_here; k_dflt (refine' newList_K (by k_asm) (by k_asm) ?_ (by first | exact Nat.zero_le _ | exact Nat.le_of_ble_eq_true rfl | size_fits); k_whole); intro q9l' q9h' q9F' q9N' q9l1; (try k_lt q9l1); (try k_sweep))) | walk1 | (dsimp only; walk1) | (leave1; (try dsimp only)))
    rename Fr _ _ _ _ => F16; rename News _ _ _ _ => N16
    refine hQ _ _ _ _ _ _ hoc hov F16 (cb_drop N16 (by kcj_all)) ?nO
    simp only [List.forall_mem_cons]
    refine ⟨hoff (R, _) (.head _), ?c1, hoff (242, _) (.tail _ (.head _)), hoff (_, _) (.tail _ (.tail _ (.head _))), hoff (_, _) (.tail _ (.tail _ (.tail _ (.head _)))), fun _ h => nomatch h⟩
    exact Ne.symm (Nat.ne_of_lt (hcc (I, oI) (.tail _ (.tail _ (.tail _ (.head _))))))
end
end Mine
end
section
open PySem PySem.W PySem.Calls PyProof.Rows
set_option Elab.async false
set_option maxRecDepth 100000
set_option maxHeartbeats 40000000
namespace Mine
theorem anew_CSH2 : True := by
  w_top off
  exact True.intro
section
variable {w : World} {p : Program} {loose : List Str} {mean : ExcName → Option Value} {mg mb : Str → Option Value} {h₀ : Heap} {L : Nat} {fa : Addr} {cd : Value} {m : Str → Option Value} {w2 w1 : Obj} {Q : Flow → Shared → Prop} {E : Value → Shared → Prop} {s : Shared}
variable {text : Str} {tt tp tw tv tc td tn tT t2n t2 tkA tkB : Tok} {D B x1 d1 l1 x2 d2 l2 T T2 D2 R : Addr} {ys vs rv : List Value} {ns : List Int} {oB : Obj} {hs1 hs2 : Int} {k1 k2 rn : Nat} {bo to si : Value} {fr : Bool}
set_option maxHeartbeats 40000000
variable {ba en li re : Value} {bare e line nxt : Str} {tb te tli tre tl : Tok} {I c' G : Addr} {oI oc oL oG wG wL : Obj} {vs0 : Array Value} {t0 : Tok} {mZ : Str → Option Value} {dI : Int} {v0 vL v1 : Option Value} {gv : List Value}
theorem SH2 (hX : (hd.heap_39 w.params).In h₀) (hTp : Top p loose mean mg mb h₀) (hBl : Below callerA h₀ [] h₀) (hCh : CodeHd h₀ 246 242) (hE : PassesOwn (model Challenge.rw_pm0051_01.row.prog w) (callerA.deeper (lawE L fa cd)) (lawE L fa cd) E) (hl0 : 242 < L)
    (hrv : StrsAre rv rowsF) (hRc : @Ne Nat R c') (hR242 : R ≠ 242) (hoc : oc.data = .fields vs0) (hov : vs0[1]? = some (.str lamQ t0)) (hoff : ∀ p ∈ [(R, W.listOf rv.toArray rn), (c', oc), (242, tabObj #[rawInt 152, rawInt 29, .ref c']), (L + 1 + 1 + 1, wG), (L + 1 + 1, wL)], p.1 ≠ I) (hcL : oL.data = .cell (some (.int 2 tl))) (hcG : oG.data = .cell (some (.ref G))) (hgS : StrsAre gv (goodL 2))
    (hE1 : ∀ row, (replAll line (pairsOf row) == bare) = goesF row 2) (hll : ¬ 1000 < line.length)
    (F5 : Fr h₀ L s.heap (m5 (.str bare tb) (.str e te) (.str line tli) (.str nxt tre) (mD dI td (mR (.ref R) si mZ)))) (N5 : News h₀ L s.heap [(R, W.listOf rv.toArray rn), (c', oc), (242, tabObj #[rawInt 152, rawInt 29, .ref c']), (L + 1 + 1 + 1, oG), (G, LCg.lst gv), (L + 1 + 1, oL), (I, oI)])
    (hQ : ∀ h' tk, Fr h₀ L h' (m5 (.str bare tb) (.str e te) (.str line tli) (.str nxt tre) (mD dI td (mR (.ref R) si mZ))) → News h₀ L h' ((I, oI) :: [(R, W.listOf rv.toArray rn), (c', oc), (242, tabObj #[rawInt 152, rawInt 29, .ref c']), (L + 1 + 1 + 1, oG), (L + 1 + 1, oL)]) → (∀ p ∈ [(R, W.listOf rv.toArray rn), (c', oc), (242, tabObj #[rawInt 152, rawInt 29, .ref c']), (L + 1 + 1 + 1, oG), (L + 1 + 1, oL)], p.1 ≠ I) → Q .next { s with heap := h', toks := tk }) :
    lvW w L fa cd 5 Q E s := by
  revert hX; unfold lvW; k_fill; intro hX
  obtain ⟨h1, g1, n1, tk1, os1⟩ := s
  dsimp only [lvB, forBody, lawB, lawRec, recOf, lawE, List.drop, List.take]
  dsimp only [lawE, lawRec, recOf] at hE
  have hHN : HoldNe := trivial
  have hgv := hgS
  obtain ⟨tg0, tg1, tg2, tg3, tg4, rfl⟩ := strs_five hgv
  clear hgv
  have hov2 : vs0[1]? = some (.str lamQ t0) := hov
  repeat' (first | (k_unfold; (try dsimp only)) | (k_end; kc_close) | ((with_reducible show wpAny _ _ (compareOp CmpOp.NotEq (Value.ref _) (Value.ref _)) _ _ _); with_reducible ((with_reducible rename HoldNe => q9hHN); refine Hold.mk ?_)) | ((with_reducible show wpAny _ _ (compareOp CmpOp.NotEq (Value.str _ _) (Value.str _ _)) _ _ _); with_reducible ((with_reducible rename HoldNe => q9hHN); first | (with_reducible refine ne_str_of rfl ?_) | refine Hold.mk ?_)) | ((with_reducible show wpAny _ _ (compareOp CmpOp.NotIn (Value.str _ _) (Value.ref _)) _ _ _); with_reducible (k_dflt (refine' notin_list_strs (by exact News.isList (by k_asm) (by k_mem)) (by with_reducible assumption) ?_; k_whole))) | ((with_reducible show wpAny _ _ (call (Value.ref _) _ _) _ _ _); with_reducible (k_here; (first | (with_reducible show wpAny _ _ (call (Value.ref 228) _) _ _ _) | (with_reducible show wpAny _ _ (call (Value.ref 247) _) _ _ _) | (with_reducible show wpAny _ _ (call (Value.ref 240) _) _ _ _)); refine Hold.mk ?_)) | ((with_reducible show wpAny _ _ (call (Value.ref 233) _) _ _ _); with_reducible (refine Hold.mk ?_)) | ((with_reducible show wpAny _ _ (eval (Expr.ListComp ..) _) _ _ _); with_reducible (k_here; k_dflt (first | ((with_reducible show wpAny _ _ (eval (Expr.ListComp _ [⟨Expr.Name _ _, _, [], _⟩] _ _) _) _ _ _); refine lcs_U (_F₀ := by k_asm) (by with_unfolding_all rfl) (by decide) (by rfl) (by decide) (by rfl) ?_) | ((with_reducible show wpAny _ _ (eval (Expr.ListComp _ [⟨Expr.Name _ _, _, [_], _⟩] _ _) _) _ _ _); refine lcs_T (_F₀ := by k_asm) (by with_unfolding_all rfl) (by decide) (by rfl) (by decide) (by rfl) ?_)))) | ((with_reducible show wpAny _ _ (subscriptTail (Expr.Call _ _ _ _) _ (Value.ref _) (Value.ref _)) _ _ _); with_reducible ((with_reducible rename HoldNe => q9hHN); k_dflt (refine kba_turn (value' := Expr.Name (Str.ofString "_") ⟨0, 0, 0, 0⟩) (fun _ => rfl) ?_))) | ((with_reducible show InPost ..); with_reducible (k_here; k_dflt (refine' ⟨_, _, rfl, (by k_asm), cb_drop (by k_asm) (by kcj_all), ?_⟩))) | ((with_reducible show wpAny _ _ (newList ..) _ _ _); with_reducible (k_here; k_dflt (refine' newList_K (by k_asm) (by k_asm) ?_ (by first | exact Nat.zero_le _ | exact Nat.le_of_ble_eq_true rfl | size_fits); k_whole); intro q9l' q9h' q9F' q9N' q9l1; (try k_lt q9l1); (try k_sweep))) | walk1 | (dsimp only; walk1) | (leave1; (try dsimp only)))
  rename News _ _ _ _ => N6
  have N7 : News _ _ _ ((R, { cls := .type "list", data := .seq rv.toArray rn }) :: (c', oc) :: (242, tabObj #[rawInt 152, rawInt 29, .ref c']) :: _) := N6
  ((unfold Hold; k_dflt (refine' c_partedH _ _ _ _ _ _ _ _ ?a1 rows_len rows_short ?a4 _ _ _ _ ?a5 ?a6 _ _ _ _ _ _ _ _ _ _ _ _ _ _ _ _ _ _ _ _ ?B ?F ?X ?N ?T ?C ?d ?u ?_; (case B => k_asm); (case F => k_asm); (case X => k_in); (case N => with_reducible assumption); (case T => k_asm); (case d => first | exact Nat.le_of_ble_eq_true rfl | ktr_room); (case u => first | exact Nat.le_of_ble_eq_true rfl | ktr_room); (case C => k_asm); (case a1 => with_reducible assumption); (case a4 => exact Nat.not_lt.mp (by with_reducible assumption)); (case a5 => with_reducible assumption); (case a6 => with_reducible assumption))))
  intro rv' h6 tk6 nw hr F8; refine park2 rv' nw ?_; intro Kp hKp; obtain ⟨Dp, no, yes, py, pn, ky, kn, rfl, rfl, spy, spn⟩ := hr; refine hKp _ _ ?_; clear hKp Kp; intro N8
  simp only [hE1] at spy spn
  rw [good_2] at spy
  rw [rest_2] at spn
  try dsimp only
  clear hE1 N6 N7
  repeat' (first | (k_unfold; (try dsimp only)) | (k_end; kc_close) | ((with_reducible show wpAny _ _ (compareOp CmpOp.NotEq (Value.ref _) (Value.ref _)) _ _ _); with_reducible ((with_reducible rename HoldNe => q9hHN); refine Hold.mk ?_)) | ((with_reducible show wpAny _ _ (compareOp CmpOp.NotEq (Value.str _ _) (Value.str _ _)) _ _ _); with_reducible ((with_reducible rename HoldNe => q9hHN); first | (with_reducible refine ne_str_of rfl ?_) | refine Hold.mk ?_)) | ((with_reducible show wpAny _ _ (compareOp CmpOp.NotIn (Value.str _ _) (Value.ref _)) _ _ _); with_reducible (k_dflt (refine' notin_list_strs (by exact News.isList (by k_asm) (by k_mem)) (by with_reducible assumption) ?_; k_whole))) | ((with_reducible show wpAny _ _ (call (Value.ref _) _ _) _ _ _); with_reducible (k_here; (first | (with_reducible show wpAny _ _ (call (Value.ref 228) _) _ _ _) | (with_reducible show wpAny _ _ (call (Value.ref 247) _) _ _ _) | (with_reducible show wpAny _ _ (call (Value.ref 240) _) _ _ _)); refine Hold.mk ?_)) | ((with_reducible show wpAny _ _ (call (Value.ref 233) _) _ _ _); with_reducible (refine Hold.mk ?_)) | ((with_reducible show wpAny _ _ (eval (Expr.ListComp ..) _) _ _ _); with_reducible (k_here; k_dflt (first | ((with_reducible show wpAny _ _ (eval (Expr.ListComp _ [⟨Expr.Name _ _, _, [], _⟩] _ _) _) _ _ _); refine lcs_U (_F₀ := by k_asm) (by with_unfolding_all rfl) (by decide) (by rfl) (by decide) (by rfl) ?_) | ((with_reducible show wpAny _ _ (eval (Expr.ListComp _ [⟨Expr.Name _ _, _, [_], _⟩] _ _) _) _ _ _); refine lcs_T (_F₀ := by k_asm) (by with_unfolding_all rfl) (by decide) (by rfl) (by decide) (by rfl) ?_)))) | ((with_reducible show wpAny _ _ (subscriptTail (Expr.Call _ _ _ _) _ (Value.ref _) (Value.ref _)) _ _ _); with_reducible ((with_reducible rename HoldNe => q9hHN); k_dflt (refine kba_turn (value' := Expr.Name (Str.ofString "_") ⟨0, 0, 0, 0⟩) (fun _ => rfl) ?_))) | ((with_reducible show InPost ..); with_reducible (k_here; k_dflt (refine' ⟨_, _, rfl, (by k_asm), cb_drop (by k_asm) (by kcj_all), ?_⟩))) | ((with_reducible show wpAny _ _ (newList ..) _ _ _); with_reducible (k_here; k_dflt (refine' newList_K (by k_asm) (by k_asm) ?_ (by first | exact Nat.zero_le _ | exact Nat.le_of_ble_eq_true rfl | size_fits); k_whole); intro q9l' q9h' q9F' q9N' q9l1; (try k_lt q9l1); (try k_sweep))) | walk1 | (dsimp only; walk1) | (leave1; (try dsimp only)))
  rename Fr _ _ _ _ => F9; rename News _ _ _ _ => N9
  refine genT_of (its := rowsF) (fun z => !((goodL 2).any fun x => x == z)) (fun z => z) rfl F9 N9 (inSrc_list rfl N9 (by k_mem)) (fun p hp => by rw [List.mem_singleton.mp hp]; k_mem) (listAt_of hrv) (size_of_strs hrv) (by rw [sizeLine_eq]; exact Nat.le_trans rows_len (by decide)) ?turnN ?finN
  case turnN =>
    intro z tz I2 oI2 C2 oC2 D2 m₂ zs' h tk E' hz hC hx F6 N6 off ne
    clear F9 N9 spy spn hrv
    repeat' (first | (k_unfold; (try dsimp only)) | (k_end; kc_close) | ((with_reducible show wpAny _ _ (compareOp CmpOp.NotEq (Value.ref _) (Value.ref _)) _ _ _); with_reducible ((with_reducible rename HoldNe => q9hHN); refine Hold.mk ?_)) | ((with_reducible show wpAny _ _ (compareOp CmpOp.NotEq (Value.str _ _) (Value.str _ _)) _ _ _); with_reducible ((with_reducible rename HoldNe => q9hHN); first | (with_reducible refine ne_str_of rfl ?_) | refine Hold.mk ?_)) | ((with_reducible show wpAny _ _ (compareOp CmpOp.NotIn (Value.str _ _) (Value.ref _)) _ _ _); with_reducible (k_dflt (refine' notin_list_strs (by exact News.isList (by k_asm) (by k_mem)) (by with_reducible assumption) ?_; k_whole))) | ((with_reducible show wpAny _ _ (call (Value.ref _) _ _) _ _ _); with_reducible (k_here; (first | (with_reducible show wpAny _ _ (call (Value.ref 228) _) _ _ _) | (with_reducible show wpAny _ _ (call (Value.ref 247) _) _ _ _) | (with_reducible show wpAny _ _ (call (Value.ref 240) _) _ _ _)); refine Hold.mk ?_)) | ((with_reducible show wpAny _ _ (call (Value.ref 233) _) _ _ _); with_reducible (refine Hold.mk ?_)) | ((with_reducible show wpAny _ _ (eval (Expr.ListComp ..) _) _ _ _); with_reducible (k_here; k_dflt (first | ((with_reducible show wpAny _ _ (eval (Expr.ListComp _ [⟨Expr.Name _ _, _, [], _⟩] _ _) _) _ _ _); refine lcs_U (_F₀ := by k_asm) (by with_unfolding_all rfl) (by decide) (by rfl) (by decide) (by rfl) ?_) | ((with_reducible show wpAny _ _ (eval (Expr.ListComp _ [⟨Expr.Name _ _, _, [_], _⟩] _ _) _) _ _ _); refine lcs_T (_F₀ := by k_asm) (by with_unfolding_all rfl) (by decide) (by rfl) (by decide) (by rfl) ?_)))) | ((with_reducible show wpAny _ _ (subscriptTail (Expr.Call _ _ _ _) _ (Value.ref _) (Value.ref _)) _ _ _); with_reducible ((with_reducible rename HoldNe => q9hHN); k_dflt (refine kba_turn (value' := Expr.Name (Str.ofString "_") ⟨0, 0, 0, 0⟩) (fun _ => rfl) ?_))) | ((with_reducible show InPost ..); with_reducible (k_here; k_dflt (refine' ⟨_, _, rfl, (by k_asm), cb_drop (by k_asm) (by kcj_all), ?_⟩))) | ((with_reducible show wpAny _ _ (newList ..) _ _ _); with_reducible (k_here; k_dflt (refine' newList_K (by k_asm) (by k_asm) ?_ (by first | exact Nat.zero_le _ | exact Nat.le_of_ble_eq_true rfl | size_fits); k_whole); intro q9l' q9h' q9F' q9N' q9l1; (try k_lt q9l1); (try k_sweep))) | walk1 | (dsimp only; walk1) | (leave1; (try dsimp only)))
    all_goals first
      | exact IsText.mk
      | (rename (!(List.any (goodL 2) _)) = false => hx; exact hx)
      | (rename (List.any (goodL 2) _) = true => hx; show (!(List.any (goodL 2) _)) = false; rw [hx]; rfl)
      | (dsimp only; with_reducible assumption)
  case finN =>
    intro q kv hkv
    rw [List.map_id'] at hkv
    clear F9 N9
    repeat' (first | (k_unfold; (try dsimp only)) | (k_end; kc_close) | ((with_reducible show wpAny _ _ (compareOp CmpOp.NotEq (Value.ref _) (Value.ref _)) _ _ _); with_reducible ((with_reducible rename HoldNe => q9hHN); refine Hold.mk ?_)) | ((with_reducible show wpAny _ _ (compareOp CmpOp.NotEq (Value.str _ _) (Value.str _ _)) _ _ _); with_reducible ((with_reducible rename HoldNe => q9hHN); first | (with_reducible refine ne_str_of rfl ?_) | refine Hold.mk ?_)) | ((with_reducible show wpAny _ _ (compareOp CmpOp.NotIn (Value.str _ _) (Value.ref _)) _ _ _); with_reducible (k_dflt (refine' notin_list_strs (by exact News.isList (by k_asm) (by k_mem)) (by with_reducible assumption) ?_; k_whole))) | ((with_reducible show wpAny _ _ (call (Value.ref _) _ _) _ _ _); with_reducible (k_here; (first | (with_reducible show wpAny _ _ (call (Value.ref 228) _) _ _ _) | (with_reducible show wpAny _ _ (call (Value.ref 247) _) _ _ _) | (with_reducible show wpAny _ _ (call (Value.ref 240) _) _ _ _)); refine Hold.mk ?_)) | ((with_reducible show wpAny _ _ (call (Value.ref 233) _) _ _ _); with_reducible (refine Hold.mk ?_)) | ((with_reducible show wpAny _ _ (eval (Expr.ListComp ..) _) _ _ _); with_reducible (k_here; k_dflt (first | ((with_reducible show wpAny _ _ (eval (Expr.ListComp _ [⟨Expr.Name _ _, _, [], _⟩] _ _) _) _ _ _); refine lcs_U (_F₀ := by k_asm) (by with_unfolding_all rfl) (by decide) (by rfl) (by decide) (by rfl) ?_) | ((with_reducible show wpAny _ _ (eval (Expr.ListComp _ [⟨Expr.Name _ _, _, [_], _⟩] _ _) _) _ _ _); refine lcs_T (_F₀ := by k_asm) (by with_unfolding_all rfl) (by decide) (by rfl) (by decide) (by rfl) ?_)))) | ((with_reducible show wpAny _ _ (subscriptTail (Expr.Call _ _ _ _) _ (Value.ref _) (Value.ref _)) _ _ _); with_reducible ((with_reducible rename HoldNe => q9hHN); k_dflt (refine kba_turn (value' := Expr.Name (Str.ofString "_") ⟨0, 0, 0, 0⟩) (fun _ => rfl) ?_))) | ((with_reducible show InPost ..); with_reducible (k_here; k_dflt (refine' ⟨_, _, rfl, (by k_asm), cb_drop (by k_asm) (by kcj_all), ?_⟩))) | ((with_reducible show wpAny _ _ (newList ..) _ _ _); with_reducible (k_here; k_dflt (refine' newList_K (by k_asm) (by k_asm) ?_ (by first | exact Nat.zero_le _ | exact Nat.le_of_ble_eq_true rfl | size_fits); k_whole); intro q9l' q9h' q9F' q9N' q9l1; (try k_lt q9l1); (try k_sweep))) | walk1 | (dsimp only; walk1) | (leave1; (try dsimp only)))
    unfold Hold
    rename News _ _ _ _ => N12
    refine ne_parted N12 (by k_mem) (by k_mem) (by k_mem) (by k_mem) (by k_mem) (by k_mem) spy spn hgS hkv (good_in 2 good_2.symm) (fun x hx => rows_ok x (List.mem_filter.mp hx).1) (by ke_room) ?_
    repeat' (first | (k_unfold; (try dsimp only)) | (k_end; kc_close) | ((with_reducible show wpAny _ _ (compareOp CmpOp.NotEq (Value.ref _) (Value.ref _)) _ _ _); with_reducible ((with_reducible rename HoldNe => q9hHN); refine Hold.mk ?_)) | ((with_reducible show wpAny _ _ (compareOp CmpOp.NotEq (Value.str _ _) (Value.str _ _)) _ _ _); with_reducible ((with_reducible rename HoldNe => q9hHN); first | (with_reducible refine ne_str_of rfl ?_) | refine Hold.mk ?_)) | ((with_reducible show wpAny _ _ (compareOp CmpOp.NotIn (Value.str _ _) (Value.ref _)) _ _ _); with_reducible (k_dflt (refine' notin_list_strs (by exact News.isList (by k_asm) (by k_mem)) (by with_reducible assumption) ?_; k_whole))) | ((with_reducible show wpAny _ _ (call (Value.ref _) _ _) _ _ _); with_reducible (k_here; (first | (with_reducible show wpAny _ _ (call (Value.ref 228) _) _ _ _) | (with_reducible show wpAny _ _ (call (Value.ref 247) _) _ _ _) | (with_reducible show wpAny _ _ (call (Value.ref 240) _) _ _ _)); refine Hold.mk ?_)) | ((with_reducible show wpAny _ _ (call (Value.ref 233) _) _ _ _); with_reducible (refine Hold.mk ?_)) | ((with_reducible show wpAny _ _ (eval (Expr.ListComp ..) _) _ _ _); with_reducible (k_here; k_dflt (first | ((with_reducible show wpAny _ _ (eval (Expr.ListComp _ [⟨Expr.Name _ _, _, [], _⟩] _ _) _) _ _ _); refine lcs_U (_F₀ := by k_asm) (by with_unfolding_all rfl) (by decide) (by rfl) (by decide) (by rfl) ?_) | ((with_reducible show wpAny _ _ (eval (Expr.ListComp _ [⟨Expr.Name _ _, _, [_], _⟩] _ _) _) _ _ _); refine lcs_T (_F₀ := by k_asm) (by with_unfolding_all rfl) (by decide) (by rfl) (by decide) (by rfl) ?_)))) | ((with_reducible show wpAny _ _ (subscriptTail (Expr.Call _ _ _ _) _ (Value.ref _) (Value.ref _)) _ _ _); with_reducible ((with_reducible rename HoldNe => q9hHN); k_dflt (refine kba_turn (value' := Expr.Name (Str.ofString "_") ⟨0, 0, 0, 0⟩) (fun _ => rfl) ?_))) | ((with_reducible show InPost ..); with_reducible (k_here; k_dflt (refine' ⟨_, _, rfl, (by k_asm), cb_drop (by k_asm) (by kcj_all), ?_⟩))) | ((with_reducible show wpAny _ _ (newList ..) _ _ _); with_reducible (k_here; k_dflt (refine' newList_K (by k_asm) (by k_asm) ?_ (by first | exact Nat.zero_le _ | exact Nat.le_of_ble_eq_true rfl | size_fits); k_whole); intro q9l' q9h' q9F' q9N' q9l1; (try k_lt q9l1); (try k_sweep))) | walk1 | (dsimp only; walk1) | (leave1; (try dsimp only)))
    ((unfold Hold; k_dflt (refine' c_pairs _ _ ?pa _ _ _ _ _ _ _ _ _ _ _ _ _ _ _ _ _ _ _ _ ?B ?F ?X ?N ?T ?d ?u ?_; (case B => k_asm); (case F => k_asm); (case X => k_in); (case N => k_asm); (case T => k_asm); (case d => first | exact Nat.le_of_ble_eq_true rfl | ktr_room); (case u => first | exact Nat.le_of_ble_eq_true rfl | ktr_room); (case pa => exact Nat.le_of_ble_eq_true rfl))))
    intro rv2 h7 tk7 nw2 hr F13; refine park2 rv2 nw2 ?_; intro Kp hKp; obtain ⟨pD, pv, rfl, rfl, pS, pO⟩ := hr; refine hKp _ _ ?_; clear hKp Kp; intro N13
    rw [pairs_2] at pS
    obtain ⟨us0, us1, us2, us3, us4, us5, rfl⟩ := strs_6 pS
    clear pS
    try dsimp only
    repeat' (first | (k_unfold; (try dsimp only)) | (k_end; kc_close) | ((with_reducible show wpAny _ _ (compareOp CmpOp.NotEq (Value.ref _) (Value.ref _)) _ _ _); with_reducible ((with_reducible rename HoldNe => q9hHN); refine Hold.mk ?_)) | ((with_reducible show wpAny _ _ (compareOp CmpOp.NotEq (Value.str _ _) (Value.str _ _)) _ _ _); with_reducible ((with_reducible rename HoldNe => q9hHN); first | (with_reducible refine ne_str_of rfl ?_) | refine Hold.mk ?_)) | ((with_reducible show wpAny _ _ (compareOp CmpOp.NotIn (Value.str _ _) (Value.ref _)) _ _ _); with_reducible (k_dflt (refine' notin_list_strs (by exact News.isList (by k_asm) (by k_mem)) (by with_reducible assumption) ?_; k_whole))) | ((with_reducible show wpAny _ _ (call (Value.ref _) _ _) _ _ _); with_reducible (k_here; (first | (with_reducible show wpAny _ _ (call (Value.ref 228) _) _ _ _) | (with_reducible show wpAny _ _ (call (Value.ref 247) _) _ _ _) | (with_reducible show wpAny _ _ (call (Value.ref 240) _) _ _ _)); refine Hold.mk ?_)) | ((with_reducible show wpAny _ _ (call (Value.ref 233) _) _ _ _); with_reducible (refine Hold.mk ?_)) | ((with_reducible show wpAny _ _ (eval (Expr.ListComp ..) _) _ _ _); with_reducible (k_here; k_dflt (first | ((with_reducible show wpAny _ _ (eval (Expr.ListComp _ [⟨Expr.Name _ _, _, [], _⟩] _ _) _) _ _ _); refine lcs_U (_F₀ := by k_asm) (by with_unfolding_all rfl) (by decide) (by rfl) (by decide) (by rfl) ?_) | ((with_reducible show wpAny _ _ (eval (Expr.ListComp _ [⟨Expr.Name _ _, _, [_], _⟩] _ _) _) _ _ _); refine lcs_T (_F₀ := by k_asm) (by with_unfolding_all rfl) (by decide) (by rfl) (by decide) (by rfl) ?_)))) | ((with_reducible show wpAny _ _ (subscriptTail (Expr.Call _ _ _ _) _ (Value.ref _) (Value.ref _)) _ _ _); with_reducible ((with_reducible rename HoldNe => q9hHN); k_dflt (refine kba_turn (value' := Expr.Name (Str.ofString "_") ⟨0, 0, 0, 0⟩) (fun _ => rfl) ?_))) | ((with_reducible show InPost ..); with_reducible (k_here; k_dflt (refine' ⟨_, _, rfl, (by k_asm), cb_drop (by k_asm) (by kcj_all), ?_⟩))) | ((with_reducible show wpAny _ _ (newList ..) _ _ _); with_reducible (k_here; k_dflt (refine' newList_K (by k_asm) (by k_asm) ?_ (by first | exact Nat.zero_le _ | exact Nat.le_of_ble_eq_true rfl | size_fits); k_whole); intro q9l' q9h' q9F' q9N' q9l1; (try k_lt q9l1); (try k_sweep))) | walk1 | (dsimp only; walk1) | (leave1; (try dsimp only)))
    ((unfold Hold; k_dflt (refine' c_kindS2 _ _ _ _ _ _ _ _ _ _ _ _ _ _ ?a1 ok_slash ok_slash _ _ _ _ _ _ _ _ _ _ _ _ _ _ _ _ _ _ ?B ?F ?X ?N ?T ?d ?u ?_; (case B => k_asm); (case F => k_asm); (case X => k_in); (case N => k_asm); (case T => k_asm); (case d => first | exact Nat.le_of_ble_eq_true rfl | ktr_room); (case u => first | exact Nat.le_of_ble_eq_true rfl | ktr_room); (case a1 => exact Nat.not_lt.mp (by with_reducible assumption)))))
    intro rv3 h8 tk8 nw3 hr F14; refine park2 rv3 nw3 ?_; intro Kp hKp; obtain ⟨tS, rfl, rfl⟩ := hr; refine hKp _ _ ?_; clear hKp Kp; intro N14
    try dsimp only
    repeat' (first | (k_unfold; (try dsimp only)) | (k_end; kc_close) | ((with_reducible show wpAny _ _ (compareOp CmpOp.NotEq (Value.ref _) (Value.ref _)) _ _ _); with_reducible ((with_reducible rename HoldNe => q9hHN); refine Hold.mk ?_)) | ((with_reducible show wpAny _ _ (compareOp CmpOp.NotEq (Value.str _ _) (Value.str _ _)) _ _ _); with_reducible ((with_reducible rename HoldNe => q9hHN); first | (with_reducible refine ne_str_of rfl ?_) | refine Hold.mk ?_)) | ((with_reducible show wpAny _ _ (compareOp CmpOp.NotIn (Value.str _ _) (Value.ref _)) _ _ _); with_reducible (k_dflt (refine' notin_list_strs (by exact News.isList (by k_asm) (by k_mem)) (by with_reducible assumption) ?_; k_whole))) | ((with_reducible show wpAny _ _ (call (Value.ref _) _ _) _ _ _); with_reducible (k_here; (first | (with_reducible show wpAny _ _ (call (Value.ref 228) _) _ _ _) | (with_reducible show wpAny _ _ (call (Value.ref 247) _) _ _ _) | (with_reducible show wpAny _ _ (call (Value.ref 240) _) _ _ _)); refine Hold.mk ?_)) | ((with_reducible show wpAny _ _ (call (Value.ref 233) _) _ _ _); with_reducible (refine Hold.mk ?_)) | ((with_reducible show wpAny _ _ (eval (Expr.ListComp ..) _) _ _ _); with_reducible (k_here; k_dflt (first | ((with_reducible show wpAny _ _ (eval (Expr.ListComp _ [⟨Expr.Name _ _, _, [], _⟩] _ _) _) _ _ _); refine lcs_U (_F₀ := by k_asm) (by with_unfolding_all rfl) (by decide) (by rfl) (by decide) (by rfl) ?_) | ((with_reducible show wpAny _ _ (eval (Expr.ListComp _ [⟨Expr.Name _ _, _, [_], _⟩] _ _) _) _ _ _); refine lcs_T (_F₀ := by k_asm) (by with_unfolding_all rfl) (by decide) (by rfl) (by decide) (by rfl) ?_)))) | ((with_reducible show wpAny _ _ (subscriptTail (Expr.Call _ _ _ _) _ (Value.ref _) (Value.ref _)) _ _ _); with_reducible ((with_reducible rename HoldNe => q9hHN); k_dflt (refine kba_turn (value' := Expr.Name (Str.ofString "_") ⟨0, 0, 0, 0⟩) (fun _ => rfl) ?_))) | ((with_reducible show InPost ..); with_reducible (k_here; k_dflt (refine' ⟨_, _, rfl, (by k_asm), cb_drop (by k_asm) (by kcj_all), ?_⟩))) | ((with_reducible show wpAny _ _ (newList ..) _ _ _); with_reducible (k_here; k_dflt (refine' newList_K (by k_asm) (by k_asm) ?_ (by first | exact Nat.zero_le _ | exact Nat.le_of_ble_eq_true rfl | size_fits); k_whole); intro q9l' q9h' q9F' q9N' q9l1; (try k_lt q9l1); (try k_sweep))) | walk1 | (dsimp only; walk1) | (leave1; (try dsimp only)))
    ((unfold Hold; k_dflt (refine' c_kindE _ _ _ _ _ _ ?a1 _ _ _ _ _ _ _ _ _ _ _ _ _ _ _ _ _ _ ?B ?F ?X ?N ?T ?d ?u ?_; (case B => k_asm); (case F => k_asm); (case X => k_in); (case N => k_asm); (case T => k_asm); (case d => first | exact Nat.le_of_ble_eq_true rfl | ktr_room); (case u => first | exact Nat.le_of_ble_eq_true rfl | ktr_room); (case a1 => exact Nat.not_lt.mp (by with_reducible assumption)))))
    intro rv4 h9 tk9 nw4 hr F15; refine park2 rv4 nw4 ?_; intro Kp hKp; obtain ⟨tE, rfl, rfl⟩ := hr; refine hKp _ _ ?_; clear hKp Kp; intro N15
    try dsimp only
    repeat' (first | (k_unfold; (try dsimp only)) | (k_end; kc_close) | ((with_reducible show wpAny _ _ (compareOp CmpOp.NotEq (Value.ref _) (Value.ref _)) _ _ _); with_reducible ((with_reducible rename HoldNe => q9hHN); refine Hold.mk ?_)) | ((with_reducible show wpAny _ _ (compareOp CmpOp.NotEq (Value.str _ _) (Value.str _ _)) _ _ _); with_reducible ((with_reducible rename HoldNe => q9hHN); first | (with_reducible refine ne_str_of rfl ?_) | refine Hold.mk ?_)) | ((with_reducible show wpAny _ _ (compareOp CmpOp.NotIn (Value.str _ _) (Value.ref _)) _ _ _); with_reducible (k_dflt (refine' notin_list_strs (by exact News.isList (by k_asm) (by k_mem)) (by with_reducible assumption) ?_; k_whole))) | ((with_reducible show wpAny _ _ (call (Value.ref _) _ _) _ _ _); with_reducible (k_here; (first | (with_reducible show wpAny _ _ (call (Value.ref 228) _) _ _ _) | (with_reducible show wpAny _ _ (call (Value.ref 247) _) _ _ _) | (with_reducible show wpAny _ _ (call (Value.ref 240) _) _ _ _)); refine Hold.mk ?_)) | ((with_reducible show wpAny _ _ (call (Value.ref 233) _) _ _ _); with_reducible (refine Hold.mk ?_)) | ((with_reducible show wpAny _ _ (eval (Expr.ListComp ..) _) _ _ _); with_reducible (k_here; k_dflt (first | ((with_reducible show wpAny _ _ (eval (Expr.ListComp _ [⟨Expr.Name _ _, _, [], _⟩] _ _) _) _ _ _); refine lcs_U (_F₀ := by k_asm) (by with_unfolding_all rfl) (by decide) (by rfl) (by decide) (by rfl) ?_) | ((with_reducible show wpAny _ _ (eval (Expr.ListComp _ [⟨Expr.Name _ _, _, [_], _⟩] _ _) _) _ _ _); refine lcs_T (_F₀ := by k_asm) (by with_unfolding_all rfl) (by decide) (by rfl) (by decide) (by rfl) ?_)))) | ((with_reducible show wpAny _ _ (subscriptTail (Expr.Call _ _ _ _) _ (Value.ref _) (Value.ref _)) _ _ _); with_reducible ((with_reducible rename HoldNe => q9hHN); k_dflt (refine kba_turn (value' := Expr.Name (Str.ofString "_") ⟨0, 0, 0, 0⟩) (fun _ => rfl) ?_))) | ((with_reducible show InPost ..); with_reducible (k_here; k_dflt (refine' ⟨_, _, rfl, (by k_asm), cb_drop (by k_asm) (by kcj_all), ?_⟩))) | ((with_reducible show wpAny _ _ (newList ..) _ _ _); with_reducible (k_here; k_dflt (refine' newList_K (by k_asm) (by k_asm) ?_ (by first | exact Nat.zero_le _ | exact Nat.le_of_ble_eq_true rfl | size_fits); k_whole); intro q9l' q9h' q9F' q9N' q9l1; (try k_lt q9l1); (try k_sweep))) | walk1 | (dsimp only; walk1) | (leave1; (try dsimp only)))
    rename Fr _ _ _ _ => F16; rename News _ _ _ _ => N16
    refine hQ _ _  F16 (cb_drop N16 (by kcj_all)) ?nO
    simp only [List.forall_mem_cons]
    refine ⟨hoff (R, _) (.head _), ?c1, hoff (242, _) (.tail _ (.tail _ (.head _))), hoff (_, _) (.tail _ (.tail _ (.tail _ (.head _)))), hoff (_, _) (.tail _ (.tail _ (.tail _ (.tail _ (.head _))))), fun _ h => nomatch h⟩
    exact hoff (c', oc) (.tail _ (.head _))
end
end Mine
end
section
open PySem PySem.W PySem.Calls PyProof.Rows
set_option Elab.async false
set_option maxRecDepth 100000
set_option maxHeartbeats 40000000
namespace Mine
theorem anew_CSH3 : True := by
  w_top off
  exact True.intro
section
variable {w : World} {p : Program} {loose : List Str} {mean : ExcName → Option Value} {mg mb : Str → Option Value} {h₀ : Heap} {L : Nat} {fa : Addr} {cd : Value} {m : Str → Option Value} {w2 w1 : Obj} {Q : Flow → Shared → Prop} {E : Value → Shared → Prop} {s : Shared}
variable {text : Str} {tt tp tw tv tc td tn tT t2n t2 tkA tkB : Tok} {D B x1 d1 l1 x2 d2 l2 T T2 D2 R : Addr} {ys vs rv : List Value} {ns : List Int} {oB : Obj} {hs1 hs2 : Int} {k1 k2 rn : Nat} {bo to si : Value} {fr : Bool}
set_option maxHeartbeats 40000000
variable {ba en li re : Value} {bare e line nxt : Str} {tb te tli tre tl : Tok} {I c' G : Addr} {oI oc oL oG wG wL : Obj} {vs0 : Array Value} {t0 : Tok} {mZ : Str → Option Value} {dI : Int} {v0 vL v1 : Option Value} {gv : List Value}
theorem SH3 (hX : (hd.heap_39 w.params).In h₀) (hTp : Top p loose mean mg mb h₀) (hBl : Below callerA h₀ [] h₀) (hCh : CodeHd h₀ 246 242) (hE : PassesOwn (model Challenge.rw_pm0051_01.row.prog w) (callerA.deeper (lawE L fa cd)) (lawE L fa cd) E) (hl0 : 242 < L)
    (hrv : StrsAre rv rowsF) (hRc : @Ne Nat R c') (hR242 : R ≠ 242) (hoc : oc.data = .fields vs0) (hov : vs0[1]? = some (.str lamQ t0)) (hoff : ∀ p ∈ [(R, W.listOf rv.toArray rn), (c', oc), (242, tabObj #[rawInt 152, rawInt 29, .ref c']), (L + 1 + 1 + 1, wG), (L + 1 + 1, wL)], p.1 ≠ I) (hcL : oL.data = .cell (some (.int 3 tl))) (hcG : oG.data = .cell (some (.ref G))) (hgS : StrsAre gv (goodL 3))
    (hE1 : ∀ row, (replAll line (pairsOf row) == bare) = goesF row 3) (hll : ¬ 1000 < line.length)
    (F5 : Fr h₀ L s.heap (m5 (.str bare tb) (.str e te) (.str line tli) (.str nxt tre) (mD dI td (mR (.ref R) si mZ)))) (N5 : News h₀ L s.heap [(R, W.listOf rv.toArray rn), (c', oc), (242, tabObj #[rawInt 152, rawInt 29, .ref c']), (L + 1 + 1 + 1, oG), (G, LCg.lst gv), (L + 1 + 1, oL), (I, oI)])
    (hQ : ∀ h' tk, Fr h₀ L h' (m5 (.str bare tb) (.str e te) (.str line tli) (.str nxt tre) (mD dI td (mR (.ref R) si mZ))) → News h₀ L h' ((I, oI) :: [(R, W.listOf rv.toArray rn), (c', oc), (242, tabObj #[rawInt 152, rawInt 29, .ref c']), (L + 1 + 1 + 1, oG), (L + 1 + 1, oL)]) → (∀ p ∈ [(R, W.listOf rv.toArray rn), (c', oc), (242, tabObj #[rawInt 152, rawInt 29, .ref c']), (L + 1 + 1 + 1, oG), (L + 1 + 1, oL)], p.1 ≠ I) → Q .next { s with heap := h', toks := tk }) :
    lvW w L fa cd 5 Q E s := by
  revert hX; unfold lvW; k_fill; intro hX
  obtain ⟨h1, g1, n1, tk1, os1⟩ := s
  dsimp only [lvB, forBody, lawB, lawRec, recOf, lawE, List.drop, List.take]
  dsimp only [lawE, lawRec, recOf] at hE
  have hHN : HoldNe := trivial
  have hgv := hgS
  obtain ⟨tg0, rfl⟩ := strs_one hgv
  clear hgv
  have hov2 : vs0[1]? = some (.str lamQ t0) := hov
  repeat' (first | (k_unfold; (try dsimp only)) | (k_end; kc_close) | ((with_reducible show wpAny _ _ (compareOp CmpOp.NotEq (Value.ref _) (Value.ref _)) _ _ _); with_reducible ((with_reducible rename HoldNe => q9hHN); refine Hold.mk ?_)) | ((with_reducible show wpAny _ _ (compareOp CmpOp.NotEq (Value.str _ _) (Value.str _ _)) _ _ _); with_reducible ((with_reducible rename HoldNe => q9hHN); first | (with_reducible refine ne_str_of rfl ?_) | refine Hold.mk ?_)) | ((with_reducible show wpAny _ _ (compareOp CmpOp.NotIn (Value.str _ _) (Value.ref _)) _ _ _); with_reducible (k_dflt (refine' notin_list_strs (by exact News.isList (by k_asm) (by k_mem)) (by with_reducible assumption) ?_; k_whole))) | ((with_reducible show wpAny _ _ (call (Value.ref _) _ _) _ _ _); with_reducible (k_here; (first | (with_reducible show wpAny _ _ (call (Value.ref 228) _) _ _ _) | (with_reducible show wpAny _ _ (call (Value.ref 247) _) _ _ _) | (with_reducible show wpAny _ _ (call (Value.ref 240) _) _ _ _)); refine Hold.mk ?_)) | ((with_reducible show wpAny _ _ (call (Value.ref 233) _) _ _ _); with_reducible (refine Hold.mk ?_)) | ((with_reducible show wpAny _ _ (eval (Expr.ListComp ..) _) _ _ _); with_reducible (k_here; k_dflt (first | ((with_reducible show wpAny _ _ (eval (Expr.ListComp _ [⟨Expr.Name _ _, _, [], _⟩] _ _) _) _ _ _); refine lcs_U (_F₀ := by k_asm) (by with_unfolding_all rfl) (by decide) (by rfl) (by decide) (by rfl) ?_) | ((with_reducible show wpAny _ _ (eval (Expr.ListComp _ [⟨Expr.Name _ _, _, [_], _⟩] _ _) _) _ _ _); refine lcs_T (_F₀ := by k_asm) (by with_unfolding_all rfl) (by decide) (by rfl) (by decide) (by rfl) ?_)))) | ((with_reducible show wpAny _ _ (subscriptTail (Expr.Call _ _ _ _) _ (Value.ref _) (Value.ref _)) _ _ _); with_reducible ((with_reducible rename HoldNe => q9hHN); k_dflt (refine kba_turn (value' := Expr.Name (Str.ofString "_") ⟨0, 0, 0, 0⟩) (fun _ => rfl) ?_))) | ((with_reducible show InPost ..); with_reducible (k_here; k_dflt (refine' ⟨_, _, rfl, (by k_asm), cb_drop (by k_asm) (by kcj_all), ?_⟩))) | ((with_reducible show wpAny _ _ (newList ..) _ _ _); with_reducible (k_here; k_dflt (refine' newList_K (by k_asm) (by k_asm) ?_ (by first | exact Nat.zero_le _ | exact Nat.le_of_ble_eq_true rfl | size_fits); k_whole); intro q9l' q9h' q9F' q9N' q9l1; (try k_lt q9l1); (try k_sweep))) | walk1 | (dsimp only; walk1) | (leave1; (try dsimp only)))
  rename News _ _ _ _ => N6
  have N7 : News _ _ _ ((R, { cls := .type "list", data := .seq rv.toArray rn }) :: (c', oc) :: (242, tabObj #[rawInt 152, rawInt 29, .ref c']) :: _) := N6
  ((unfold Hold; k_dflt (refine' c_partedH _ _ _ _ _ _ _ _ ?a1 rows_len rows_short ?a4 _ _ _ _ ?a5 ?a6 _ _ _ _ _ _ _ _ _ _ _ _ _ _ _ _ _ _ _ _ ?B ?F ?X ?N ?T ?C ?d ?u ?_; (case B => k_asm); (case F => k_asm); (case X => k_in); (case N => with_reducible assumption); (case T => k_asm); (case d => first | exact Nat.le_of_ble_eq_true rfl | ktr_room); (case u => first | exact Nat.le_of_ble_eq_true rfl | ktr_room); (case C => k_asm); (case a1 => with_reducible assumption); (case a4 => exact Nat.not_lt.mp (by with_reducible assumption)); (case a5 => with_reducible assumption); (case a6 => with_reducible assumption))))
  intro rv' h6 tk6 nw hr F8; refine park2 rv' nw ?_; intro Kp hKp; obtain ⟨Dp, no, yes, py, pn, ky, kn, rfl, rfl, spy, spn⟩ := hr; refine hKp _ _ ?_; clear hKp Kp; intro N8
  simp only [hE1] at spy spn
  rw [good_3] at spy
  rw [rest_3] at spn
  try dsimp only
  clear hE1 N6 N7
  repeat' (first | (k_unfold; (try dsimp only)) | (k_end; kc_close) | ((with_reducible show wpAny _ _ (compareOp CmpOp.NotEq (Value.ref _) (Value.ref _)) _ _ _); with_reducible ((with_reducible rename HoldNe => q9hHN); refine Hold.mk ?_)) | ((with_reducible show wpAny _ _ (compareOp CmpOp.NotEq (Value.str _ _) (Value.str _ _)) _ _ _); with_reducible ((with_reducible rename HoldNe => q9hHN); first | (with_reducible refine ne_str_of rfl ?_) | refine Hold.mk ?_)) | ((with_reducible show wpAny _ _ (compareOp CmpOp.NotIn (Value.str _ _) (Value.ref _)) _ _ _); with_reducible (k_dflt (refine' notin_list_strs (by exact News.isList (by k_asm) (by k_mem)) (by with_reducible assumption) ?_; k_whole))) | ((with_reducible show wpAny _ _ (call (Value.ref _) _ _) _ _ _); with_reducible (k_here; (first | (with_reducible show wpAny _ _ (call (Value.ref 228) _) _ _ _) | (with_reducible show wpAny _ _ (call (Value.ref 247) _) _ _ _) | (with_reducible show wpAny _ _ (call (Value.ref 240) _) _ _ _)); refine Hold.mk ?_)) | ((with_reducible show wpAny _ _ (call (Value.ref 233) _) _ _ _); with_reducible (refine Hold.mk ?_)) | ((with_reducible show wpAny _ _ (eval (Expr.ListComp ..) _) _ _ _); with_reducible (k_here; k_dflt (first | ((with_reducible show wpAny _ _ (eval (Expr.ListComp _ [⟨Expr.Name _ _, _, [], _⟩] _ _) _) _ _ _); refine lcs_U (_F₀ := by k_asm) (by with_unfolding_all rfl) (by decide) (by rfl) (by decide) (by rfl) ?_) | ((with_reducible show wpAny _ _ (eval (Expr.ListComp _ [⟨Expr.Name _ _, _, [_], _⟩] _ _) _) _ _ _); refine lcs_T (_F₀ := by k_asm) (by with_unfolding_all rfl) (by decide) (by rfl) (by decide) (by rfl) ?_)))) | ((with_reducible show wpAny _ _ (subscriptTail (Expr.Call _ _ _ _) _ (Value.ref _) (Value.ref _)) _ _ _); with_reducible ((with_reducible rename HoldNe => q9hHN); k_dflt (refine kba_turn (value' := Expr.Name (Str.ofString "_") ⟨0, 0, 0, 0⟩) (fun _ => rfl) ?_))) | ((with_reducible show InPost ..); with_reducible (k_here; k_dflt (refine' ⟨_, _, rfl, (by k_asm), cb_drop (by k_asm) (by kcj_all), ?_⟩))) | ((with_reducible show wpAny _ _ (newList ..) _ _ _); with_reducible (k_here; k_dflt (refine' newList_K (by k_asm) (by k_asm) ?_ (by first | exact Nat.zero_le _ | exact Nat.le_of_ble_eq_true rfl | size_fits); k_whole); intro q9l' q9h' q9F' q9N' q9l1; (try k_lt q9l1); (try k_sweep))) | walk1 | (dsimp only; walk1) | (leave1; (try dsimp only)))
  rename Fr _ _ _ _ => F9; rename News _ _ _ _ => N9
  refine genT_of (its := rowsF) (fun z => !((goodL 3).any fun x => x == z)) (fun z => z) rfl F9 N9 (inSrc_list rfl N9 (by k_mem)) (fun p hp => by rw [List.mem_singleton.mp hp]; k_mem) (listAt_of hrv) (size_of_strs hrv) (by rw [sizeLine_eq]; exact Nat.le_trans rows_len (by decide)) ?turnN ?finN
  case turnN =>
    intro z tz I2 oI2 C2 oC2 D2 m₂ zs' h tk E' hz hC hx F6 N6 off ne
    clear F9 N9 spy spn hrv
    repeat' (first | (k_unfold; (try dsimp only)) | (k_end; kc_close) | ((with_reducible show wpAny _ _ (compareOp CmpOp.NotEq (Value.ref _) (Value.ref _)) _ _ _); with_reducible ((with_reducible rename HoldNe => q9hHN); refine Hold.mk ?_)) | ((with_reducible show wpAny _ _ (compareOp CmpOp.NotEq (Value.str _ _) (Value.str _ _)) _ _ _); with_reducible ((with_reducible rename HoldNe => q9hHN); first | (with_reducible refine ne_str_of rfl ?_) | refine Hold.mk ?_)) | ((with_reducible show wpAny _ _ (compareOp CmpOp.NotIn (Value.str _ _) (Value.ref _)) _ _ _); with_reducible (k_dflt (refine' notin_list_strs (by exact News.isList (by k_asm) (by k_mem)) (by with_reducible assumption) ?_; k_whole))) | ((with_reducible show wpAny _ _ (call (Value.ref _) _ _) _ _ _); with_reducible (k_here; (first | (with_reducible show wpAny _ _ (call (Value.ref 228) _) _ _ _) | (with_reducible show wpAny _ _ (call (Value.ref 247) _) _ _ _) | (with_reducible show wpAny _ _ (call (Value.ref 240) _) _ _ _)); refine Hold.mk ?_)) | ((with_reducible show wpAny _ _ (call (Value.ref 233) _) _ _ _); with_reducible (refine Hold.mk ?_)) | ((with_reducible show wpAny _ _ (eval (Expr.ListComp ..) _) _ _ _); with_reducible (k_here; k_dflt (first | ((with_reducible show wpAny _ _ (eval (Expr.ListComp _ [⟨Expr.Name _ _, _, [], _⟩] _ _) _) _ _ _); refine lcs_U (_F₀ := by k_asm) (by with_unfolding_all rfl) (by decide) (by rfl) (by decide) (by rfl) ?_) | ((with_reducible show wpAny _ _ (eval (Expr.ListComp _ [⟨Expr.Name _ _, _, [_], _⟩] _ _) _) _ _ _); refine lcs_T (_F₀ := by k_asm) (by with_unfolding_all rfl) (by decide) (by rfl) (by decide) (by rfl) ?_)))) | ((with_reducible show wpAny _ _ (subscriptTail (Expr.Call _ _ _ _) _ (Value.ref _) (Value.ref _)) _ _ _); with_reducible ((with_reducible rename HoldNe => q9hHN); k_dflt (refine kba_turn (value' := Expr.Name (Str.ofString "_") ⟨0, 0, 0, 0⟩) (fun _ => rfl) ?_))) | ((with_reducible show InPost ..); with_reducible (k_here; k_dflt (refine' ⟨_, _, rfl, (by k_asm), cb_drop (by k_asm) (by kcj_all), ?_⟩))) | ((with_reducible show wpAny _ _ (newList ..) _ _ _); with_reducible (k_here; k_dflt (refine' newList_K (by k_asm) (by k_asm) ?_ (by first | exact Nat.zero_le _ | exact Nat.le_of_ble_eq_true rfl | size_fits); k_whole); intro q9l' q9h' q9F' q9N' q9l1; (try k_lt q9l1); (try k_sweep))) | walk1 | (dsimp only; walk1) | (leave1; (try dsimp only)))
    all_goals first
      | exact IsText.mk
      | (rename (!(List.any (goodL 3) _)) = false => hx; exact hx)
      | (rename (List.any (goodL 3) _) = true => hx; show (!(List.any (goodL 3) _)) = false; rw [hx]; rfl)
      | (dsimp only; with_reducible assumption)
  case finN =>
    intro q kv hkv
    rw [List.map_id'] at hkv
    clear F9 N9
    repeat' (first | (k_unfold; (try dsimp only)) | (k_end; kc_close) | ((with_reducible show wpAny _ _ (compareOp CmpOp.NotEq (Value.ref _) (Value.ref _)) _ _ _); with_reducible ((with_reducible rename HoldNe => q9hHN); refine Hold.mk ?_)) | ((with_reducible show wpAny _ _ (compareOp CmpOp.NotEq (Value.str _ _) (Value.str _ _)) _ _ _); with_reducible ((with_reducible rename HoldNe => q9hHN); first | (with_reducible refine ne_str_of rfl ?_) | refine Hold.mk ?_)) | ((with_reducible show wpAny _ _ (compareOp CmpOp.NotIn (Value.str _ _) (Value.ref _)) _ _ _); with_reducible (k_dflt (refine' notin_list_strs (by exact News.isList (by k_asm) (by k_mem)) (by with_reducible assumption) ?_; k_whole))) | ((with_reducible show wpAny _ _ (call (Value.ref _) _ _) _ _ _); with_reducible (k_here; (first | (with_reducible show wpAny _ _ (call (Value.ref 228) _) _ _ _) | (with_reducible show wpAny _ _ (call (Value.ref 247) _) _ _ _) | (with_reducible show wpAny _ _ (call (Value.ref 240) _) _ _ _)); refine Hold.mk ?_)) | ((with_reducible show wpAny _ _ (call (Value.ref 233) _) _ _ _); with_reducible (refine Hold.mk ?_)) | ((with_reducible show wpAny _ _ (eval (Expr.ListComp ..) _) _ _ _); with_reducible (k_here; k_dflt (first | ((with_reducible show wpAny _ _ (eval (Expr.ListComp _ [⟨Expr.Name _ _, _, [], _⟩] _ _) _) _ _ _); refine lcs_U (_F₀ := by k_asm) (by with_unfolding_all rfl) (by decide) (by rfl) (by decide) (by rfl) ?_) | ((with_reducible show wpAny _ _ (eval (Expr.ListComp _ [⟨Expr.Name _ _, _, [_], _⟩] _ _) _) _ _ _); refine lcs_T (_F₀ := by k_asm) (by with_unfolding_all rfl) (by decide) (by rfl) (by decide) (by rfl) ?_)))) | ((with_reducible show wpAny _ _ (subscriptTail (Expr.Call _ _ _ _) _ (Value.ref _) (Value.ref _)) _ _ _); with_reducible ((with_reducible rename HoldNe => q9hHN); k_dflt (refine kba_turn (value' := Expr.Name (Str.ofString "_") ⟨0, 0, 0, 0⟩) (fun _ => rfl) ?_))) | ((with_reducible show InPost ..); with_reducible (k_here; k_dflt (refine' ⟨_, _, rfl, (by k_asm), cb_drop (by k_asm) (by kcj_all), ?_⟩))) | ((with_reducible show wpAny _ _ (newList ..) _ _ _); with_reducible (k_here; k_dflt (refine' newList_K (by k_asm) (by k_asm) ?_ (by first | exact Nat.zero_le _ | exact Nat.le_of_ble_eq_true rfl | size_fits); k_whole); intro q9l' q9h' q9F' q9N' q9l1; (try k_lt q9l1); (try k_sweep))) | walk1 | (dsimp only; walk1) | (leave1; (try dsimp only)))
    unfold Hold
    rename News _ _ _ _ => N12
    refine ne_parted N12 (by k_mem) (by k_mem) (by k_mem) (by k_mem) (by k_mem) (by k_mem) spy spn hgS hkv (good_in 3 good_3.symm) (fun x hx => rows_ok x (List.mem_filter.mp hx).1) (by ke_room) ?_
    repeat' (first | (k_unfold; (try dsimp only)) | (k_end; kc_close) | ((with_reducible show wpAny _ _ (compareOp CmpOp.NotEq (Value.ref _) (Value.ref _)) _ _ _); with_reducible ((with_reducible rename HoldNe => q9hHN); refine Hold.mk ?_)) | ((with_reducible show wpAny _ _ (compareOp CmpOp.NotEq (Value.str _ _) (Value.str _ _)) _ _ _); with_reducible ((with_reducible rename HoldNe => q9hHN); first | (with_reducible refine ne_str_of rfl ?_) | refine Hold.mk ?_)) | ((with_reducible show wpAny _ _ (compareOp CmpOp.NotIn (Value.str _ _) (Value.ref _)) _ _ _); with_reducible (k_dflt (refine' notin_list_strs (by exact News.isList (by k_asm) (by k_mem)) (by with_reducible assumption) ?_; k_whole))) | ((with_reducible show wpAny _ _ (call (Value.ref _) _ _) _ _ _); with_reducible (k_here; (first | (with_reducible show wpAny _ _ (call (Value.ref 228) _) _ _ _) | (with_reducible show wpAny _ _ (call (Value.ref 247) _) _ _ _) | (with_reducible show wpAny _ _ (call (Value.ref 240) _) _ _ _)); refine Hold.mk ?_)) | ((with_reducible show wpAny _ _ (call (Value.ref 233) _) _ _ _); with_reducible (refine Hold.mk ?_)) | ((with_reducible show wpAny _ _ (eval (Expr.ListComp ..) _) _ _ _); with_reducible (k_here; k_dflt (first | ((with_reducible show wpAny _ _ (eval (Expr.ListComp _ [⟨Expr.Name _ _, _, [], _⟩] _ _) _) _ _ _); refine lcs_U (_F₀ := by k_asm) (by with_unfolding_all rfl) (by decide) (by rfl) (by decide) (by rfl) ?_) | ((with_reducible show wpAny _ _ (eval (Expr.ListComp _ [⟨Expr.Name _ _, _, [_], _⟩] _ _) _) _ _ _); refine lcs_T (_F₀ := by k_asm) (by with_unfolding_all rfl) (by decide) (by rfl) (by decide) (by rfl) ?_)))) | ((with_reducible show wpAny _ _ (subscriptTail (Expr.Call _ _ _ _) _ (Value.ref _) (Value.ref _)) _ _ _); with_reducible ((with_reducible rename HoldNe => q9hHN); k_dflt (refine kba_turn (value' := Expr.Name (Str.ofString "_") ⟨0, 0, 0, 0⟩) (fun _ => rfl) ?_))) | ((with_reducible show InPost ..); with_reducible (k_here; k_dflt (refine' ⟨_, _, rfl, (by k_asm), cb_drop (by k_asm) (by kcj_all), ?_⟩))) | ((with_reducible show wpAny _ _ (newList ..) _ _ _); with_reducible (k_here; k_dflt (refine' newList_K (by k_asm) (by k_asm) ?_ (by first | exact Nat.zero_le _ | exact Nat.le_of_ble_eq_true rfl | size_fits); k_whole); intro q9l' q9h' q9F' q9N' q9l1; (try k_lt q9l1); (try k_sweep))) | walk1 | (dsimp only; walk1) | (leave1; (try dsimp only)))
    ((unfold Hold; k_dflt (refine' c_pairs _ _ ?pa _ _ _ _ _ _ _ _ _ _ _ _ _ _ _ _ _ _ _ _ ?B ?F ?X ?N ?T ?d ?u ?_; (case B => k_asm); (case F => k_asm); (case X => k_in); (case N => k_asm); (case T => k_asm); (case d => first | exact Nat.le_of_ble_eq_true rfl | ktr_room); (case u => first | exact Nat.le_of_ble_eq_true rfl | ktr_room); (case pa => exact Nat.le_of_ble_eq_true rfl))))
    intro rv2 h7 tk7 nw2 hr F13; refine park2 rv2 nw2 ?_; intro Kp hKp; obtain ⟨pD, pv, rfl, rfl, pS, pO⟩ := hr; refine hKp _ _ ?_; clear hKp Kp; intro N13
    rw [pairs_3] at pS
    obtain ⟨us0, us1, us2, us3, us4, us5, us6, us7, rfl⟩ := strs_eight pS
    clear pS
    try dsimp only
    repeat' (first | (k_unfold; (try dsimp only)) | (k_end; kc_close) | ((with_reducible show wpAny _ _ (compareOp CmpOp.NotEq (Value.ref _) (Value.ref _)) _ _ _); with_reducible ((with_reducible rename HoldNe => q9hHN); refine Hold.mk ?_)) | ((with_reducible show wpAny _ _ (compareOp CmpOp.NotEq (Value.str _ _) (Value.str _ _)) _ _ _); with_reducible ((with_reducible rename HoldNe => q9hHN); first | (with_reducible refine ne_str_of rfl ?_) | refine Hold.mk ?_)) | ((with_reducible show wpAny _ _ (compareOp CmpOp.NotIn (Value.str _ _) (Value.ref _)) _ _ _); with_reducible (k_dflt (refine' notin_list_strs (by exact News.isList (by k_asm) (by k_mem)) (by with_reducible assumption) ?_; k_whole))) | ((with_reducible show wpAny _ _ (call (Value.ref _) _ _) _ _ _); with_reducible (k_here; (first | (with_reducible show wpAny _ _ (call (Value.ref 228) _) _ _ _) | (with_reducible show wpAny _ _ (call (Value.ref 247) _) _ _ _) | (with_reducible show wpAny _ _ (call (Value.ref 240) _) _ _ _)); refine Hold.mk ?_)) | ((with_reducible show wpAny _ _ (call (Value.ref 233) _) _ _ _); with_reducible (refine Hold.mk ?_)) | ((with_reducible show wpAny _ _ (eval (Expr.ListComp ..) _) _ _ _); with_reducible (k_here; k_dflt (first | ((with_reducible show wpAny _ _ (eval (Expr.ListComp _ [⟨Expr.Name _ _, _, [], _⟩] _ _) _) _ _ _); refine lcs_U (_F₀ := by k_asm) (by with_unfolding_all rfl) (by decide) (by rfl) (by decide) (by rfl) ?_) | ((with_reducible show wpAny _ _ (eval (Expr.ListComp _ [⟨Expr.Name _ _, _, [_], _⟩] _ _) _) _ _ _); refine lcs_T (_F₀ := by k_asm) (by with_unfolding_all rfl) (by decide) (by rfl) (by decide) (by rfl) ?_)))) | ((with_reducible show wpAny _ _ (subscriptTail (Expr.Call _ _ _ _) _ (Value.ref _) (Value.ref _)) _ _ _); with_reducible ((with_reducible rename HoldNe => q9hHN); k_dflt (refine kba_turn (value' := Expr.Name (Str.ofString "_") ⟨0, 0, 0, 0⟩) (fun _ => rfl) ?_))) | ((with_reducible show InPost ..); with_reducible (k_here; k_dflt (refine' ⟨_, _, rfl, (by k_asm), cb_drop (by k_asm) (by kcj_all), ?_⟩))) | ((with_reducible show wpAny _ _ (newList ..) _ _ _); with_reducible (k_here; k_dflt (refine' newList_K (by k_asm) (by k_asm) ?_ (by first | exact Nat.zero_le _ | exact Nat.le_of_ble_eq_true rfl | size_fits); k_whole); intro q9l' q9h' q9F' q9N' q9l1; (try k_lt q9l1); (try k_sweep))) | walk1 | (dsimp only; walk1) | (leave1; (try dsimp only)))
    ((unfold Hold; k_dflt (refine' c_kindS3 _ _ _ _ _ _ _ _ _ _ _ _ _ _ _ _ _ _ ?a1 ok_slash ok_slash ok_slash _ _ _ _ _ _ _ _ _ _ _ _ _ _ _ _ _ _ ?B ?F ?X ?N ?T ?d ?u ?_; (case B => k_asm); (case F => k_asm); (case X => k_in); (case N => k_asm); (case T => k_asm); (case d => first | exact Nat.le_of_ble_eq_true rfl | ktr_room); (case u => first | exact Nat.le_of_ble_eq_true rfl | ktr_room); (case a1 => exact Nat.not_lt.mp (by with_reducible assumption)))))
    intro rv3 h8 tk8 nw3 hr F14; refine park2 rv3 nw3 ?_; intro Kp hKp; obtain ⟨tS, rfl, rfl⟩ := hr; refine hKp _ _ ?_; clear hKp Kp; intro N14
    try dsimp only
    repeat' (first | (k_unfold; (try dsimp only)) | (k_end; kc_close) | ((with_reducible show wpAny _ _ (compareOp CmpOp.NotEq (Value.ref _) (Value.ref _)) _ _ _); with_reducible ((with_reducible rename HoldNe => q9hHN); refine Hold.mk ?_)) | ((with_reducible show wpAny _ _ (compareOp CmpOp.NotEq (Value.str _ _) (Value.str _ _)) _ _ _); with_reducible ((with_reducible rename HoldNe => q9hHN); first | (with_reducible refine ne_str_of rfl ?_) | refine Hold.mk ?_)) | ((with_reducible show wpAny _ _ (compareOp CmpOp.NotIn (Value.str _ _) (Value.ref _)) _ _ _); with_reducible (k_dflt (refine' notin_list_strs (by exact News.isList (by k_asm) (by k_mem)) (by with_reducible assumption) ?_; k_whole))) | ((with_reducible show wpAny _ _ (call (Value.ref _) _ _) _ _ _); with_reducible (k_here; (first | (with_reducible show wpAny _ _ (call (Value.ref 228) _) _ _ _) | (with_reducible show wpAny _ _ (call (Value.ref 247) _) _ _ _) | (with_reducible show wpAny _ _ (call (Value.ref 240) _) _ _ _)); refine Hold.mk ?_)) | ((with_reducible show wpAny _ _ (call (Value.ref 233) _) _ _ _); with_reducible (refine Hold.mk ?_)) | ((with_reducible show wpAny _ _ (eval (Expr.ListComp ..) _) _ _ _); with_reducible (k_here; k_dflt (first | ((with_reducible show wpAny _ _ (eval (Expr.ListComp _ [⟨Expr.Name _ _, _, [], _⟩] _ _) _) _ _ _); refine lcs_U (_F₀ := by k_asm) (by with_unfolding_all rfl) (by decide) (by rfl) (by decide) (by rfl) ?_) | ((with_reducible show wpAny _ _ (eval (Expr.ListComp _ [⟨Expr.Name _ _, _, [_], _⟩] _ _) _) _ _ _); refine lcs_T (_F₀ := by k_asm) (by with_unfolding_all rfl) (by decide) (by rfl) (by decide) (by rfl) ?_)))) | ((with_reducible show wpAny _ _ (subscriptTail (Expr.Call _ _ _ _) _ (Value.ref _) (Value.ref _)) _ _ _); with_reducible ((with_reducible rename HoldNe => q9hHN); k_dflt (refine kba_turn (value' := Expr.Name (Str.ofString "_") ⟨0, 0, 0, 0⟩) (fun _ => rfl) ?_))) | ((with_reducible show InPost ..); with_reducible (k_here; k_dflt (refine' ⟨_, _, rfl, (by k_asm), cb_drop (by k_asm) (by kcj_all), ?_⟩))) | ((with_reducible show wpAny _ _ (newList ..) _ _ _); with_reducible (k_here; k_dflt (refine' newList_K (by k_asm) (by k_asm) ?_ (by first | exact Nat.zero_le _ | exact Nat.le_of_ble_eq_true rfl | size_fits); k_whole); intro q9l' q9h' q9F' q9N' q9l1; (try k_lt q9l1); (try k_sweep))) | walk1 | (dsimp only; walk1) | (leave1; (try dsimp only)))
    ((unfold Hold; k_dflt (refine' c_kindE _ _ _ _ _ _ ?a1 _ _ _ _ _ _ _ _ _ _ _ _ _ _ _ _ _ _ ?B ?F ?X ?N ?T ?d ?u ?_; (case B => k_asm); (case F => k_asm); (case X => k_in); (case N => k_asm); (case T => k_asm); (case d => first | exact Nat.le_of_ble_eq_true rfl | ktr_room); (case u => first | exact Nat.le_of_ble_eq_true rfl | ktr_room); (case a1 => exact Nat.not_lt.mp (by with_reducible assumption)))))
    intro rv4 h9 tk9 nw4 hr F15; refine park2 rv4 nw4 ?_; intro Kp hKp; obtain ⟨tE, rfl, rfl⟩ := hr; refine hKp _ _ ?_; clear hKp Kp; intro N15
    try dsimp only
    repeat' (first | (k_unfold; (try dsimp only)) | (k_end; kc_close) | ((with_reducible show wpAny _ _ (compareOp CmpOp.NotEq (Value.ref _) (Value.ref _)) _ _ _); with_reducible ((with_reducible rename HoldNe => q9hHN); refine Hold.mk ?_)) | ((with_reducible show wpAny _ _ (compareOp CmpOp.NotEq (Value.str _ _) (Value.str _ _)) _ _ _); with_reducible ((with_reducible rename HoldNe => q9hHN); first | (with_reducible refine ne_str_of rfl ?_) | refine Hold.mk ?_)) | ((with_reducible show wpAny _ _ (compareOp CmpOp.NotIn (Value.str _ _) (Value.ref _)) _ _ _); with_reducible (k_dflt (refine' notin_list_strs (by exact News.isList (by k_asm) (by k_mem)) (by with_reducible assumption) ?_; k_whole))) | ((with_reducible show wpAny _ _ (call (Value.ref _) _ _) _ _ _); with_reducible (k_here; (first | (with_reducible show wpAny _ _ (call (Value.ref 228) _) _ _ _) | (with_reducible show wpAny _ _ (call (Value.ref 247) _) _ _ _) | (with_reducible show wpAny _ _ (call (Value.ref 240) _) _ _ _)); refine Hold.mk ?_)) | ((with_reducible show wpAny _ _ (call (Value.ref 233) _) _ _ _); with_reducible (refine Hold.mk ?_)) | ((with_reducible show wpAny _ _ (eval (Expr.ListComp ..) _) _ _ _); with_reducible (k_here; k_dflt (first | ((with_reducible show wpAny _ _ (eval (Expr.ListComp _ [⟨Expr.Name _ _, _, [], _⟩] _ _) _) _ _ _); refine lcs_U (_F₀ := by k_asm) (by with_unfolding_all rfl) (by decide) (by rfl) (by decide) (by rfl) ?_) | ((with_reducible show wpAny _ _ (eval (Expr.ListComp _ [⟨Expr.Name _ _, _, [_], _⟩] _ _) _) _ _ _); refine lcs_T (_F₀ := by k_asm) (by with_unfolding_all rfl) (by decide) (by rfl) (by decide) (by rfl) ?_)))) | ((with_reducible show wpAny _ _ (subscriptTail (Expr.Call _ _ _ _) _ (Value.ref _) (Value.ref _)) _ _ _); with_reducible ((with_reducible rename HoldNe => q9hHN); k_dflt (refine kba_turn (value' := Expr.Name (Str.ofString "_") ⟨0, 0, 0, 0⟩) (fun _ => rfl) ?_))) | ((with_reducible show InPost ..); with_reducible (k_here; k_dflt (refine' ⟨_, _, rfl, (by k_asm), cb_drop (by k_asm) (by kcj_all), ?_⟩))) | ((with_reducible show wpAny _ _ (newList ..) _ _ _); with_reducible (k_here; k_dflt (refine' newList_K (by k_asm) (by k_asm) ?_ (by first | exact Nat.zero_le _ | exact Nat.le_of_ble_eq_true rfl | size_fits); k_whole); intro q9l' q9h' q9F' q9N' q9l1; (try k_lt q9l1); (try k_sweep))) | walk1 | (dsimp only; walk1) | (leave1; (try dsimp only)))
    rename Fr _ _ _ _ => F16; rename News _ _ _ _ => N16
    refine hQ _ _  F16 (cb_drop N16 (by kcj_all)) ?nO
    simp only [List.forall_mem_cons]
    refine ⟨hoff (R, _) (.head _), ?c1, hoff (242, _) (.tail _ (.tail _ (.head _))), hoff (_, _) (.tail _ (.tail _ (.tail _ (.head _)))), hoff (_, _) (.tail _ (.tail _ (.tail _ (.tail _ (.head _))))), fun _ h => nomatch h⟩
    exact hoff (c', oc) (.tail _ (.head _))
end
end Mine
end
section
open PySem PySem.W PySem.Calls PyProof.Rows
set_option Elab.async false
set_option maxRecDepth 100000
set_option maxHeartbeats 40000000
namespace Mine
theorem anew_CS10a : True := by
  w_top off
  exact True.intro
section
variable {w : World} {p : Program} {loose : List Str} {mean : ExcName → Option Value} {mg mb : Str → Option Value} {h₀ : Heap} {L : Nat} {fa : Addr} {cd : Value} {m : Str → Option Value} {w2 w1 : Obj} {Q : Flow → Shared → Prop} {E : Value → Shared → Prop} {s : Shared}
variable {text : Str} {tt tp tw tv tc td tn tT t2n t2 tkA tkB : Tok} {D B x1 d1 l1 x2 d2 l2 T T2 D2 R : Addr} {ys vs rv : List Value} {ns : List Int} {oB : Obj} {hs1 hs2 : Int} {k1 k2 rn : Nat} {bo to si : Value} {fr : Bool}
set_option maxHeartbeats 40000000
variable {ba en li re : Value} {bare e line nxt : Str} {tb te tli tre tl : Tok} {I c' G : Addr} {oI oc oL oG wG wL : Obj} {vs0 : Array Value} {t0 : Tok} {mZ : Str → Option Value} {dI : Int} {v0 vL v1 : Option Value} {gv : List Value}
theorem S10a (hX : (hd.heap_39 w.params).In h₀) (hTp : Top p loose mean mg mb h₀) (hBl : Below callerA h₀ [] h₀) (hCh : CodeHd h₀ 246 242) (hE : PassesOwn (model Challenge.rw_pm0051_01.row.prog w) (callerA.deeper (lawE L fa cd)) (lawE L fa cd) E) (hl0 : 242 < L)
    (hText : TextOk text) (hrv : StrsAre rv rowsF) (hw2 : w2.data = .cell v0) (hw1 : w1.data = .cell v1)
    (F1 : Fr h₀ L s.heap (mE (page2F (cleanF text)) tre (mD 2 td (mR (.ref R) si (mC (cleanF text) tc (mF (.bool fr) (m4 bo to (m3 (valF (plainF text)) tv (m2 (plainF text) tp tw x1 x2 (m1 text tt D m)))))))))) (N1 : News h₀ L s.heap ((R, W.listOf rv.toArray rn) :: led0 L B D ys vs oB w2 w1))
    (hQ : ∀ h' tk m' news', JN L R rv rn w2 w1 2 news' → Fr h₀ L h' m' → News h₀ L h' news' → Q (.ret (.bool true)) { s with heap := h', toks := tk }) :
    lawW w L fa cd 22 Q E s := by
  revert hX; unfold lawW; k_fill; intro hX
  obtain ⟨h1, g1, n1, tk1, os1⟩ := s
  dsimp only [lawB, lawRec, recOf, lawE, List.drop]
  dsimp only [lawE, lawRec, recOf] at hE
  dsimp only [led0] at N1
  have hCl := clean_ok hText
  have hclen := hCl.len
  have hHN : HoldNe := trivial
  repeat' (first | (k_unfold; (try dsimp only)) | (k_end; kc_close) | ((with_reducible show wpAny _ _ (exec (Stmt.For (Expr.Name ..) (Expr.Call ..) (_ :: _) [] ..) _) _ _ _); with_reducible (k_here; (with_reducible rename HoldNe => q9hHN); k_dflt (refine for_held (by intro _; rfl) ?_))) | walk1 | (dsimp only; walk1) | (leave1; (try dsimp only)))
  rename IsRange _ _ _ _ _ _ _ _ => hRg
  rename Fr _ _ _ _ => F2; rename News _ _ _ _ => N2
  refine for_law2 (pI2 (cleanF text)) rfl (by passes_own) hRg (by decide) (n := 2) (by decide) F2 (cb_drop N2 (by kcj_all)) ?turn ?done
  case done =>
    clear F2 N2
    intro m₁ news₁ h tk hJ F3 N3
    obtain ⟨⟨ba, en, li, tR, rfl⟩, hN⟩ := hJ
    try dsimp only
    repeat' (first | (k_unfold; (try dsimp only)) | (k_end; kc_close) | ((with_reducible show wpAny _ _ (exec (Stmt.For (Expr.Name ..) (Expr.Call ..) (_ :: _) [] ..) _) _ _ _); with_reducible (k_here; (with_reducible rename HoldNe => q9hHN); k_dflt (refine for_held (by intro _; rfl) ?_))) | walk1 | (dsimp only; walk1) | (leave1; (try dsimp only)))
    rename Fr _ _ _ _ => F9; rename News _ _ _ _ => N9
    exact hQ _ _ _ _ hN F9 N9
  case turn =>
    clear F2 N2
    intro i m₁ news₁ h tk tl I oI hi hJ hoff F3 N3
    obtain ⟨hM, hN⟩ := hJ
    have hi2 : i = 0 ∨ i = 1 := by omega
    rcases hi2 with rfl | rfl
    · obtain ⟨tr', rfl⟩ := hM
      cases hN
      dsimp only [pI2] at F3
      rw [show (1 : Int) + ((0 : Nat) : Int) = 1 from rfl]
      try dsimp only
      have hne := jn0_ne N3 hw2 hw1
      refine store_level0 F3 rfl N3 hw1 hl0 hoff rfl rfl ?_
      intro h4 oL F4 N4 hcL
      clear F3 N3
      refine SP20 hX hTp hBl hE hText hcL F4 N4 ?_
      intro h5 tk5 tb te tli tre F5 N5
      refine SG1 hX hTp hBl hE hl0 hrv hcL hw2 hne.1 (Ne.symm (hoff (_, _) (.tail _ (.tail _ (.head _))))) F5 N5 ?_
      intro h6 tk6 G gv oG hg hcG F6 N6
      refine SH1 hX hTp hBl hCh hE hl0 hrv hne.2.2 hoff hcL hcG hg (fun row => parted_eq hCl 1 (by decide +kernel) rfl (bare_1 _ _) row) (line_lens (e := Str.ofString "\r") hclen.2 (by decide +kernel)).1 F6 N6 ?_
      intro h7 tk7 c' oc vs0 t0 hoc hov F7 N7 off7
      show TurnEnd _ _ _ _ _ _ _
      exact ⟨_, _, _, _, rfl, F7, N7, off7, ⟨_, _, _, _, rfl⟩, c', oc, vs0, t0, oG, oL, _, _, rfl, hoc, hov, hcG, hcL⟩
    · obtain ⟨ba, en, li, tr', rfl⟩ := hM
      obtain ⟨c', oc, vs0, t0, oG0, oL0, vG0, vL0, rfl, hoc, hov, hG0, hL0⟩ := hN
      dsimp only [pI2, Nat.reduceAdd] at F3
      rw [show (1 : Int) + ((1 : Nat) : Int) = 2 from rfl]
      try dsimp only
      have hne := jn1_ne N3 hoc hG0 hL0
      refine store_level1 F3 rfl N3 hoc hL0 hl0 hoff rfl rfl ?_
      intro h4 oL F4 N4 hcL
      clear F3 N3
      refine SP21 hX hTp hBl hE hText hcL F4 N4 ?_
      intro h5 tk5 tb te tli tre F5 N5
      refine SG2 hX hTp hBl hE hl0 hrv hcL hG0 hne.1 (Ne.symm (hoff (_, _) (.tail _ (.tail _ (.tail _ (.head _)))))) hne.2.2.1 F5 N5 ?_
      intro h6 tk6 G gv oG hg hcG F6 N6
      refine SH2 hX hTp hBl hCh hE hl0 hrv hne.2.2.2.2 (data_ne N4 (.tail _ (.head _)) (.tail _ (.tail _ (.tail _ (.head _)))) rfl rfl (by simp)) hoc hov hoff hcL hcG hg (fun row => parted_eq hCl 2 (by decide +kernel) rfl (bare_2 _ _) row) (line_lens (e := Str.ofString "") hclen.2 (by decide +kernel)).2.1 F6 N6 ?_
      intro h7 tk7 F7 N7 off7
      show TurnEnd _ _ _ _ _ _ _
      exact ⟨_, _, _, _, rfl, F7, N7, off7, ⟨_, _, _, _, rfl⟩, c', oc, vs0, t0, oG, oL, _, _, rfl, hoc, hov, hcG, hcL⟩
end
end Mine
end
section
open PySem PySem.W PySem.Calls PyProof.Rows
set_option Elab.async false
set_option maxRecDepth 100000
set_option maxHeartbeats 40000000
namespace Mine
theorem anew_CS10b : True := by
  w_top off
  exact True.intro
section
variable {w : World} {p : Program} {loose : List Str} {mean : ExcName → Option Value} {mg mb : Str → Option Value} {h₀ : Heap} {L : Nat} {fa : Addr} {cd : Value} {m : Str → Option Value} {w2 w1 : Obj} {Q : Flow → Shared → Prop} {E : Value → Shared → Prop} {s : Shared}
variable {text : Str} {tt tp tw tv tc td tn tT t2n t2 tkA tkB : Tok} {D B x1 d1 l1 x2 d2 l2 T T2 D2 R : Addr} {ys vs rv : List Value} {ns : List Int} {oB : Obj} {hs1 hs2 : Int} {k1 k2 rn : Nat} {bo to si : Value} {fr : Bool}
set_option maxHeartbeats 40000000
variable {ba en li re : Value} {bare e line nxt : Str} {tb te tli tre tl : Tok} {I c' G : Addr} {oI oc oL oG wG wL : Obj} {vs0 : Array Value} {t0 : Tok} {mZ : Str → Option Value} {dI : Int} {v0 vL v1 : Option Value} {gv : List Value}
theorem S10b (hX : (hd.heap_39 w.params).In h₀) (hTp : Top p loose mean mg mb h₀) (hBl : Below callerA h₀ [] h₀) (hCh : CodeHd h₀ 246 242) (hE : PassesOwn (model Challenge.rw_pm0051_01.row.prog w) (callerA.deeper (lawE L fa cd)) (lawE L fa cd) E) (hl0 : 242 < L)
    (hText : TextOk text) (hrv : StrsAre rv rowsF) (hw2 : w2.data = .cell v0) (hw1 : w1.data = .cell v1)
    (F1 : Fr h₀ L s.heap (mE (page3F (cleanF text)) tre (mD 3 td (mR (.ref R) si (mC (cleanF text) tc (mF (.bool fr) (m4 bo to (m3 (valF (plainF text)) tv (m2 (plainF text) tp tw x1 x2 (m1 text tt D m)))))))))) (N1 : News h₀ L s.heap ((R, W.listOf rv.toArray rn) :: led0 L B D ys vs oB w2 w1))
    (hQ : ∀ h' tk m' news', JN L R rv rn w2 w1 3 news' → Fr h₀ L h' m' → News h₀ L h' news' → Q (.ret (.bool true)) { s with heap := h', toks := tk }) :
    lawW w L fa cd 22 Q E s := by
  revert hX; unfold lawW; k_fill; intro hX
  obtain ⟨h1, g1, n1, tk1, os1⟩ := s
  dsimp only [lawB, lawRec, recOf, lawE, List.drop]
  dsimp only [lawE, lawRec, recOf] at hE
  dsimp only [led0] at N1
  have hCl := clean_ok hText
  have hclen := hCl.len
  have hHN : HoldNe := trivial
  repeat' (first | (k_unfold; (try dsimp only)) | (k_end; kc_close) | ((with_reducible show wpAny _ _ (exec (Stmt.For (Expr.Name ..) (Expr.Call ..) (_ :: _) [] ..) _) _ _ _); with_reducible (k_here; (with_reducible rename HoldNe => q9hHN); k_dflt (refine for_held (by intro _; rfl) ?_))) | walk1 | (dsimp only; walk1) | (leave1; (try dsimp only)))
  rename IsRange _ _ _ _ _ _ _ _ => hRg
  rename Fr _ _ _ _ => F2; rename News _ _ _ _ => N2
  refine for_law2 (pI3 (cleanF text)) rfl (by passes_own) hRg (by decide) (n := 3) (by decide) F2 (cb_drop N2 (by kcj_all)) ?turn ?done
  case done =>
    clear F2 N2
    intro m₁ news₁ h tk hJ F3 N3
    obtain ⟨⟨ba, en, li, tR, rfl⟩, hN⟩ := hJ
    try dsimp only
    repeat' (first | (k_unfold; (try dsimp only)) | (k_end; kc_close) | ((with_reducible show wpAny _ _ (exec (Stmt.For (Expr.Name ..) (Expr.Call ..) (_ :: _) [] ..) _) _ _ _); with_reducible (k_here; (with_reducible rename HoldNe => q9hHN); k_dflt (refine for_held (by intro _; rfl) ?_))) | walk1 | (dsimp only; walk1) | (leave1; (try dsimp only)))
    rename Fr _ _ _ _ => F9; rename News _ _ _ _ => N9
    exact hQ _ _ _ _ hN F9 N9
  case turn =>
    clear F2 N2
    intro i m₁ news₁ h tk tl I oI hi hJ hoff F3 N3
    obtain ⟨hM, hN⟩ := hJ
    have hi2 : i = 0 ∨ i = 1 ∨ i = 2 := by omega
    rcases hi2 with rfl | rfl | rfl
    · obtain ⟨tr', rfl⟩ := hM
      cases hN
      dsimp only [pI3] at F3
      rw [show (1 : Int) + ((0 : Nat) : Int) = 1 from rfl]
      try dsimp only
      have hne := jn0_ne N3 hw2 hw1
      refine store_level0 F3 rfl N3 hw1 hl0 hoff rfl rfl ?_
      intro h4 oL F4 N4 hcL
      clear F3 N3
      refine SP30 hX hTp hBl hE hText hcL F4 N4 ?_
      intro h5 tk5 tb te tli tre F5 N5
      refine SG1 hX hTp hBl hE hl0 hrv hcL hw2 hne.1 (Ne.symm (hoff (_, _) (.tail _ (.tail _ (.head _))))) F5 N5 ?_
      intro h6 tk6 G gv oG hg hcG F6 N6
      refine SH1 hX hTp hBl hCh hE hl0 hrv hne.2.2 hoff hcL hcG hg (fun row => parted_eq hCl 1 (by decide +kernel) rfl (bare_1 _ _) row) (line_lens (e := Str.ofString "\r") hclen.2 (by decide +kernel)).1 F6 N6 ?_
      intro h7 tk7 c' oc vs0 t0 hoc hov F7 N7 off7
      show TurnEnd _ _ _ _ _ _ _
      exact ⟨_, _, _, _, rfl, F7, N7, off7, ⟨_, _, _, _, rfl⟩, c', oc, vs0, t0, oG, oL, _, _, rfl, hoc, hov, hcG, hcL⟩
    · obtain ⟨ba, en, li, tr', rfl⟩ := hM
      obtain ⟨c', oc, vs0, t0, oG0, oL0, vG0, vL0, rfl, hoc, hov, hG0, hL0⟩ := hN
      dsimp only [pI3, Nat.reduceAdd] at F3
      rw [show (1 : Int) + ((1 : Nat) : Int) = 2 from rfl]
      try dsimp only
      have hne := jn1_ne N3 hoc hG0 hL0
      refine store_level1 F3 rfl N3 hoc hL0 hl0 hoff rfl rfl ?_
      intro h4 oL F4 N4 hcL
      clear F3 N3
      refine SP31 hX hTp hBl hE hText hcL F4 N4 ?_
      intro h5 tk5 tb te tli tre F5 N5
      refine SG2 hX hTp hBl hE hl0 hrv hcL hG0 hne.1 (Ne.symm (hoff (_, _) (.tail _ (.tail _ (.tail _ (.head _)))))) hne.2.2.1 F5 N5 ?_
      intro h6 tk6 G gv oG hg hcG F6 N6
      refine SH2 hX hTp hBl hCh hE hl0 hrv hne.2.2.2.2 (data_ne N4 (.tail _ (.head _)) (.tail _ (.tail _ (.tail _ (.head _)))) rfl rfl (by simp)) hoc hov hoff hcL hcG hg (fun row => parted_eq hCl 2 (by decide +kernel) rfl (bare_2 _ _) row) (line_lens (e := Str.ofString "\r") hclen.2 (by decide +kernel)).2.1 F6 N6 ?_
      intro h7 tk7 F7 N7 off7
      show TurnEnd _ _ _ _ _ _ _
      exact ⟨_, _, _, _, rfl, F7, N7, off7, ⟨_, _, _, _, rfl⟩, c', oc, vs0, t0, oG, oL, _, _, rfl, hoc, hov, hcG, hcL⟩
    · obtain ⟨ba, en, li, tr', rfl⟩ := hM
      obtain ⟨c', oc, vs0, t0, oG0, oL0, vG0, vL0, rfl, hoc, hov, hG0, hL0⟩ := hN
      dsimp only [pI3, Nat.reduceAdd] at F3
      rw [show (1 : Int) + ((2 : Nat) : Int) = 3 from rfl]
      try dsimp only
      have hne := jn1_ne N3 hoc hG0 hL0
      refine store_level1 F3 rfl N3 hoc hL0 hl0 hoff rfl rfl ?_
      intro h4 oL F4 N4 hcL
      clear F3 N3
      refine SP32 hX hTp hBl hE hText hcL F4 N4 ?_
      intro h5 tk5 tb te tli tre F5 N5
      refine SG3 hX hTp hBl hE hl0 hrv hcL hG0 hne.1 (Ne.symm (hoff (_, _) (.tail _ (.tail _ (.tail _ (.head _)))))) hne.2.2.1 F5 N5 ?_
      intro h6 tk6 G gv oG hg hcG F6 N6
      refine SH3 hX hTp hBl hCh hE hl0 hrv hne.2.2.2.2 (data_ne N4 (.tail _ (.head _)) (.tail _ (.tail _ (.tail _ (.head _)))) rfl rfl (by simp)) hoc hov hoff hcL hcG hg (fun row => parted_eq hCl 3 (by decide +kernel) rfl (bare_3 _ _) row) (line_lens (e := Str.ofString "") hclen.2 (by decide +kernel)).2.2 F6 N6 ?_
      intro h7 tk7 F7 N7 off7
      show TurnEnd _ _ _ _ _ _ _
      exact ⟨_, _, _, _, rfl, F7, N7, off7, ⟨_, _, _, _, rfl⟩, c', oc, vs0, t0, oG, oL, _, _, rfl, hoc, hov, hcG, hcL⟩
end
end Mine
end
section
open PySem PySem.W PySem.Calls PyProof.Rows
set_option Elab.async false
set_option maxRecDepth 100000
set_option maxHeartbeats 40000000
namespace Mine
theorem anew_CLawB : True := by
  w_top off
  exact True.intro
section
variable {w : World} {p : Program} {loose : List Str} {mean : ExcName → Option Value} {mg mb : Str → Option Value} {h₀ : Heap} {L : Nat} {fa : Addr} {cd : Value} {m : Str → Option Value} {w2 w1 : Obj} {Q : Flow → Shared → Prop} {E : Value → Shared → Prop} {s : Shared}
variable {text : Str} {tt tp tw tv tc td tn tT t2n t2 tkA tkB : Tok} {D B x1 d1 l1 x2 d2 l2 T T2 D2 R : Addr} {ys vs rv : List Value} {ns : List Int} {oB : Obj} {hs1 hs2 : Int} {k1 k2 rn : Nat} {bo to si : Value} {fr : Bool}
set_option maxHeartbeats 40000000
variable {ba en li re : Value} {bare e line nxt : Str} {tb te tli tre tl : Tok} {I c' G : Addr} {oI oc oL oG wG wL : Obj} {vs0 : Array Value} {t0 : Tok} {mZ : Str → Option Value} {dI : Int} {v0 vL v1 : Option Value} {gv : List Value}
theorem law_chain (hX : (hd.heap_39 w.params).In h₀) (hTp : Top p loose mean mg mb h₀) (hBl : Below callerA h₀ [] h₀) (hCh : CodeHd h₀ 246 242) (hE : PassesOwn (model Challenge.rw_pm0051_01.row.prog w) (callerA.deeper (lawE L fa cd)) (lawE L fa cd) E) (hl0 : 242 < L) {aS : Addr} {us : List Value} {zs : List Int} {w0 : Obj} {v2 : Option Value} (hw2 : w2.data = .cell v2) (hw1 : w1.data = .cell v1) (hw0 : w0.data = .cell v0)
    (hI : IntsAre us zs) (hSc : h₀.IsList aS us.toArray) (hlen : zs.length ≤ 63)
    (F0 : Fr h₀ L s.heap (fun y => if y = Str.ofString "script" then some (.ref aS) else m y)) (N0 : News h₀ L s.heap [(L + 1 + 1 + 1, w2), (L + 1 + 1, w1), (L + 1, w0), (242, tabObj #[])])
    (hQ : ∀ h' tk m' R rv rn i news', JN L R rv rn w2 w1 (i + 1) news' → Fr h₀ L h' m' → News h₀ L h' news' → Q (.ret (.bool true)) { s with heap := h', toks := tk }) :
    lawW w L fa cd 0 Q E s := by
  refine S0 hX hTp hBl hE hl0 hw0 hI hSc hlen F0 N0 ?_
  intro h1 tk1 text tt D vs ns B ys oB hText hy hns hnl hcB F1 N1
  refine S1 hX hTp hBl hText F1 N1 ?_
  intro h2 tk2 tp tw x1 d1 l1 hs1 tkA k1 x2 d2 l2 hs2 tkB k2 hO F2 N2
  refine S2 hX hTp hBl hText hO F2 N2 ?_
  intro h3 tk3 T tn tT tv hT F3 N3
  have levels : ∀ h tk d td R rv rn si tc fr bo to, (d = 2 ∨ d = 3) → StrsAre rv rowsF → Fr h₀ L h (mD d td (mR (.ref R) si (mC (cleanF text) tc (mF (.bool fr) (m4 bo to (m3 (valF (plainF text)) tv (m2 (plainF text) tp tw x1 x2 (m1 text tt D (fun y => if y = Str.ofString "script" then some (.ref aS) else m y))))))))) → News h₀ L h ((R, W.listOf rv.toArray rn) :: led0 L B D ys vs oB w2 w1) → lawW w L fa cd 21 Q E { s with heap := h, toks := tk } := by
    intro h tk d td R rv rn si tc fr bo to hd hrv F N
    rcases hd with rfl | rfl
    · refine S9a hX hTp hBl hText F N ?_
      intro h4 tk4 tr F4 N4
      exact S10a hX hTp hBl hCh hE hl0 hText hrv hw2 hw1 F4 N4 fun h' tk m' news' hN F N => hQ _ _ _ _ _ _ _ _ hN F N
    · refine S9b hX hTp hBl hText F N ?_
      intro h4 tk4 tr F4 N4
      exact S10b hX hTp hBl hCh hE hl0 hText hrv hw2 hw1 F4 N4 fun h' tk m' news' hN F N => hQ _ _ _ _ _ _ _ _ hN F N
  have told : ∀ h tk fr bo to, Fr h₀ L h (mF (.bool fr) (m4 bo to (m3 (valF (plainF text)) tv (m2 (plainF text) tp tw x1 x2 (m1 text tt D (fun y => if y = Str.ofString "script" then some (.ref aS) else m y)))))) → News h₀ L h (led0 L B D ys vs oB w2 w1) → lawW w L fa cd 16 Q E { s with heap := h, toks := tk } := by
    intro h tk fr bo to F N
    refine S6 hX hTp hBl hText hy hcB F N ?_
    intro h4 tk4 tc F4 N4
    refine S7 hX hTp hBl hE F4 N4 ?_
    intro h5 tk5 R rv rn si hrv F5 N5
    refine S8 hX hTp hBl hns hnl F5 N5 ?_
    intro h6 tk6 d td hd F6 N6
    exact levels _ _ _ _ _ _ _ _ _ _ _ _ hd hrv F6 N6
  have free : ∀ h tk bo to, Fr h₀ L h (m4 bo to (m3 (valF (plainF text)) tv (m2 (plainF text) tp tw x1 x2 (m1 text tt D (fun y => if y = Str.ofString "script" then some (.ref aS) else m y))))) → News h₀ L h (tabled x1 d1 l1 hs1 tkA k1 [] 0 (led0 L B D ys vs oB w2 w1)) → lawW w L fa cd 13 Q E { s with heap := h, toks := tk } := by
    intro h tk bo to F N
    refine S4 hX hTp hBl hText F N ?_
    intro h4 tk4 fr hfg hfb F4 N4
    cases fr with
    | true => exact S5g hX hTp hBl hText hO.b0 hO.b1 hO.b2 (hfg rfl) F4 N4 fun h' tk F N => told _ _ _ _ _ F N
    | false => exact S5b hX hTp hBl hText hO.b0 hO.b1 hO.b2 (hfb rfl) F4 N4 fun h' tk F N => told _ _ _ _ _ F N
  by_cases hbad : bads text = []
  · refine S3g hX hTp hBl hText hO hT hbad hy hcB F3 N3 ?_
    intro h4 tk4 T2 t2n t2 D2 hoff F4 N4
    exact S3h hX hTp hBl hText hbad hoff hy hcB F4 N4 fun h' tk bo to F N => free _ _ _ _ F N
  · refine S3b hX hTp hBl hText hO hT hbad hy hcB F3 N3 ?_
    intro h4 tk4 D2 hoff F4 N4
    exact S3c hX hTp hBl hText hbad hoff hy hcB F4 N4 fun h' tk bo to F N => free _ _ _ _ F N
end
theorem fr_script {h₀ h : Heap} {L : Addr} {m : Str → Option Value} {v : Option Value} (F : Fr h₀ L h m) (e : m (Str.ofString "script") = v) : Fr h₀ L h (fun y => if y = Str.ofString "script" then v else m y) := by
  have : (fun y => if y = Str.ofString "script" then v else m y) = m := by
    funext y
    by_cases h : y = Str.ofString "script"
    · rw [if_pos h, h, e]
    · rw [if_neg h]
  rwa [this]
set_option maxHeartbeats 40000000 in
theorem law_holds : PySem.Challenge.rw_pm0051_01.Holds := hd (by
  w_strict (
    k_go0
    all_goals try k_fold
    with_reducible rename Fr _ _ _ _ => hF; with_reducible rename News _ _ _ _ => hN
    with_reducible rename Frag.In _ _ => hX; with_reducible rename Top _ _ _ _ _ _ => hTp; with_reducible rename Below _ _ _ _ => hBl; with_reducible rename CodeHd _ _ _ => hCh
    with_reducible rename IntsAre _ _ => hI; with_reducible rename Heap.IsList _ _ _ => hSc; with_reducible rename 242 < _ => hl0
    refine' law_chain hX hTp hBl hCh (by passes_own) hl0 ?w2 ?w1 ?w0 hI hSc ?len (fr_script hF ?m) hN ?fin
    case w2 => with_reducible assumption
    case w1 => with_reducible assumption
    case w0 => with_reducible assumption
    case len => omega
    case m => rfl
    case fin =>
      intro h' tk m' R rv rn i news' hJ F9 N9
      obtain ⟨c', oc, vs0, t0, oG, oL, vG, vL, rfl, hoc, hov, hG0, hL0⟩ := hJ
      clear hF hN
      dsimp only
      k_steps))
end Mine
end
end
theorem PySem.Challenge.cw_pm0051_01_holds : PySem.Challenge.rw_pm0051_01.Holds := by
  exact Mine.law_holds
