import PyProof.Rows.All
import Wide.All
import OpenK.AllK
import Wide.FinOn
import PySem.Challenge.RW_wc0002_01
set_option Elab.async false
set_option maxRecDepth 100000
set_option linter.unusedVariables false
section
open PySem PySem.W PyProof.Rows
namespace Mine
set_option maxHeartbeats 8000000 in
open_top hd for PySem.Challenge.rw_wc0002_01
end Mine
end

section
open PySem PySem.Spec PySem.Calls PyProof.Rows PySem.W
namespace Mine

abbrev PR : Program := PySem.Challenge.rw_wc0002_01.row.prog
noncomputable abbrev KH (w : World) : Frag := hd.heap_39 w.params

structure Ok (w : World) (mg mb : PySem.Str → Option Value) (h : Heap) : Prop where
  K : (KH w).In h
  g : h.Ns mainGlobals mg
  b : h.Ns builtinsNs mb
  bb : ∀ x : PySem.Str, x ≠ "__name__" → mb x = bootBuiltins x

theorem Ok.keeps {w : World} {mg mb : PySem.Str → Option Value} {h h' : Heap} (O : Ok w mg mb h) (k : ∀ b o, h.get? b = some o → h'.get? b = some o) : Ok w mg mb h' :=
  ⟨fun a o e => k _ _ (O.K a o e), O.g.keeps k, O.b.keeps k, O.bb⟩

theorem Ok.lim {w : World} {mg mb : PySem.Str → Option Value} {h : Heap} (O : Ok w mg mb h) : h.NoLimit :=
  ⟨fun _ => none, ⟨_, #[], 0, O.K 2 _ rfl, rfl, fun _ hx => (by simp at hx), fun _ => rfl⟩, rfl⟩

theorem gn_ISEOF (w : World) : nsIn (KH w) mainGlobals "ISEOF" = some (some (.ref 49)) := by kernel_rfl
theorem gn_ENDMARKER (w : World) : nsIn (KH w) mainGlobals "ENDMARKER" = some (some (.int 0 236)) := by kernel_rfl
theorem gn_check (w : World) : nsIn (KH w) mainGlobals "_check_parenthesis" = some (some (.ref 42)) := by kernel_rfl
theorem gn_iter (w : World) : nsIn (KH w) mainGlobals "_iter_escaped_chars" = some (some (.ref 28)) := by kernel_rfl
theorem gn_strip (w : World) : nsIn (KH w) mainGlobals "_strip_quoted_realnames" = some (some (.ref 35)) := by kernel_rfl
theorem gn_CHARMAX (w : World) : nsIn (KH w) mainGlobals "CHAR_MAX" = some (some (.int 127 189)) := by kernel_rfl
theorem gn_grouping (w : World) : nsIn (KH w) mainGlobals "_grouping_intervals" = some (some (.ref 21)) := by kernel_rfl
theorem gn_heights (w : World) : nsIn (KH w) mainGlobals "_law_heights" = some (some (.ref 56)) := by kernel_rfl
theorem gn_image (w : World) : nsIn (KH w) mainGlobals "_law_image" = some (some (.ref 63)) := by kernel_rfl
theorem gn_bounces (w : World) : nsIn (KH w) mainGlobals "_law_bounces" = some (some (.ref 70)) := by kernel_rfl
theorem gn_back (w : World) : nsIn (KH w) mainGlobals "_law_back" = some (some (.ref 75)) := by kernel_rfl
theorem gn_len (w : World) : nsIn (KH w) mainGlobals "len" = some none := by kernel_rfl
theorem gn_max (w : World) : nsIn (KH w) mainGlobals "max" = some none := by kernel_rfl
theorem gn_range (w : World) : nsIn (KH w) mainGlobals "range" = some none := by kernel_rfl
theorem gn_enumerate (w : World) : nsIn (KH w) mainGlobals "enumerate" = some none := by kernel_rfl
theorem gn_zip (w : World) : nsIn (KH w) mainGlobals "zip" = some none := by kernel_rfl
theorem gn_sum (w : World) : nsIn (KH w) mainGlobals "sum" = some none := by kernel_rfl

section
variable {w : World} {A : Around} {E : Value → Shared → Prop} {s : Shared} {name : PySem.Str} {scope : Scope} {L a : Addr} {cd : Value} {h₀ : Heap} {m mg mb : PySem.Str → Option Value}
/-- a global name of the text's -/
theorem gl {x : PySem.Str} {pos : Pos} {v : Value} {Q : Value → Shared → Prop} (O : Ok w mg mb h₀) (F : Fr h₀ L s.heap m) (e : nsIn (KH w) mainGlobals x = some (some v)) (h : Q v s)
    (hk : scope.kind = .function := by rfl) (hx : (envOf name scope L a cd).kindOf x = some .globalImplicit := by rfl) (hd : (x == ("__debug__" : PySem.Str)) = false := by decide) :
    wpAny (model PR w) A (eval (.Name x pos) (envOf name scope L a cd)) Q E s := ld_global_at F O.g (mg_of O.K O.g e) h hk hx hd
/-- a built-in's name -/
theorem glb {x : PySem.Str} {pos : Pos} {v : Value} {Q : Value → Shared → Prop} (O : Ok w mg mb h₀) (F : Fr h₀ L s.heap m) (e : nsIn (KH w) mainGlobals x = some none) (hv : bootBuiltins x = some v) (h : Q v s)
    (hn : x ≠ "__name__" := by decide) (hk : scope.kind = .function := by rfl) (hx : (envOf name scope L a cd).kindOf x = some .globalImplicit := by rfl) (hd : (x == ("__debug__" : PySem.Str)) = false := by decide) :
    wpAny (model PR w) A (eval (.Name x pos) (envOf name scope L a cd)) Q E s := ld_builtin_at F O.g (mg_none_of O.K O.g e) O.b ((O.bb x hn).trans hv) h hk hx hd
end

/-- what a call of a def of ours leaves: the heap only grows, the generators made are at rest -/
structure Ret (s s' : Shared) : Prop where
  heap : ∀ b o, s.heap.get? b = some o → s'.heap.get? b = some o
  gens : ∀ (g : Nat) x, s.gens[g]? = some x → s'.gens[g]? = some x
  bare : AllBare s.gens → AllBare s'.gens
  os : s'.os = s.os

theorem Ret.refl (s : Shared) : Ret s s := ⟨fun _ _ e => e, fun _ _ e => e, fun e => e, rfl⟩
theorem Ret.trans {a b c : Shared} (x : Ret a b) (y : Ret b c) : Ret a c := ⟨fun p o e => y.heap p o (x.heap p o e), fun g z e => y.gens g z (x.gens g z e), fun e => y.bare (x.bare e), y.os.trans x.os⟩
theorem Ret.grow {s s' : Shared} (x : Ret s s') {h : Heap} {t : Nat} (k : ∀ b o, s'.heap.get? b = some o → h.get? b = some o) : Ret s { s' with heap := h, toks := t } :=
  ⟨fun p o e => k p o (x.heap p o e), x.gens, x.bare, x.os⟩

theorem cd_ISEOF {w : World} {mg mb : PySem.Str → Option Value} {h : Heap} (O : Ok w mg mb h) : h.CodeRec (.ref 48) "ISEOF" := ⟨48, _, _, _, rfl, O.K 48 _ rfl, rfl, rfl⟩

theorem call_ISEOF {w : World} {mg mb : PySem.Str → Option Value} {A : Around} {R : Result → Shared → Prop} {s : Shared} {i : Int} {t : Tok} (O : Ok w mg mb s.heap) (hroom : A.depth < recursionLimit)
    (h : ∀ s', Ret s s' → R (.ok (.ret (.bool (i == 0)))) s') : codeAny (model PR w) A (.call (.ref 49) ⟨[.int i t], []⟩) R s := by
  refine call_plain_ret (a := 49) (cd := .ref 48) (binds := [("x", .int i t)]) hroom (O.K 49 _ rfl) rfl O.lim (cd_ISEOF O) rfl (locs rfl) ?_
  intro h₁ F
  refine wpAny_execs_cons ?_
  refine wpAny_Return_some ?_
  refine wpAny_Compare1 ?_
  refine ld F rfl ?_
  refine gl O F (gn_ENDMARKER w) ?_
  refine P.eq_int ?_
  exact h _ ((Ret.refl s).grow F.keep)
end Mine
end

section
open PySem PySem.Spec PySem.Calls PyProof.Rows PySem.W
namespace Mine

/-- a text by its signs' numbers -/
abbrev S (l : List Nat) : PySem.Str := ⟨l.toArray⟩
theorem S_len (l : List Nat) : (S l).length = l.length := by simp [Str.length]
theorem S_app (a b : List Nat) : S a ++ S b = S (a ++ b) := by
  show Str.append _ _ = _
  simp [Str.append]
theorem S_open : Str.ofString "(" = S [40] := by decide +kernel
theorem S_close : Str.ofString ")" = S [41] := by decide +kernel
theorem S_nil : Str.ofString "" = S [] := by decide +kernel
theorem S_empty : Str.empty = S [] := rfl
theorem S_quote : Str.ofString "\"" = S [34] := by decide +kernel
theorem S_back : Str.ofString "\\" = S [92] := by decide +kernel

section
variable {w : World} {A : Around} {E : Value → Shared → Prop} {s : Shared} {a b : List Nat} {t u : Tok}

theorem eq_S {Q : Value → Shared → Prop} (h : Q (.bool (a == b)) s) : wpAny (model PR w) A (compareOp .Eq (.str (S a) t) (.str (S b) u)) Q E s := P.eq_str h

theorem made_add {Q : Value → Shared → Prop} (hl : (a ++ b).length ≤ 1000000) (h : ∀ t' k, Q (.str (S (a ++ b)) t') { s with toks := k }) :
    (if (S a).length == 0 then Made.val (.str (S b) u) else if (S b).length == 0 then Made.val (.str (S a) t) else Made.str (S a ++ S b)).post Q s := by
  rw [S_len, S_len]
  split
  · rename_i e
    have : a = [] := by simpa using e
    subst this
    exact h u s.toks
  · split
    · rename_i e
      have : b = [] := by simpa using e
      subst this
      have := h t s.toks
      rwa [List.append_nil] at this
    · rw [S_app]
      exact ⟨by rw [S_len]; exact Nat.le_trans hl (by decide), h _ _⟩

theorem add_S {Q : Value → Shared → Prop} (hl : (a ++ b).length ≤ 1000000) (h : ∀ t' k, Q (.str (S (a ++ b)) t') { s with toks := k }) :
    wpAny (model PR w) A (binaryOp .Add (.str (S a) t) (.str (S b) u)) Q E s := P.add_str (made_add hl h)
theorem iadd_S {Q : Value → Shared → Prop} (hl : (a ++ b).length ≤ 1000000) (h : ∀ t' k, Q (.str (S (a ++ b)) t') { s with toks := k }) :
    wpAny (model PR w) A (inplaceOp .Add (.str (S a) t) (.str (S b) u)) Q E s := P.iadd_str (made_add hl h)

theorem len_S {Q : Value → Shared → Prop} (hl : a.length ≤ 1000000) (h : ∀ t' k, Q (.int a.length t') { s with toks := k }) :
    wpAny (model PR w) A (call (.builtin "len") [.str (S a) t]) Q E s :=
  P.len_str (by rw [S_len]; omega) (by rw [S_len]; exact h _ _)

theorem fold_rep (l : List Nat) (n : Nat) : (List.replicate n l.toArray).foldl (· ++ ·) #[] = ((List.replicate n l).flatten).toArray := by
  have key : ∀ (n : Nat) (acc : List Nat), (List.replicate n l.toArray).foldl (· ++ ·) acc.toArray = (acc ++ (List.replicate n l).flatten).toArray := by
    intro n
    induction n with
    | zero => intro acc; simp
    | succ n ih =>
      intro acc
      rw [List.replicate_succ, List.foldl_cons, List.replicate_succ, List.flatten_cons, ← List.append_assoc, ← ih]
      simp
  have := key n []
  simpa using this

theorem flatten_rep_length (l : List Nat) (n : Nat) : (List.replicate n l).flatten.length = n * l.length := by
  induction n with
  | zero => simp
  | succ n ih => rw [List.replicate_succ, List.flatten_cons, List.length_append, ih, Nat.succ_mul, Nat.add_comm]

theorem mul_S {n : Int} {Q : Value → Shared → Prop} (hn : n ≤ 1000) (h0 : -1000 ≤ n) (ha : a.length ≤ 1000) (h : ∀ t' k, Q (.str (S (List.replicate n.toNat a).flatten) t') { s with toks := k }) :
    wpAny (model PR w) A (binaryOp .Mult (.str (S a) t) (.int n u)) Q E s := by
  refine P.mul_str ?_ ?_ ?_ ?_
  · simp; omega
  · intro h1 h2
    rw [S_len]
    have : (2 ^ 63 - 1 : Int) / n ≥ 1000 := by
      apply Int.le_ediv_of_mul_le (by omega)
      omega
    omega
  · intro h1 h2
    rw [S_len]
    have : a.length * n.toNat ≤ 1000 * 1000 := Nat.mul_le_mul ha (by omega)
    unfold PySem.Builtin.Str.tooLong
    rw [decide_eq_false_iff_not]
    have : sizeLine = 16777216 := rfl
    omega
  · split
    · rename_i hlt
      refine ⟨by decide, ?_⟩
      have e : n.toNat = 0 := by omega
      have := h s.toks (s.toks + 1)
      rw [e] at this
      exact this
    · split
      · rename_i h1 h2
        have e : (List.replicate n.toNat a).flatten = a := by
          rcases (Bool.or_eq_true _ _).mp h2 with h3 | h3
          · have : n = 1 := by simpa using h3
            subst this; simp
          · rw [S_len] at h3
            have : a = [] := by simpa using h3
            subst this
            induction n.toNat with
            | zero => rfl
            | succ k ih => rw [List.replicate_succ, List.flatten_cons, ih]; rfl
        have := h t s.toks
        rw [e] at this
        exact this
      · rw [show (S a).cps = a.toArray from rfl, fold_rep]
        refine ⟨?_, h _ _⟩
        show (S _).length ≤ _
        rw [S_len, flatten_rep_length]
        have : n.toNat * a.length ≤ 1000 * 1000 := Nat.mul_le_mul (by omega) ha
        exact Nat.le_trans this (by decide)

theorem item_S {value slice : Expr} {i : Int} {c : Nat} {Q : Value → Shared → Prop} (h0 : 0 ≤ i) (h1 : i < 1000000) (hc : a[i.toNat]? = some c) (h : ∀ t' k, Q (.str (S [c]) t') { s with toks := k })
    (hs : subscripted slice false (.str (S a) t) (.int i u) = operate [.str (S a) t, .int i u] (getItem (.str (S a) t) (.int i u)) := by with_unfolding_all rfl) (hg : ∀ r, letTemporaryGo value (.str (S a) t) r = pure () := by intro _; with_unfolding_all rfl) :
    wpAny (model PR w) A (subscriptTail value slice (.str (S a) t) (.int i u)) Q E s := by
  refine subscriptTail_builtin (typeIs_str _ _ _) F.slot_str_getitem.lookup (P.getItem_str (c := c) ?_ ?_ (h _ _)) hs hg
  · simp; omega
  · have hlt : i.toNat < a.length := by
      rcases Nat.lt_or_ge i.toNat a.length with h' | h'
      · exact h'
      · rw [List.getElem?_eq_none h'] at hc; cases hc
    rw [S_len]
    unfold seqIndex?
    have e1 : ¬ i < 0 := by omega
    have e2 : (0 ≤ i && decide (i < (a.length : Int))) = true := by simp; omega
    simp only [e1, if_false]
    rw [if_pos (by simpa using e2)]
    simpa using hc

end

theorem slice_S_to {a : List Nat} {j : Int} (h : 0 ≤ j ∧ j ≤ a.length) : Txt.slice (S a) none (some j) = S (a.take j.toNat) := by
  have := slice_closes_to (x := S a) (j := j) (by simpa using h)
  have := eq_of_beq this
  rw [this]
  simp
theorem slice_S {a : List Nat} {i j : Int} (h : 0 ≤ i ∧ i ≤ j ∧ j ≤ a.length) : Txt.slice (S a) (some i) (some j) = S ((a.drop i.toNat).take (j - i).toNat) := by
  have := slice_closes (x := S a) (i := i) (j := j) (by simpa using h)
  have := eq_of_beq this
  rw [this]

/-- a for over an iterator that the library knows to walk: one state a turn -/
theorem loopW {w : World} {A : Around} {R : Result → Shared → Prop} {I : Addr} {fp wr : List Addr} {n : Nat} {P : Nat → Value → Prop} {St : Nat → Heap → Prop} {x : PySem.Str} {px : Pos} {body : List Stmt} {env : Env} {s : Shared}
    (W : Walks PR w A I fp wr n P St) (J : Nat → Shared → Prop) (hJ : J 0 s) (hSt : ∀ i s, J i s → St i s.heap)
    (turn : ∀ i v s h' tk, i < n → J i s → P i v → St (i + 1) h' → (∀ b o, b ∉ wr → s.heap.get? b = some o → h'.get? b = some o) →
      wpAny (model PR w) A (storeName env x v) (fun _ s₂ => wpAny (model PR w) A (execs body env) (fun f s₃ => match f with | .next | .cont => J (i + 1) s₃ | .brk => R (.ok .next) s₃ | .ret v => R (.ok (.ret v)) s₃) (fun _ _ => False) s₂) (fun _ _ => False) { s with heap := h', toks := tk })
    (done : ∀ s h' tk, J n s → (∀ b o, b ∉ wr → s.heap.get? b = some o → h'.get? b = some o) → R (.ok .next) { s with heap := h', toks := tk }) :
    codeAny (model PR w) A (.forLoop (.Name x px) (.ref I) body [] env) R s := by
  refine codeAny_forLoop (fun k s => ∃ i, i + k = n ∧ J i s) (fun k s hI => ?_) n ⟨0, Nat.zero_add _, hJ⟩
  obtain ⟨i, hik, hj⟩ := hI
  rcases Nat.eq_zero_or_pos k with rfl | hk
  · have hin : i = n := by omega
    subst hin
    refine W.done s _ _ (hSt _ _ hj) fun h' tk hkp => ?_
    exact wpAny_execs_nil (done s h' tk hj hkp)
  · have hlt : i < n := by omega
    refine W.item i s _ _ hlt (hSt _ _ hj) fun v h' tk hP hst hkp => ?_
    refine wpAny_assign_Name (wpAny_mono (turn i v s h' tk hlt hj hP hst hkp) (fun _ s₂ h₂ => wpAny_mono h₂ (fun f s₃ h₃ => ?_) fun _ _ e => e.elim) fun _ _ e => e.elim)
    cases f with
    | next => exact ⟨k - 1, by omega, i + 1, by omega, h₃⟩
    | cont => exact ⟨k - 1, by omega, i + 1, by omega, h₃⟩
    | brk => exact h₃
    | ret v => exact h₃

/-- the frame's look-ups -/
local macro_rules | `(tactic| walk_at "m.look") => `(tactic| first | assumption | exact if_pos rfl | (refine (if_neg (by decide)).trans ?_; walk_at "m.look") | rfl)
example (m : PySem.Str → Option Value) (v u : Value) (h : m (Str.ofString "row") = some v) : (fun y => if y = Str.ofString "height" then some u else (fun y => if y = Str.ofString "place" then some u else m y) y) (Str.ofString "row") = some v := by
  dsimp only
  walk_at "m.look"
end Mine
end

section
open PySem PySem.Spec PySem.Calls PyProof.Rows PySem.W
namespace Mine

/-- where a def of ours stands: s₀ at its entry, L its frame, m the frame's names, news what it made -/
structure At (s₀ : Shared) (L : Addr) (m : PySem.Str → Option Value) (news : List (Addr × Obj)) (s : Shared) : Prop where
  F : Fr s₀.heap L s.heap m
  N : News s₀.heap L s.heap news
  R : Ret s₀ s

namespace At
variable {s₀ s s' : Shared} {L : Addr} {m : PySem.Str → Option Value} {news : List (Addr × Obj)}
theorem toks (H : At s₀ L m news s) {k : Nat} : At s₀ L m news { s with toks := k } := ⟨H.F, H.N, ⟨H.R.heap, H.R.gens, H.R.bare, H.R.os⟩⟩
theorem ret (H : At s₀ L m news s) (r : Ret s s') : At s₀ L m news s' := ⟨H.F.after r.heap, H.N.grown r.heap, H.R.trans r⟩
theorem keep (H : At s₀ L m news s) {h : Heap} {k : Nat} (hk : ∀ b o, s.heap.get? b = some o → h.get? b = some o) : At s₀ L m news { s with heap := h, toks := k } :=
  ⟨H.F.after hk, H.N.grown hk, H.R.grow hk⟩
theorem push (H : At s₀ L m news s) (o : Obj) {k : Nat} (hf : o.isFreed = false := by rfl) : At s₀ L m ((s.heap.objs.size, o) :: news) { s with heap := s.heap.push o, toks := k } :=
  ⟨H.F.push o, News.push H.F H.N o hf, H.R.grow fun _ _ e => Heap.get?_push_of_some _ e⟩
theorem drop {p : Addr × Obj} (H : At s₀ L m (p :: news) s) : At s₀ L m news s := ⟨H.F, fun q hq => H.N q (.tail _ hq), H.R⟩
theorem map (H : At s₀ L m news s) {m' : PySem.Str → Option Value} (e : ∀ y, m y = m' y) : At s₀ L m' news s := by
  have : m = m' := funext e
  rw [← this]; exact H
theorem led (H : At s₀ L m news s) {news' : List (Addr × Obj)} (e : ∀ p ∈ news', p ∈ news) : At s₀ L m news' s := ⟨H.F, fun q hq => H.N q (e q hq), H.R⟩
end At

section
variable {w : World} {A : Around} {E : Value → Shared → Prop} {s₀ s : Shared} {name : PySem.Str} {scope : Scope} {L a : Addr} {cd : Value} {m mg mb : PySem.Str → Option Value} {news : List (Addr × Obj)}

theorem a_name {x : PySem.Str} {pos : Pos} {v : Value} {Q : Value → Shared → Prop} (H : At s₀ L m news s) (hv : m x = some v) (h : Q v s)
    (hk : scope.kind = .function := by rfl) (hl : (envOf name scope L a cd).kindOf x = some .local := by rfl) (hd : (x == ("__debug__" : PySem.Str)) = false := by decide) :
    wpAny (model PR w) A (eval (.Name x pos) (envOf name scope L a cd)) Q E s := ld H.F hv h hk hl hd
theorem a_load {x : PySem.Str} {v : Value} {Q : Value → Shared → Prop} (H : At s₀ L m news s) (hv : m x = some v) (h : Q v s)
    (hk : scope.kind = .function := by rfl) (hl : (envOf name scope L a cd).kindOf x = some .local := by rfl) :
    wpAny (model PR w) A (loadName (envOf name scope L a cd) x) Q E s := ldn H.F hv h hk hl
theorem a_store {x : PySem.Str} {v : Value} {Q : Unit → Shared → Prop} (H : At s₀ L m news s) (h : ∀ s', At s₀ L (fun y => if y = x then some v else m y) news s' → Q () s')
    (hk : scope.kind = .function := by rfl) (hl : (envOf name scope L a cd).kindOf x = some .local := by rfl) :
    wpAny (model PR w) A (storeName (envOf name scope L a cd) x v) Q E s :=
  stN H.F H.N (fun h' F' N' => h _ ⟨F', N', ⟨F'.keep, H.R.gens, H.R.bare, H.R.os⟩⟩) hk hl
theorem a_gl {x : PySem.Str} {pos : Pos} {v : Value} {Q : Value → Shared → Prop} (O : Ok w mg mb s₀.heap) (H : At s₀ L m news s) (e : nsIn (KH w) mainGlobals x = some (some v)) (h : Q v s)
    (hk : scope.kind = .function := by rfl) (hx : (envOf name scope L a cd).kindOf x = some .globalImplicit := by rfl) (hd : (x == ("__debug__" : PySem.Str)) = false := by decide) :
    wpAny (model PR w) A (eval (.Name x pos) (envOf name scope L a cd)) Q E s := gl O H.F e h hk hx hd
theorem a_glb {x : PySem.Str} {pos : Pos} {v : Value} {Q : Value → Shared → Prop} (O : Ok w mg mb s₀.heap) (H : At s₀ L m news s) (e : nsIn (KH w) mainGlobals x = some none) (hv : bootBuiltins x = some v) (h : Q v s)
    (hn : x ≠ "__name__" := by decide) (hk : scope.kind = .function := by rfl) (hx : (envOf name scope L a cd).kindOf x = some .globalImplicit := by rfl) (hd : (x == ("__debug__" : PySem.Str)) = false := by decide) :
    wpAny (model PR w) A (eval (.Name x pos) (envOf name scope L a cd)) Q E s := glb O H.F e hv h hn hk hx hd

variable {env : Env} {t u : Tok} {i j : Int}
theorem a_int {k pos} {Q : Value → Shared → Prop} (H : At s₀ L m news s) (h : ∀ t s', At s₀ L m news s' → Q (.int i t) s') : wpAny (model PR w) A (eval (.Constant (.int i) k pos) env) Q E s :=
  wpAny_Constant_int (h _ _ H.toks)
theorem a_str {x : PySem.Str} {l : List Nat} {k pos} {Q : Value → Shared → Prop} (H : At s₀ L m news s) (e : x = S l) (h : ∀ t s', At s₀ L m news s' → Q (.str (S l) t) s') : wpAny (model PR w) A (eval (.Constant (.str x) k pos) env) Q E s :=
  Constant_str (by rw [e]; exact h _ _ H.toks)
theorem a_add {Q : Value → Shared → Prop} (H : At s₀ L m news s) (h : ∀ t s', At s₀ L m news s' → Q (.int (i + j) t) s') : wpAny (model PR w) A (binaryOp .Add (.int i t) (.int j u)) Q E s := P.add_int (h _ _ H.toks)
theorem a_iadd {Q : Value → Shared → Prop} (H : At s₀ L m news s) (h : ∀ t s', At s₀ L m news s' → Q (.int (i + j) t) s') : wpAny (model PR w) A (inplaceOp .Add (.int i t) (.int j u)) Q E s := P.iadd_int (h _ _ H.toks)
theorem a_sub {Q : Value → Shared → Prop} (H : At s₀ L m news s) (h : ∀ t s', At s₀ L m news s' → Q (.int (i - j) t) s') : wpAny (model PR w) A (binaryOp .Sub (.int i t) (.int j u)) Q E s := P.sub_int (h _ _ H.toks)
theorem a_isub {Q : Value → Shared → Prop} (H : At s₀ L m news s) (h : ∀ t s', At s₀ L m news s' → Q (.int (i - j) t) s') : wpAny (model PR w) A (inplaceOp .Sub (.int i t) (.int j u)) Q E s := P.isub_int (h _ _ H.toks)
theorem a_neg {Q : Value → Shared → Prop} (H : At s₀ L m news s) (h : ∀ t s', At s₀ L m news s' → Q (.int (-i) t) s') : wpAny (model PR w) A (unaryOp .USub (.int i t)) Q E s := P.neg_int (h _ _ H.toks)
theorem a_adds {a b : List Nat} {Q : Value → Shared → Prop} (H : At s₀ L m news s) (hl : (a ++ b).length ≤ 1000000) (h : ∀ t s', At s₀ L m news s' → Q (.str (S (a ++ b)) t) s') : wpAny (model PR w) A (binaryOp .Add (.str (S a) t) (.str (S b) u)) Q E s :=
  add_S hl fun _ _ => h _ _ H.toks
theorem a_iadds {a b : List Nat} {Q : Value → Shared → Prop} (H : At s₀ L m news s) (hl : (a ++ b).length ≤ 1000000) (h : ∀ t s', At s₀ L m news s' → Q (.str (S (a ++ b)) t) s') : wpAny (model PR w) A (inplaceOp .Add (.str (S a) t) (.str (S b) u)) Q E s :=
  iadd_S hl fun _ _ => h _ _ H.toks
theorem a_muls {a : List Nat} {n : Int} {Q : Value → Shared → Prop} (H : At s₀ L m news s) (hn : n ≤ 1000) (h0 : -1000 ≤ n) (ha : a.length ≤ 1000) (h : ∀ t s', At s₀ L m news s' → Q (.str (S (List.replicate n.toNat a).flatten) t) s') :
    wpAny (model PR w) A (binaryOp .Mult (.str (S a) t) (.int n u)) Q E s := mul_S hn h0 ha fun _ _ => h _ _ H.toks
theorem a_lens {a : List Nat} {Q : Value → Shared → Prop} (H : At s₀ L m news s) (hl : a.length ≤ 1000000) (h : ∀ t s', At s₀ L m news s' → Q (.int a.length t) s') : wpAny (model PR w) A (call (.builtin "len") [.str (S a) t]) Q E s :=
  len_S hl fun _ _ => h _ _ H.toks
theorem a_items {value slice : Expr} {a : List Nat} {c : Nat} {Q : Value → Shared → Prop} (H : At s₀ L m news s) (h0 : 0 ≤ i) (h1 : i < 1000000) (hc : a[i.toNat]? = some c) (h : ∀ t s', At s₀ L m news s' → Q (.str (S [c]) t) s')
    (hs : subscripted slice false (.str (S a) t) (.int i u) = operate [.str (S a) t, .int i u] (getItem (.str (S a) t) (.int i u)) := by with_unfolding_all rfl) (hg : ∀ r, letTemporaryGo value (.str (S a) t) r = pure () := by intro _; with_unfolding_all rfl) :
    wpAny (model PR w) A (subscriptTail value slice (.str (S a) t) (.int i u)) Q E s := item_S h0 h1 hc (fun _ _ => h _ _ H.toks) hs hg

/-- a call by name, one argument -/
theorem c_fun1 {x : PySem.Str} {np pos : Pos} {e : Expr} {Q : Value → Shared → Prop} {f : Addr} {o : Obj} {fd : FuncData} (ho : (KH w).lookup f = some o) (hfd : o.data = .func fd) (hf : wpAny (model PR w) A (eval (.Name x np) env) (fun v s₁ => v = .ref f ∧ s₁ = s) E s)
    (h : wpAny (model PR w) A (eval e env) (fun v s₁ => (KH w).In s₁.heap ∧ codeAny (model PR w) A (.call (.ref f) ⟨[v], []⟩) (fun r s' => match r with | .ok (.ret v) => Q v s' | .ok _ => False | .error e => E e s') s₁) E s)
    (hs : starEach [e] env = [(false, eval e env)] := by rfl) : wpAny (model PR w) A (eval (.Call (.Name x np) [e] [] pos) env) Q E s := by
  refine Call_name1 hs (wpAny_mono hf (fun v s₁ hv => ?_) fun _ _ e => e)
  obtain ⟨rfl, rfl⟩ := hv
  refine callWith_function (o := o) (fd := fd) (Calls.evalArgs_plain (Calls.spliced_cons (wpAny_mono h (fun v s₂ h₂ => Calls.spliced_nil ?_) fun _ _ e => e)))
  exact ⟨⟨h₂.1 _ _ ho, hfd⟩, wpAny_call h₂.2⟩
theorem c_builtin1 {x : PySem.Str} {np pos : Pos} {e : Expr} {Q : Value → Shared → Prop} {id : String} (hf : wpAny (model PR w) A (eval (.Name x np) env) (fun v s₁ => v = .builtin id ∧ s₁ = s) E s)
    (h : wpAny (model PR w) A (eval e env) (fun v s₁ => wpAny (model PR w) A (call (.builtin id) [v]) Q E s₁) E s)
    (hs : starEach [e] env = [(false, eval e env)] := by rfl) : wpAny (model PR w) A (eval (.Call (.Name x np) [e] [] pos) env) Q E s := by
  refine Call_name1 hs (wpAny_mono hf (fun v s₁ hv => ?_) fun _ _ e => e)
  obtain ⟨rfl, rfl⟩ := hv
  exact callWith_builtin1 h
theorem c_type1 {x : PySem.Str} {np pos : Pos} {e : Expr} {Q : Value → Shared → Prop} {T : String} (hf : wpAny (model PR w) A (eval (.Name x np) env) (fun v s₁ => v = .type T ∧ s₁ = s) E s)
    (h : wpAny (model PR w) A (eval e env) (fun v s₁ => wpAny (model PR w) A (call (.type T) [v]) Q E s₁) E s)
    (hs : starEach [e] env = [(false, eval e env)] := by rfl) : wpAny (model PR w) A (eval (.Call (.Name x np) [e] [] pos) env) Q E s := by
  refine Call_name1 hs (wpAny_mono hf (fun v s₁ hv => ?_) fun _ _ e => e)
  obtain ⟨rfl, rfl⟩ := hv
  exact callWith_type1 h

/-- a list's ints -/
theorem a_max {l : Addr} {vs : List Value} {ns : List Int} {Q : Value → Shared → Prop} (H : At s₀ L m news s) (hh : A.handled = none) (hl : s.heap.IsList l vs.toArray) (hi : IntsAre vs ns) (hne : 0 < ns.length)
    (h : ∀ M t s', At s₀ L m news s' → ns.max? = some M → Q (.int M t) s') : wpAny (model PR w) A (call (.builtin "max") [.ref l]) Q E s :=
  max_list_N hh H.F H.N hl hi hne fun h' M t tk F' N' hm hb => h M t _ ⟨F', N', ⟨F'.keep, H.R.gens, H.R.bare, H.R.os⟩⟩ (List.max?_eq_some_iff.mpr ⟨hm, fun b hb' => hb b hb'⟩)

theorem e_ISEOF {np pos : Pos} {e : Expr} {Q : Value → Shared → Prop} (O : Ok w mg mb s₀.heap) (H : At s₀ L m news s) (hd : A.depth < recursionLimit)
    (he : wpAny (model PR w) A (eval e (envOf name scope L a cd)) (fun v s₁ => ∃ i t, v = .int i t ∧ At s₀ L m news s₁ ∧ ∀ s', At s₀ L m news s' → Q (.bool (i == 0)) s') E s)
    (hk : scope.kind = .function := by rfl) (hx : (envOf name scope L a cd).kindOf "ISEOF" = some .globalImplicit := by rfl)
    (hs : starEach [e] (envOf name scope L a cd) = [(false, eval e (envOf name scope L a cd))] := by rfl) :
    wpAny (model PR w) A (eval (.Call (.Name "ISEOF" np) [e] [] pos) (envOf name scope L a cd)) Q E s := by
  refine c_fun1 (f := 49) rfl rfl (a_gl O H (gn_ISEOF w) ⟨rfl, rfl⟩ hk hx) (wpAny_mono he (fun v s₁ h₁ => ?_) fun _ _ e => e) hs
  obtain ⟨i, t, rfl, H₁, hq⟩ := h₁
  refine ⟨(O.keeps H₁.F.keep).K, ?_⟩
  exact call_ISEOF (O.keeps H₁.F.keep) hd fun s' r => hq s' (H₁.ret r)
end
end Mine
end

section
open PySem PySem.Spec PySem.Calls PyProof.Rows PySem.W
namespace Mine

def Off (I : Addr) (news : List (Addr × Obj)) : Prop := ∀ p ∈ news, p.1 ≠ I

theorem At.step {s₀ s : Shared} {L I : Addr} {m : PySem.Str → Option Value} {news : List (Addr × Obj)} {o o' : Obj} {h : Heap} {k : Nat} (H : At s₀ L m ((I, o) :: news) s) (hoff : Off I news)
    (hk : ∀ b x, b ∉ [I] → s.heap.get? b = some x → h.get? b = some x) (ho : h.get? I = some o') : At s₀ L m ((I, o') :: news) { s with heap := h, toks := k } := by
  have nI := H.N (I, o) (.head _)
  have F' : Fr s₀.heap L h m := ⟨H.F.ns.at fun x e => hk L x (by simp; exact fun e => nI.2.1 e.symm) e, fun b x e => hk b x (by simp; rintro rfl; exact absurd (nI.2.2.symm.trans e) (by simp)) (H.F.keep b x e), H.F.above⟩
  refine ⟨F', fun p hp => ?_, ⟨F'.keep, H.R.gens, H.R.bare, H.R.os⟩⟩
  rcases List.mem_cons.mp hp with rfl | hp
  · exact ⟨ho, nI.2⟩
  · have np := H.N p (.tail _ hp)
    exact ⟨hk _ _ (by simpa using hoff p hp) np.1, np.2⟩

theorem At.off_size {s₀ s : Shared} {L : Addr} {m : PySem.Str → Option Value} {news : List (Addr × Obj)} (H : At s₀ L m news s) : Off s.heap.objs.size news :=
  fun p hp => Nat.ne_of_lt (Heap.lt_size (H.N p hp).1)

section
variable {w : World} {A : Around} {E : Value → Shared → Prop} {s₀ s : Shared} {name : PySem.Str} {scope : Scope} {L a : Addr} {cd : Value} {m mg mb : PySem.Str → Option Value} {news : List (Addr × Obj)}

abbrev upd (m : PySem.Str → Option Value) (x : PySem.Str) (v : Value) : PySem.Str → Option Value := fun y => if y = x then some v else m y

theorem forW {R : Result → Shared → Prop} {I : Addr} {fp : List Addr} {n : Nat} {P : Nat → Value → Prop} {St : Nat → Heap → Prop} {x : PySem.Str} {px : Pos} {body : List Stmt} {o : Obj}
    (W : Walks PR w A I fp [I] n P St) (hex : ∀ i h, St i h → ∃ o, h.get? I = some o) (J : Nat → (PySem.Str → Option Value) → List (Addr × Obj) → Prop)
    (hfix : ∀ b ∈ fp, b ≠ I → ∃ o, ∀ i m₁ news₁ s₁, J i m₁ news₁ → At s₀ L m₁ news₁ s₁ → s₁.heap.get? b = some o)
    (H : At s₀ L m ((I, o) :: news) s) (hoff : Off I news) (hst : St 0 s.heap) (hj : J 0 m news)
    (turn : ∀ i v m₁ news₁ o s₁, i < n → P i v → J i m₁ news₁ → Off I news₁ → At s₀ L (upd m₁ x v) ((I, o) :: news₁) s₁ →
      wpAny (model PR w) A (execs body (envOf name scope L a cd)) (fun f s₂ => match f with
        | .next | .cont => ∃ m₂ news₂, At s₀ L m₂ ((I, o) :: news₂) s₂ ∧ Off I news₂ ∧ J (i + 1) m₂ news₂
        | .brk => R (.ok .next) s₂
        | .ret v => R (.ok (.ret v)) s₂) (fun _ _ => False) s₁)
    (done : ∀ m₁ news₁ s₁, J n m₁ news₁ → At s₀ L m₁ news₁ s₁ → R (.ok .next) s₁)
    (hk : scope.kind = .function := by rfl) (hl : (envOf name scope L a cd).kindOf x = some .local := by rfl) :
    codeAny (model PR w) A (.forLoop (.Name x px) (.ref I) body [] (envOf name scope L a cd)) R s := by
  refine loopW W (fun i s => ∃ m₁ news₁ o, At s₀ L m₁ ((I, o) :: news₁) s ∧ Off I news₁ ∧ St i s.heap ∧ J i m₁ news₁) ⟨m, news, o, H, hoff, hst, hj⟩ (fun i s h => h.choose_spec.choose_spec.choose_spec.2.2.1) ?_ ?_
  · rintro i v s h' tk hi ⟨m₁, news₁, o₁, H₁, hoff₁, hst₁, hj₁⟩ hP hst' hkp
    obtain ⟨o', ho'⟩ := hex _ _ hst'
    have H₂ : At s₀ L m₁ ((I, o') :: news₁) { s with heap := h', toks := tk } := H₁.step hoff₁ hkp ho'
    refine a_store H₂ (fun s₂ H₃ => ?_) hk hl
    refine wpAny_mono (turn i v m₁ news₁ o' s₂ hi hP hj₁ hoff₁ H₃) (fun f s₃ hf => ?_) fun _ _ e => e
    have key : (∃ m₂ news₂, At s₀ L m₂ ((I, o') :: news₂) s₃ ∧ Off I news₂ ∧ J (i + 1) m₂ news₂) → (∃ m₁ news₁ o, At s₀ L m₁ ((I, o) :: news₁) s₃ ∧ Off I news₁ ∧ St (i + 1) s₃.heap ∧ J (i + 1) m₁ news₁) := by
      rintro ⟨m₂, news₂, H₄, hoff₂, hj₂⟩
      refine ⟨m₂, news₂, o', H₄, hoff₂, W.frame _ _ _ hst' fun b hb ob e => ?_, hj₂⟩
      by_cases hbI : b = I
      · subst hbI
        have : ob = o' := Option.some.inj (e.symm.trans ho')
        subst this
        exact (H₄.N _ (.head _)).1
      · obtain ⟨oc, hc⟩ := hfix b hb hbI
        have e1 := hc i m₁ news₁ _ hj₁ H₂.drop
        have e2 := hc (i + 1) m₂ news₂ _ hj₂ H₄.drop
        have : ob = oc := Option.some.inj (e.symm.trans e1)
        subst this
        exact e2
    cases f with
    | next => exact key hf
    | cont => exact key hf
    | brk => exact hf
    | ret v => exact hf
  · rintro s h' tk ⟨m₁, news₁, o₁, H₁, hoff₁, hst₁, hj₁⟩ hkp
    refine done m₁ news₁ _ hj₁ ⟨?_, ?_, ?_⟩
    · have nI := H₁.N (I, o₁) (.head _)
      exact ⟨H₁.F.ns.at fun x e => hkp L x (by simp; exact fun e => nI.2.1 e.symm) e, fun b x e => hkp b x (by simp; rintro rfl; exact absurd (nI.2.2.symm.trans e) (by simp)) (H₁.F.keep b x e), H₁.F.above⟩
    · intro p hp
      have np := H₁.N p (.tail _ hp)
      exact ⟨hkp _ _ (by simpa using hoff₁ p hp) np.1, np.2⟩
    · have nI := H₁.N (I, o₁) (.head _)
      exact ⟨fun b x e => hkp b x (by simp; rintro rfl; exact absurd (nI.2.2.symm.trans e) (by simp)) (H₁.F.keep b x e), H₁.R.gens, H₁.R.bare, H₁.R.os⟩

/-- for x in l, a list of ints that stays -/
theorem forL {Q : Flow → Shared → Prop} {l : Addr} {vs : List Value} {ns : List Int} {x : PySem.Str} {px : Pos} {body : List Stmt}
    (H : At s₀ L m news s) (hh : A.handled = none) (hi : IntsAre vs ns) (J : Nat → (PySem.Str → Option Value) → List (Addr × Obj) → Prop)
    (hl : ∃ ol : Obj, (ol.cls = .type "list" ∧ ∃ n, ol.data = .seq vs.toArray n) ∧ ∀ i m₁ news₁ s₁, J i m₁ news₁ → At s₀ L m₁ news₁ s₁ → s₁.heap.get? l = some ol)
    (hj : J 0 m news)
    (turn : ∀ i n t m₁ news₁ I o s₁, ns[i]? = some n → J i m₁ news₁ → Off I news₁ → At s₀ L (upd m₁ x (.int n t)) ((I, o) :: news₁) s₁ →
      wpAny (model PR w) A (execs body (envOf name scope L a cd)) (fun f s₂ => match f with
        | .next | .cont => ∃ m₂ news₂, At s₀ L m₂ ((I, o) :: news₂) s₂ ∧ Off I news₂ ∧ J (i + 1) m₂ news₂
        | .brk => Q .next s₂
        | .ret v => Q (.ret v) s₂) (fun _ _ => False) s₁)
    (done : ∀ m₁ news₁ s₁, J ns.length m₁ news₁ → At s₀ L m₁ news₁ s₁ → Q .next s₁)
    (hk : scope.kind = .function := by rfl) (hlx : (envOf name scope L a cd).kindOf x = some .local := by rfl) :
    wpAny (model PR w) A (pyIter (.ref l)) (fun it s₂ => codeAny (model PR w) A (.forLoop (.Name x px) it body [] (envOf name scope L a cd)) (fun r s' => match r with | .ok f => Q f s' | .error e => cameBackBy (model PR w) A (envOf name scope L a cd) E e s') s₂) E s := by
  obtain ⟨ol, ⟨hc, nn, hdat⟩, hfx⟩ := hl
  have ho := hfx 0 m news s hj H
  have hL : s.heap.IsList l vs.toArray := ⟨ol, ho, hc, nn, hdat⟩
  refine wpAny_pyIter_list hL ?_
  have hne : l ≠ s.heap.objs.size := Nat.ne_of_lt (Heap.lt_size ho)
  have W := Walks.list (prog := PR) (w := w) hh s.heap.objs.size l hne vs.toArray
  have hlen : vs.toArray.size = ns.length := by simp [hi.length]
  rw [hlen] at W
  -- the walk writes its own iterator alone
  refine forW W (fun i h st => let ⟨⟨o, ho, _⟩, _⟩ := st; ⟨o, ho⟩) J ?_ (H.push _ (k := s.toks)) H.off_size ⟨⟨_, Heap.get?_push_size _ rfl, rfl, rfl⟩, hL.push _⟩ hj ?_ ?_ hk hlx
  · intro b hb hbI
    rcases List.mem_cons.mp hb with rfl | hb
    · exact absurd rfl hbI
    · have : b = l := by simpa using hb
      subst this
      exact ⟨ol, hfx⟩
  · intro i v m₁ news₁ o s₁ hi' hP hj₁ hoff₁ H₁
    obtain ⟨t, hx⟩ := hi.get i ns[i] (by simp [hi'])
    have hv : v = .int ns[i] t := by
      have hP' : vs[i]? = some v := by simpa using hP
      rw [hx] at hP'; exact (Option.some.inj hP').symm
    subst hv
    exact turn i ns[i] t m₁ news₁ _ o s₁ (by simp [hi']) hj₁ hoff₁ H₁
  · exact done

/-- for x in range(N) -/
theorem forR {Q : Flow → Shared → Prop} {r : Addr} {N : Nat} {t u v : Tok} {x : PySem.Str} {px : Pos} {body : List Stmt}
    (H : At s₀ L m news s) (hh : A.handled = none) (hr : IsRange s.heap r 0 N 1 t u v) (hN : N ≤ 1000000) (J : Nat → (PySem.Str → Option Value) → List (Addr × Obj) → Prop)
    (hj : J 0 m news)
    (turn : ∀ i t m₁ news₁ I o s₁, i < N → J i m₁ news₁ → Off I news₁ → At s₀ L (upd m₁ x (.int (i : Int) t)) ((I, o) :: news₁) s₁ →
      wpAny (model PR w) A (execs body (envOf name scope L a cd)) (fun f s₂ => match f with
        | .next | .cont => ∃ m₂ news₂, At s₀ L m₂ ((I, o) :: news₂) s₂ ∧ Off I news₂ ∧ J (i + 1) m₂ news₂
        | .brk => Q .next s₂
        | .ret v => Q (.ret v) s₂) (fun _ _ => False) s₁)
    (done : ∀ m₁ news₁ s₁, J N m₁ news₁ → At s₀ L m₁ news₁ s₁ → Q .next s₁)
    (hk : scope.kind = .function := by rfl) (hlx : (envOf name scope L a cd).kindOf x = some .local := by rfl) :
    wpAny (model PR w) A (pyIter (.ref r)) (fun it s₂ => codeAny (model PR w) A (.forLoop (.Name x px) it body [] (envOf name scope L a cd)) (fun r s' => match r with | .ok f => Q f s' | .error e => cameBackBy (model PR w) A (envOf name scope L a cd) E e s') s₂) E s := by
  refine wpAny_pyIter_range hr (small_one (by omega) (by omega) (by omega) (by omega)) ?_
  have W := Walks.range (prog := PR) (w := w) hh s.heap.objs.size 0 1 N
  have hsz : Builtin.Range.rangeSize 0 (N : Int) 1 = (N : Int) := by
    rw [rangeSize_one]; split <;> omega
  refine forW W (fun i h st => ⟨_, st⟩) J (fun b hb hbI => absurd (List.mem_singleton.mp hb) hbI) (H.push _ (k := s.toks)) H.off_size ?_ hj ?_ done hk hlx
  · show IsRangeIter _ _ _ _ _
    rw [hsz]
    simpa using Heap.get?_push_size _ rfl
  · rintro i v m₁ news₁ o s₁ hi' ⟨t, rfl⟩ hj₁ hoff₁ H₁
    have e : (0 : Int) + (i : Int) * 1 = (i : Int) := by omega
    rw [e] at H₁
    exact turn i t m₁ news₁ _ o s₁ hi' hj₁ hoff₁ H₁
end
end Mine
end

section
open PySem PySem.Spec PySem.Calls PyProof.Rows PySem.W
namespace Mine
local macro_rules | `(tactic| walk_at "m.look") => `(tactic| first | assumption | exact if_pos rfl | (refine (if_neg (by decide)).trans ?_; walk_at "m.look") | rfl)

def imgStep (lv : Int) (img : List Nat) (h : Int) : List Nat := if h - lv == 0 then img ++ [40] else if h - lv + 1 == 0 then img ++ [41] else img
def imgRow (hs : List Int) (img : List Nat) (lv : Nat) : List Nat := hs.foldl (imgStep lv) img
def imgOf (hs : List Int) (M : Int) : List Nat := (List.range (M + 2).toNat).foldl (imgRow hs) []

theorem imgStep_le (lv : Int) (img : List Nat) (h : Int) : (imgStep lv img h).length ≤ img.length + 1 := by
  unfold imgStep; split <;> (try split) <;> simp
theorem imgFold_le (lv : Int) : ∀ (hs : List Int) (img : List Nat), (hs.foldl (imgStep lv) img).length ≤ img.length + hs.length
  | [], img => by simp
  | h :: t, img => by
    have h1 := imgFold_le lv t (imgStep lv img h)
    have h2 := imgStep_le lv img h
    simp only [List.foldl_cons, List.length_cons]; omega

theorem cd_image {w : World} {mg mb : PySem.Str → Option Value} {h : Heap} (O : Ok w mg mb h) : h.CodeRec (.ref 62) "_law_image" := ⟨62, _, _, _, rfl, O.K 62 _ rfl, rfl, rfl⟩

theorem foldl_take_succ {α β : Type} (f : β → α → β) (b : β) (l : List α) (i : Nat) (x : α) (h : l[i]? = some x) : (l.take (i + 1)).foldl f b = f ((l.take i).foldl f b) x := by
  rw [List.take_add_one, h]; simp

theorem call_image {w : World} {mg mb : PySem.Str → Option Value} {A : Around} {R : Result → Shared → Prop} {s : Shared} {l : Addr} {vs : List Value} {ns : List Int} {M : Int} (O : Ok w mg mb s.heap) (hroom : A.depth + 2 < recursionLimit) (hh : A.handled = none)
    (hl : s.heap.IsList l vs.toArray) (hi : IntsAre vs ns) (hM : ns.max? = some M) (hb : M ≤ 900) (hb0 : -2 ≤ M) (hn : ns.length ≤ 100)
    (h : ∀ s' t, Ret s s' → R (.ok (.ret (.str (S (imgOf ns M)) t))) s') : codeAny (model PR w) A (.call (.ref 63) ⟨[.ref l], []⟩) R s := by
  refine call_plain_ret (a := 63) (cd := .ref 62) (binds := [("heights", .ref l)]) (by omega) (O.K 63 _ rfl) rfl O.lim (cd_image O) rfl (locs rfl) ?_
  intro h₁ F
  have H : At s s.heap.objs.size (fun x => List.lookup x [(Str.ofString "heights", Value.ref l)].reverse) [] { s with heap := h₁, toks := s.toks + [(Str.ofString "heights", Value.ref l)].length } := ⟨F, News.nil, ⟨F.keep, fun _ _ e => e, fun e => e, rfl⟩⟩
  generalize { s with heap := h₁, toks := s.toks + [(Str.ofString "heights", Value.ref l)].length } = s₁ at H
  have hm : (fun x => List.lookup x [(Str.ofString "heights", Value.ref l)].reverse) (Str.ofString "heights") = some (.ref l) := rfl
  generalize (fun x => List.lookup x [(Str.ofString "heights", Value.ref l)].reverse) = m at H hm
  have hne : 0 < ns.length := by cases ns with | nil => simp at hM | cons => simp
  obtain ⟨ol, hol, hcls, nn, hdat⟩ := id hl
  -- image = ''
  refine wpAny_execs_cons (wpAny_Assign_Name (a_str H S_nil fun t s₁ H => a_store H fun s₁ H => ?_))
  show wpAny _ _ (execs _ _) _ _ _
  -- for level in range(max(heights) + 2)
  refine wpAny_execs_cons (wpAny_For ?_)
  refine c_type1 (a_glb O H (gn_range w) boot_range ⟨rfl, rfl⟩) ?_
  refine wpAny_BinOp (c_builtin1 (a_glb O H (gn_max w) boot_max ⟨rfl, rfl⟩) (a_name H (by walk_at "m.look") ?_))
  refine a_max H hh (H.F.lst hl) hi hne fun M' t' s₂ H hM' => ?_
  have : M' = M := by rw [hM] at hM'; exact (Option.some.inj hM').symm
  subst this
  refine a_int H fun t' s₂ H => a_add H fun t' s₂ H => ?_
  refine call_range_1 ?_
  have H₃ := H.push { cls := .type "range", data := .fields #[.int 0 s₂.toks, .int (M' + 2) t', .int 1 (s₂.toks + 1)] } (k := s₂.toks + 1 + 1)
  have hr := IsRange.new s₂.heap 0 (M' + 2) 1 s₂.toks t' (s₂.toks + 1)
  have hN : M' + 2 = ((M' + 2).toNat : Int) := by omega
  generalize hNN : (M' + 2).toNat = N at hN
  rw [hN] at H₃ hr ⊢
  have hN' : N ≤ 1000 := by omega
  refine forR (N := N) (H := H₃.drop) hh hr (by omega) (fun i m news => m "heights" = some (.ref l) ∧ ∃ t, m "image" = some (.str (S ((List.range i).foldl (imgRow ns) [])) t) ∧ ((List.range i).foldl (imgRow ns) []).length ≤ i * 100) ?_ ?_ ?_
  · exact ⟨by walk_at "m.look", t, by walk_at "m.look", by simp⟩
  · rintro i t₁ m₁ news₁ I o s₃ hi' ⟨hm1, tI, hm2, hlen⟩ hoff H
    generalize hacc : (List.range i).foldl (imgRow ns) [] = acc at hm2 hlen
    have hacc1 : (List.range (i + 1)).foldl (imgRow ns) [] = ns.foldl (imgStep i) acc := by
      rw [List.range_succ, List.foldl_append, hacc]; rfl
    refine wpAny_execs_cons (wpAny_For ?_)
    refine a_name H (by walk_at "m.look") ?_
    refine forL H hh hi (fun j m news => m "heights" = some (.ref l) ∧ (∃ t, m "level" = some (.int i t)) ∧ (∃ t, m "image" = some (.str (S ((ns.take j).foldl (imgStep i) acc)) t)) ∧ news = (I, o) :: news₁) ⟨ol, ⟨hcls, nn, hdat⟩, fun _ _ _ s' _ H' => H'.F.keep _ _ hol⟩ ?_ ?_ ?_
    · exact ⟨by walk_at "m.look", ⟨t₁, by walk_at "m.look"⟩, ⟨tI, by walk_at "m.look"⟩, rfl⟩
    · rintro j n t₂ m₂ _ I₂ o₂ s₄ hj ⟨hm1, ⟨tl, hm2⟩, ⟨ti, hm3⟩, rfl⟩ hoff₂ H
      have hstep := foldl_take_succ (imgStep i) acc ns j n hj
      have hle := imgFold_le i (ns.take j) acc
      generalize hb' : (ns.take j).foldl (imgStep i) acc = b at hm3 hstep hle
      have hbl : b.length + 1 ≤ 1000000 := by
        have : (ns.take j).length ≤ 100 := by rw [List.length_take]; omega
        have : i * 100 ≤ 1000 * 100 := Nat.mul_le_mul_right _ (by omega)
        omega
      refine wpAny_execs_cons (wpAny_If (isTrue_plain (e_ISEOF O H (by rw [depth_deeper]; omega) ?_)))
      refine wpAny_BinOp (a_name H (by walk_at "m.look") (a_name H (by walk_at "m.look") (a_sub H fun t s₅ H => ⟨_, t, rfl, H, fun s₆ H => wpAny_truthy_bool ?_⟩)))
      by_cases c : n - (i : Int) = 0
      · have e : imgStep i b n = b ++ [40] := by unfold imgStep; rw [if_pos (by simpa using c)]
        rw [e] at hstep
        rw [show (n - (i : Int) == 0) = true by simpa using c]
        refine wpAny_execs_cons (wpAny_AugAssign_Name (a_load H (by walk_at "m.look") (a_str H S_open fun t s H => a_iadds H (by simp; omega) fun t s H => a_store H fun s H => ?_)))
        exact wpAny_execs_nil (wpAny_execs_nil ⟨_, _, H, hoff₂, by walk_at "m.look", ⟨tl, by walk_at "m.look"⟩, ⟨_, by rw [hstep]; walk_at "m.look"⟩, rfl⟩)
      · rw [show (n - (i : Int) == 0) = false by simpa using c]
        refine wpAny_execs_cons (wpAny_If (isTrue_plain (e_ISEOF O H (by rw [depth_deeper]; omega) ?_)))
        refine wpAny_BinOp (wpAny_BinOp (a_name H (by walk_at "m.look") (a_name H (by walk_at "m.look") (a_sub H fun t s₅ H => a_int H fun t s₅ H => a_add H fun t s₅ H => ⟨_, t, rfl, H, fun s₆ H => wpAny_truthy_bool ?_⟩))))
        by_cases c2 : n - (i : Int) + 1 = 0
        · have e : imgStep i b n = b ++ [41] := by unfold imgStep; rw [if_neg (by simpa using c), if_pos (by simpa using c2)]
          rw [e] at hstep
          rw [show (n - (i : Int) + 1 == 0) = true by simpa using c2]
          refine wpAny_execs_cons (wpAny_AugAssign_Name (a_load H (by walk_at "m.look") (a_str H S_close fun t s H => a_iadds H (by simp; omega) fun t s H => a_store H fun s H => ?_)))
          exact wpAny_execs_nil (wpAny_execs_nil (wpAny_execs_nil ⟨_, _, H, hoff₂, by walk_at "m.look", ⟨tl, by walk_at "m.look"⟩, ⟨_, by rw [hstep]; walk_at "m.look"⟩, rfl⟩))
        · have e : imgStep i b n = b := by unfold imgStep; rw [if_neg (by simpa using c), if_neg (by simpa using c2)]
          rw [e] at hstep
          rw [show (n - (i : Int) + 1 == 0) = false by simpa using c2]
          exact wpAny_execs_nil (wpAny_execs_nil (wpAny_execs_nil ⟨_, _, H, hoff₂, by walk_at "m.look", ⟨tl, by walk_at "m.look"⟩, ⟨_, by rw [hstep]; walk_at "m.look"⟩, rfl⟩))
    · rintro m₂ _ s₄ ⟨hm1, _, ⟨ti, hm3⟩, rfl⟩ H
      rw [List.take_length] at hm3
      show wpAny _ _ (execs [] _) _ _ _
      refine wpAny_execs_nil ⟨m₂, news₁, H, hoff, hm1, ti, by rw [hacc1]; exact hm3, ?_⟩
      rw [hacc1]
      have := imgFold_le i ns acc
      rw [Nat.succ_mul]; omega
  · rintro m₁ news₁ s₃ ⟨_, tI, hm2, _⟩ H
    show wpAny _ _ (execs _ _) _ _ _
    refine wpAny_execs_cons (wpAny_Return_some (a_name H hm2 ?_))
    have := h s₃ tI H.R
    rw [imgOf, hNN] at this
    exact this
end Mine
end

section
open PySem PySem.Spec PySem.Calls PyProof.Rows PySem.W
namespace Mine

abbrev lob (vs : List Value) (k : Nat) : Obj := { cls := .type "list", data := .seq vs.toArray k }

section
variable {w : World} {A : Around} {E : Value → Shared → Prop} {s₀ s : Shared} {name : PySem.Str} {scope : Scope} {L a : Addr} {cd : Value} {m mg mb : PySem.Str → Option Value} {news : List (Addr × Obj)} {env : Env}

theorem At.isList {c : Addr} {vs : List Value} {k : Nat} (H : At s₀ L m ((c, lob vs k) :: news) s) : s.heap.IsList c vs.toArray := ⟨_, (H.N _ (.head _)).1, rfl, k, rfl⟩

theorem a_nil {pos : Pos} {Q : Value → Shared → Prop} (H : At s₀ L m news s) (h : ∀ c s', Off c news → At s₀ L m ((c, lob [] 0) :: news) s' → Q (.ref c) s') : wpAny (model PR w) A (eval (.List [] pos) env) Q E s :=
  List_ (Calls.spliced_nil (wpAny_newObj_type (h _ _ H.off_size (H.push _)) (by size_fits)))

theorem a_append {c : Addr} {vs : List Value} {k : Nat} {x : Value} {Q : Value → Shared → Prop} (H : At s₀ L m ((c, lob vs k) :: news) s) (hoff : Off c news) (hsz : vs.length ≤ 1000000)
    (h : ∀ s', At s₀ L m ((c, lob (vs ++ [x]) (k + 1)) :: news) s' → Q .none s') : wpAny (model PR w) A (call (.builtin "list.append") [.ref c, x]) Q E s := by
  refine append_at (H.N _ (.head _)).1 (fun h' hs ho => h _ ?_) (by rw [List.size_toArray]; exact Nat.le_trans hsz (by decide))
  have := H.step (h := h') (k := s.toks) hoff (fun b x hb e => (hs.2 b (by simpa using hb)).trans e) (o' := lob (vs ++ [x]) (k + 1)) (by rw [ho]; simp)
  exact this

/-- xs.append(e) as a statement -/
theorem a_Append {c : Addr} {vs : List Value} {k : Nat} {x : PySem.Str} {np apos pos pos' : Pos} {e : Expr} {Q : Flow → Shared → Prop} (H : At s₀ L m ((c, lob vs k) :: news) s) (hoff : Off c news) (hsz : vs.length ≤ 1000000) (hv : m x = some (.ref c))
    (he : wpAny (model PR w) A (eval e (envOf name scope L a cd)) (fun v s₁ => At s₀ L m ((c, lob vs k) :: news) s₁ ∧ ∀ s', At s₀ L m ((c, lob (vs ++ [v]) (k + 1)) :: news) s' → Q .next s') E s)
    (hk : scope.kind = .function := by rfl) (hl : (envOf name scope L a cd).kindOf x = some .local := by rfl) (hd : (x == ("__debug__" : PySem.Str)) = false := by decide)
    (hs : starEach [e] (envOf name scope L a cd) = [(false, eval e (envOf name scope L a cd))] := by rfl)
    (hm : eval (.Call (.Attribute (.Name x np) "append" apos) [e] [] pos) (envOf name scope L a cd) = (do
      let ov ← eval (.Name x np) (envOf name scope L a cd)
      standAt apos.atName
      let (f, first) ← holding [ov] (getMethod ov "append" (do return (← importBound (.Name x np) (envOf name scope L a cd)).getD true))
      callWith pos f first (backTo pos (starEach [e] (envOf name scope L a cd))) []) := by rfl)
    (hi : interactive (envOf name scope L a cd) = false := by rfl) :
    wpAny (model PR w) A (exec (.Expr (.Call (.Attribute (.Name x np) "append" apos) [e] [] pos) pos') (envOf name scope L a cd)) Q E s := by
  refine wpAny_Expr (MethodCall_ (pl := do return (← importBound (.Name x np) (envOf name scope L a cd)).getD true) (a_name H hv (Calls.getMethod_list_append (H.N _ (.head _)).1 rfl rfl ?_) hk hl hd) hm) hi
  show wpAny _ _ (callWith _ (.builtin "list.append") [.ref c] (backTo pos (starEach [e] _)) []) _ _ _
  rw [hs]
  refine Calls.callWith_builtin rfl (Calls.evalArgs_plain (Calls.spliced_cons (wpAny_mono he (fun v s₁ h₁ => Calls.spliced_nil ?_) fun _ _ e => e)))
  exact a_append h₁.1 hoff hsz h₁.2

theorem a_lenl {l : Addr} {vs : List Value} {Q : Value → Shared → Prop} (H : At s₀ L m news s) (hl : s.heap.IsList l vs.toArray) (hsz : vs.length ≤ 1000000) (h : ∀ t s', At s₀ L m news s' → Q (.int vs.length t) s') :
    wpAny (model PR w) A (call (.builtin "len") [.ref l]) Q E s :=
  PyProof.Rows.len_list hl (by rw [List.size_toArray]; omega) (by rw [List.size_toArray]; exact h _ _ H.toks)

theorem whileA {test : Expr} {body : List Stmt} {pos : Pos} {Q : Flow → Shared → Prop} (I : Nat → Shared → Prop)
    (turn : ∀ n s, I n s → wpAny (model PR w) A (isTrue test env (eval test env)) (fun b s₂ =>
        if b then wpAny (model PR w) A (execs body env) (fun f s₃ => match f with
            | .next | .cont => ∃ m, m < n ∧ I m s₃
            | .brk => Q .next s₃
            | .ret v => Q (.ret v) s₃) (fun _ _ => False) s₂
        else Q .next s₂) (fun _ _ => False) s)
    (n : Nat) (h : I n s) : wpAny (model PR w) A (exec (.While test body [] pos) env) Q E s := by
  refine wpAny_While (codeAny_whileLoop I (fun n s hI => ?_) n h)
  refine wpAny_mono (turn n s hI) (fun b s₂ h₂ => ?_) fun _ _ e => e.elim
  cases b with
  | true =>
    simp only [if_true] at h₂ ⊢
    refine wpAny_mono h₂ (fun f s₃ h₃ => ?_) fun _ _ e => e.elim
    cases f <;> exact h₃
  | false =>
    simp only [Bool.false_eq_true, if_false] at h₂ ⊢
    exact wpAny_execs_nil h₂
end
end Mine
end

section
open PySem PySem.Spec PySem.Calls PyProof.Rows PySem.W
namespace Mine
local macro_rules | `(tactic| walk_at "m.look") => `(tactic| first | assumption | exact if_pos rfl | (refine (if_neg (by decide)).trans ?_; walk_at "m.look") | rfl)

def bIn : List Nat → Int → Int → Int × Int × List Nat
  | [], o, c => (o, c, [])
  | x :: r, o, c => if x = 40 then bIn r (o + 1) c else if c > 0 then bIn r o (c - 1) else (o, c, x :: r)
theorem bIn_le : ∀ (r : List Nat) (o c : Int), (bIn r o c).2.2.length ≤ r.length
  | [], _, _ => Nat.le_refl _
  | x :: r, o, c => by
    unfold bIn
    split
    · have := bIn_le r (o + 1) c; simp only [List.length_cons]; omega
    · split
      · have := bIn_le r o (c - 1); simp only [List.length_cons]; omega
      · exact Nat.le_refl _

def bOut (len : Nat) : Nat → List Nat → Int → List Int → Option (List Int)
  | 0, _, _, _ => none
  | k + 1, rest, c, cs => if rest.length = 0 ∨ len < cs.length then some cs else bOut len k (bIn rest 0 c).2.2 (bIn rest 0 c).1 (cs ++ [(bIn rest 0 c).1])

theorem cd_bounces {w : World} {mg mb : PySem.Str → Option Value} {h : Heap} (O : Ok w mg mb h) : h.CodeRec (.ref 69) "_law_bounces" := ⟨69, _, _, _, rfl, O.K 69 _ rfl, rfl, rfl⟩

theorem call_bounces {w : World} {mg mb : PySem.Str → Option Value} {A : Around} {R : Result → Shared → Prop} {s : Shared} {img : List Nat} {t₀ : Tok} {cs : List Int} {fuel : Nat} (O : Ok w mg mb s.heap) (hroom : A.depth + 2 < recursionLimit) (hh : A.handled = none)
    (hlen : img.length ≤ 1000) (hb : bOut img.length fuel img 0 [] = some cs)
    (h : ∀ s' c vs k, Ret s s' → s'.heap.get? c = some (lob vs k) → s.heap.get? c = none → IntsAre vs cs → R (.ok (.ret (.ref c))) s') : codeAny (model PR w) A (.call (.ref 70) ⟨[.str (S img) t₀], []⟩) R s := by
  refine call_plain_ret (a := 70) (cd := .ref 69) (binds := [("image", .str (S img) t₀)]) (by omega) (O.K 70 _ rfl) rfl O.lim (cd_bounces O) rfl (locs rfl) ?_
  intro h₁ F
  have H : At s s.heap.objs.size (fun x => List.lookup x [(Str.ofString "image", Value.str (S img) t₀)].reverse) [] { s with heap := h₁, toks := s.toks + [(Str.ofString "image", Value.str (S img) t₀)].length } := ⟨F, News.nil, ⟨F.keep, fun _ _ e => e, fun e => e, rfl⟩⟩
  generalize { s with heap := h₁, toks := s.toks + [(Str.ofString "image", Value.str (S img) t₀)].length } = s₁ at H
  have hm : (fun x => List.lookup x [(Str.ofString "image", Value.str (S img) t₀)].reverse) (Str.ofString "image") = some (Value.str (S img) t₀) := rfl
  generalize (fun x => List.lookup x [(Str.ofString "image", Value.str (S img) t₀)].reverse) = m at H hm
  refine wpAny_execs_cons (wpAny_Assign_Name (a_nil H fun c s₁ hoff H => a_store H fun s₁ H => ?_))
  refine wpAny_execs_cons (wpAny_Assign_Name (a_int H fun t₁ s₁ H => a_store H fun s₁ H => ?_))
  refine wpAny_execs_cons (wpAny_Assign_Name (a_int H fun t₂ s₁ H => a_store H fun s₁ H => ?_))
  refine wpAny_execs_cons (wpAny_mono (Q := fun f s₅ => f = .next ∧ ∃ m vs k, At s s.heap.objs.size m [(c, lob vs k)] s₅ ∧ IntsAre vs cs ∧ m "counts" = some (.ref c)) (whileA (fun n s' => ∃ m rest pl, ∃ cl : Int, ∃ cts vs k, At s s.heap.objs.size m [(c, lob vs k)] s' ∧ IntsAre vs cts ∧ img.drop pl = rest ∧ pl ≤ img.length ∧ cts.length ≤ img.length + 1 ∧ m "image" = some (.str (S img) t₀) ∧ m "counts" = some (.ref c) ∧ (∃ t, m "closing" = some (.int cl t)) ∧ (∃ t, m "place" = some (.int (pl : Int) t)) ∧ bOut img.length n rest cl cts = some cs) ?_ fuel ?_) (fun f s₅ hq => ?_) fun _ _ e => e)
  · rintro n s₂ ⟨m, rest, pl, cl, cts, vs, k, H, hi, hrest, hpl, hcl, hm1, hm2, ⟨tc, hm3⟩, ⟨tp, hm4⟩, hbo⟩
    have hrl : rest.length = img.length - pl := by rw [← hrest, List.length_drop]
    refine isTrue_and (wpAny_isTrue_Compare1 (a_name H hm4 (c_builtin1 (a_glb O H (gn_len w) boot_len ⟨rfl, rfl⟩) (a_name H hm1 (a_lens H (by omega) fun t s₃ H => P.lt_int (wpAny_truthy_bool ?_))))))
    cases n with
    | zero => exact absurd hbo (by simp [bOut])
    | succ n =>
    by_cases c1 : (pl : Int) < img.length
    · rw [show decide ((pl : Int) < img.length) = true by simpa using c1]
      refine isTrue_and (wpAny_isTrue_Compare1 (c_builtin1 (a_glb O H (gn_len w) boot_len ⟨rfl, rfl⟩) (a_name H hm2 (a_lenl H H.isList (by have := hi.length; omega) fun t s₃ H => c_builtin1 (a_glb O H (gn_len w) boot_len ⟨rfl, rfl⟩) (a_name H hm1 (a_lens H (by omega) fun t s₃ H => P.le_int (wpAny_truthy_bool ?_)))))))
      by_cases c2 : (vs.length : Int) ≤ img.length
      · rw [show decide ((vs.length : Int) ≤ img.length) = true by simpa using c2]
        refine isTrue_and_nil ?_
        have hnot : ¬ (rest.length = 0 ∨ img.length < cts.length) := by have := hi.length; omega
        unfold bOut at hbo
        rw [if_neg hnot] at hbo
        generalize hg : bIn rest 0 cl = g at hbo
        refine wpAny_execs_cons (wpAny_Assign_Name (a_int H fun t s₃ H => a_store H fun s₃ H => ?_))
        refine wpAny_execs_cons (wpAny_mono (Q := fun f s₅ => f = .next ∧ ∃ m pl', At s s.heap.objs.size m [(c, lob vs k)] s₅ ∧ img.drop pl' = g.2.2 ∧ pl' ≤ img.length ∧ m "image" = some (.str (S img) t₀) ∧ m "counts" = some (.ref c) ∧ (∃ t, m "place" = some (.int (pl' : Int) t)) ∧ (∃ t, m "opened" = some (.int g.1 t))) (whileA (fun kk s' => ∃ m rest' pl', ∃ op cl' : Int, At s s.heap.objs.size m [(c, lob vs k)] s' ∧ img.drop pl' = rest' ∧ pl' ≤ img.length ∧ kk = rest'.length ∧ m "image" = some (.str (S img) t₀) ∧ m "counts" = some (.ref c) ∧ (∃ t, m "closing" = some (.int cl' t)) ∧ (∃ t, m "place" = some (.int (pl' : Int) t)) ∧ (∃ t, m "opened" = some (.int op t)) ∧ bIn rest' op cl' = g) ?_ rest.length ?_) (fun f s₅ hq => ?_) fun _ _ e => e)
        · rintro kk s₄ ⟨m, rest', pl', op, cl', H, hr', hp', rfl, hm1, hm2, ⟨tc, hm3⟩, ⟨tp, hm4⟩, ⟨to, hm5⟩, hbi⟩
          have hrl' : rest'.length = img.length - pl' := by rw [← hr', List.length_drop]
          refine wpAny_mono (Q := fun b s₅ => b = (match rest' with | [] => false | x :: _ => decide (x = 40) || decide (cl' > 0)) ∧ At s s.heap.objs.size m [(c, lob vs k)] s₅) ?_ (fun b s₅ hb5 => ?_) (fun _ _ e => e)
          · refine isTrue_and (wpAny_isTrue_Compare1 (a_name H hm4 (c_builtin1 (a_glb O H (gn_len w) boot_len ⟨rfl, rfl⟩) (a_name H hm1 (a_lens H (by omega) fun t s₃ H => P.lt_int (wpAny_truthy_bool ?_))))))
            cases rest' with
            | nil =>
              rw [show decide ((pl' : Int) < img.length) = false by simp at hrl' ⊢; omega]
              exact ⟨rfl, H⟩
            | cons x r =>
              have hx : img[pl']? = some x := by
                have := congrArg List.head? hr'
                rwa [List.head?_drop] at this
              rw [show decide ((pl' : Int) < img.length) = true by simp at hrl' ⊢; omega]
              refine isTrue_and (isTrue_or (wpAny_isTrue_Compare1 (Subscript_ (a_name H hm1 (a_name H hm4 (a_items H (by omega) (by omega) (by simpa using hx) fun t s₃ H => a_str H S_open fun t s₃ H => eq_S (wpAny_truthy_bool ?_)))))))
              by_cases c4 : x = 40
              · subst c4
                exact isTrue_and_nil ⟨by simp, H⟩
              · rw [show ([x] == [40]) = false by simpa using c4]
                refine isTrue_or (wpAny_isTrue_Compare1 (a_name H hm3 (a_int H fun t s₃ H => P.gt_int (wpAny_truthy_bool ?_))))
                by_cases c5 : cl' > 0
                · rw [show decide (cl' > 0) = true by simpa using c5]
                  exact isTrue_and_nil ⟨by simp [c5], H⟩
                · rw [show decide (cl' > 0) = false by simpa using c5]
                  exact isTrue_or_nil ⟨by simp [c4, c5], H⟩
          · obtain ⟨hB, H⟩ := hb5
            cases rest' with
            | nil =>
              subst hB
              subst hbi
              exact ⟨rfl, m, pl', H, hr', hp', hm1, hm2, ⟨tp, hm4⟩, ⟨to, hm5⟩⟩
            | cons x r =>
              have hx : img[pl']? = some x := by
                have := congrArg List.head? hr'
                rwa [List.head?_drop] at this
              have hr : img.drop (pl' + 1) = r := by
                have := congrArg List.tail hr'
                rwa [List.tail_drop] at this
              have hlt : pl' < img.length := by simp at hrl'; omega
              cases b with
              | false =>
                have hf : bIn (x :: r) op cl' = (op, cl', x :: r) := by
                  have h4 : ¬ (x = 40 ∨ cl' > 0) := by simpa using hB.symm
                  rw [bIn, if_neg (fun e => h4 (.inl e)), if_neg (fun e => h4 (.inr e))]
                rw [hf] at hbi
                subst hbi
                exact ⟨rfl, m, pl', H, hr', hp', hm1, hm2, ⟨tp, hm4⟩, ⟨to, hm5⟩⟩
              | true =>
                refine wpAny_execs_cons (wpAny_If (wpAny_isTrue_Compare1 (Subscript_ (a_name H hm1 (a_name H hm4 (a_items H (by omega) (by omega) (by simpa using hx) fun t s₃ H => a_str H S_open fun t s₃ H => eq_S (wpAny_truthy_bool ?_)))))))
                by_cases c4 : x = 40
                · subst c4
                  refine wpAny_execs_cons (wpAny_AugAssign_Name (a_load H hm5 (a_int H fun t s₃ H => a_iadd H fun t s₃ H => a_store H fun s₃ H => ?_)))
                  refine wpAny_execs_nil (wpAny_execs_cons (wpAny_AugAssign_Name (a_load H (by walk_at "m.look") (a_int H fun t s₃ H => a_iadd H fun t s₃ H => a_store H fun s₃ H => ?_))))
                  refine wpAny_execs_nil ⟨r.length, by simp, _, r, pl' + 1, op + 1, cl', H, hr, hlt, rfl, by walk_at "m.look", by walk_at "m.look", ⟨_, by walk_at "m.look"⟩, ⟨_, by walk_at "m.look"⟩, ⟨_, by walk_at "m.look"⟩, ?_⟩
                  rw [← hbi, bIn, if_pos rfl]
                · have c5 : cl' > 0 := by simpa [c4] using hB
                  rw [show ([x] == [40]) = false by simpa using c4]
                  refine wpAny_execs_cons (wpAny_AugAssign_Name (a_load H hm3 (a_int H fun t s₃ H => a_isub H fun t s₃ H => a_store H fun s₃ H => ?_)))
                  refine wpAny_execs_nil (wpAny_execs_cons (wpAny_AugAssign_Name (a_load H (by walk_at "m.look") (a_int H fun t s₃ H => a_iadd H fun t s₃ H => a_store H fun s₃ H => ?_))))
                  refine wpAny_execs_nil ⟨r.length, by simp, _, r, pl' + 1, op, cl' - 1, H, hr, hlt, rfl, by walk_at "m.look", by walk_at "m.look", ⟨_, by walk_at "m.look"⟩, ⟨_, by walk_at "m.look"⟩, ⟨_, by walk_at "m.look"⟩, ?_⟩
                  rw [← hbi, bIn, if_neg c4, if_pos c5]
        · exact ⟨_, rest, pl, 0, cl, H, hrest, hpl, rfl, by walk_at "m.look", by walk_at "m.look", ⟨_, by walk_at "m.look"⟩, ⟨_, by walk_at "m.look"⟩, ⟨_, by walk_at "m.look"⟩, hg⟩
        · obtain ⟨rfl, m, pl', H, hdr, hple, hm1, hm2, ⟨tp, hm4⟩, ⟨to, hm5⟩⟩ := hq
          show wpAny _ _ (execs _ _) _ _ _
          refine wpAny_execs_cons (a_Append H (fun _ hp => nomatch hp) (by have := hi.length; omega) hm2 (a_name H hm5 ⟨H, fun s₆ H => ?_⟩))
          show wpAny _ _ (execs _ _) _ _ _
          refine wpAny_execs_cons (wpAny_Assign_Name (a_name H hm5 (a_store H fun s₇ H => ?_)))
          refine wpAny_execs_nil ⟨n, Nat.lt_succ_self _, _, g.2.2, pl', g.1, cts ++ [g.1], vs ++ [Value.int g.1 to], k + 1, H, hi.append (.cons _ _ .nil), hdr, hple, ?_, by walk_at "m.look", by walk_at "m.look", ⟨_, by walk_at "m.look"⟩, ⟨_, by walk_at "m.look"⟩, hbo⟩
          rw [List.length_append]; simp; omega
      · rw [show decide ((vs.length : Int) ≤ img.length) = false by simpa using c2]
        have hyes : rest.length = 0 ∨ img.length < cts.length := by have := hi.length; omega
        unfold bOut at hbo
        rw [if_pos hyes] at hbo
        cases hbo
        exact ⟨rfl, m, vs, k, H, hi, hm2⟩
    · rw [show decide ((pl : Int) < img.length) = false by simpa using c1]
      have hyes : rest.length = 0 ∨ img.length < cts.length := by omega
      unfold bOut at hbo
      rw [if_pos hyes] at hbo
      cases hbo
      exact ⟨rfl, m, vs, k, H, hi, hm2⟩
  · exact ⟨_, img, 0, 0, [], [], 0, H, .nil, rfl, Nat.zero_le _, Nat.zero_le _, by walk_at "m.look", by walk_at "m.look", ⟨_, by walk_at "m.look"⟩, ⟨_, by walk_at "m.look"⟩, hb⟩
  · obtain ⟨rfl, m, vs, k, H, hi, hm2⟩ := hq
    show wpAny _ _ (execs _ _) _ _ _
    refine wpAny_execs_cons (wpAny_Return_some (a_name H hm2 ?_))
    exact h s₅ c vs k H.R (H.N _ (.head _)).1 (H.N _ (.head _)).2.2 hi
end Mine
end

section
open PySem PySem.Spec PySem.Calls PyProof.Rows PySem.W PySem.W.X
open Sem (wp)
namespace Mine

section
variable {w : World} {A : Around} {c : Code} {fs : List Frame} {P : End → Shared → Prop} {s : Shared} {env : Env} {K : Flow → Sem Fin} {H : Value → Sem Fin} {gd : Bool → Bool} {lv : List Value → List Value}

theorem sx_wrap {α : Type} {m : Sem α} {K : α → Sem Fin} {H : Value → Sem Fin} {gd lv} (h : wpAny (model PR w) (A.over c fs) m (fun a s' => SegX (model PR w) A c (K a) fs s' P) (fun _ _ => False) s) :
    SegX (model PR w) A c (m.wrap K H gd lv) fs s P := by
  rintro Γ p rfl hΓ
  obtain ⟨e, s', hr, hq⟩ := runs_wrap_of_wp (Φ := fun e s' => e.quiet = true ∧ P e s') K H gd lv m (h (Γ.over fs) p (hΓ.over fs)) (fun a p' s' h' => h' Γ p' rfl hΓ) (fun x p' s' h' => h'.elim)
  exact ⟨e, s', hr, hq⟩
theorem sx_bind_wrap {α β : Type} {m : Sem α} {K₀ : α → Sem β} {K' : β → Sem Fin} {H' : Value → Sem Fin} {gd lv}
    (h : wpAny (model PR w) (A.over c fs) m (fun a s' => SegX (model PR w) A c ((K₀ a).wrap K' H' gd lv) fs s' P) (fun _ _ => False) s) : SegX (model PR w) A c ((m >>= K₀).wrap K' H' gd lv) fs s P := by
  rw [Sem.bind_eq_wrap', Sem.wrap_wrap]; exact sx_wrap h
theorem sx_at {p' : Pos} {k : Unit → Sem Fin} (h : SegX (model PR w) A c (k ()) fs s P) : SegX (model PR w) A c (.at p' k) fs s P :=
  sx_wrap (m := standAt p') (K := k) (H := .raise) (gd := id) (lv := id) (wpAny_standAt h)
theorem sx_point {l : List Value} {k : Unit → Sem Fin} (h : SegX (model PR w) A c (k ()) fs s P) : SegX (model PR w) A c (.point l k) fs s P :=
  sx_wrap (m := point) (K := k) (H := .raise) (gd := id) (lv := fun _ => l) (wpAny_point h)

theorem sx_execs_nil (h : SegX (model PR w) A c (K .next) fs s P) : SegX (model PR w) A c ((execs [] env).wrap K H gd lv) fs s P := h
theorem sx_execs_cons {st : Stmt} {rest : List Stmt}
    (h : SegX (model PR w) A c ((exec st env).wrap (fun f => match f with | .next => (execs rest env).wrap K H gd lv | f => K f) H gd lv) fs s P) :
    SegX (model PR w) A c ((execs (st :: rest) env).wrap K H gd lv) fs s P := by rw [execs_cons_wrap]; exact h
theorem sx_If {test : Expr} {body orelse : List Stmt} {pos : Pos}
    (h : wpAny (model PR w) (A.over c fs) (isTrue test env (eval test env)) (fun b s' => if b then SegX (model PR w) A c ((execs body env).wrap K H gd lv) fs s' P else SegX (model PR w) A c ((execs orelse env).wrap K H gd lv) fs s' P) (fun _ _ => False) s) :
    SegX (model PR w) A c ((exec (.If test body orelse pos) env).wrap K H gd lv) fs s P := by
  rw [exec_If]
  refine sx_bind_wrap (wpAny_standAt (sx_bind_wrap (wpAny_mono h (fun b s' h' => ?_) fun _ _ e => e)))
  cases b <;> exact h'

theorem sx_Yield {e : Expr} {ypos pos : Pos} (hfs : splitAtGen fs = none) (hgd : gd false = false) (hfg : fs.any Frame.guarded = false)
    (h : wpAny (model PR w) (A.over c fs) (eval e env) (fun v s' => ∀ l k p, (∀ s'' P', SegX (model PR w) A c (K .next) fs s'' P' → SegX (model PR w) A c (k (.send .none)) fs s'' P') → (End.susp v false l k c p fs).genState.bare = true → P (.susp v false l k c p fs) s') (fun _ _ => False) s)
    (hco : env.scope.isCoroutine = false := by rfl) (hi : interactive env = false := by rfl) :
    SegX (model PR w) A c ((exec (.Expr (.Yield (some e) ypos) pos) env).wrap K H gd lv) fs s P := by
  rw [exec_Expr env _ pos hi rfl]
  show SegX (model PR w) A c (.at pos fun _ => ((eval e env >>= fun v => (standAt ypos >>= fun _ => yieldOut env v)) >>= fun x =>
    dropValue (.Yield (some e) ypos) pos x).wrap K H gd lv) fs s P
  have hy : ∀ v, yieldOut env v = yieldValue v := fun v => by simp only [yieldOut, hco, Bool.false_eq_true, if_false]
  simp only [hy]
  refine sx_at ?_
  rw [Sem.bind_eq_wrap', Sem.bind_eq_wrap', Sem.wrap_wrap, Sem.wrap_wrap]
  refine sx_wrap (wpAny_mono h (fun v s' h' => ?_) fun _ _ x => x)
  refine sx_at ?_
  show SegX (model PR w) A c (.yield v (gd false) _ _) fs s' P
  rw [hgd]
  exact s_yield PR w A c fs P s' v _ _ hfs hfg fun p => h' _ _ p (fun s'' P' hx => hx) (by show (!(false || fs.any Frame.guarded)) = true; rw [hfg]; rfl)

theorem sx_func {body : List Stmt}
    (h : SegX (model PR w) A (.func body env) ((execs body env).wrap (fun f => .pure (.done (.ret (match f with | .ret v => v | _ => .none))))
      (fun e => (leaving env e).wrap (fun _ => .raise e) .raise id id) id id) fs s P) :
    SegX (model PR w) A (.func body env) (denote table (.func body env)) fs s P := by
  show SegX (model PR w) A (.func body env) (.point [] fun _ => ((execs body env).onRaise (leaving env)) >>= _) fs s P
  refine sx_point ?_
  rw [Sem.onRaise_eq_wrap, Sem.bind_eq_wrap', Sem.wrap_wrap]
  rw [Sem.wrap_congr (execs body env) _ _ (K' := fun f => .pure (.done (.ret (match f with | .ret v => v | _ => .none))))
    (H' := fun e => (leaving env e).wrap (fun _ => .raise e) .raise id id) (fun f => by cases f <;> rfl)
    (fun e => by rw [Sem.bind_eq_wrap, Sem.wrap_wrap]; rfl)]
  exact h

/-- the frame that a for waits in -/
abbrev ownK (env : Env) (K : Flow → Sem Fin) (H : Value → Sem Fin) (gd : Bool → Bool) (lv : List Value → List Value) : Result → Sem Fin := fun r =>
  ((match r with | .ok f => (.pure f : Sem Flow) | .error e => .raise e).onRaise fun (x : Value) => do
    if (← field x 1) == Value.none then unsupported "frame.own-activation:exception-without-traceback"
    setFlight x env.frame).wrap K H gd lv

theorem sx_For {target iter : Expr} {body orelse : List Stmt} {pos : Pos} (hs : ∀ x, foldedSetIterable iter env x = pure x)
    (h : wpAny (model PR w) (A.over c fs) (eval iter env) (fun x s₁ => wpAny (model PR w) (A.over c fs) (pyIter x) (fun it s₂ =>
      ∀ p, SegX (model PR w) A (.forLoop target it body orelse env) (denote table (.forLoop target it body orelse env)) (.ret (ownK env K H gd lv) none (gd false) (lv []) c p [] :: fs) s₂ P) (fun _ _ => False) s₁) (fun _ _ => False) s) :
    SegX (model PR w) A c ((exec (.For target iter body orelse pos) env).wrap K H gd lv) fs s P := by
  rw [exec_For]
  refine sx_bind_wrap (wpAny_standAt (sx_bind_wrap (wpAny_mono h (fun x s₁ h₁ => ?_) fun _ _ e => e)))
  rw [hs x]
  refine sx_bind_wrap (wpAny_pure (sx_bind_wrap (wpAny_standAt (sx_bind_wrap (wpAny_holding (wpAny_mono h₁ (fun it s₂ h₂ => ?_) fun _ _ e => e))))))
  exact s_call PR w A c fs P s₂ _ none (gd false) (lv []) _ h₂

/-- a turn of a for: what the iterator's next gives -/
theorem sx_forLoop {target : Expr} {it : Value} {body : List Stmt}
    (h : wpAny (model PR w) (A.over (.forLoop target it body [] env) fs) (pyNext it) (fun r s₁ => match r with
      | none => SegX (model PR w) A (.block [] env) (.pure (.done .next)) fs s₁ P
      | some v => wpAny (model PR w) (A.over (.forLoop target it body [] env) fs) (letOwnedTupleGo target it v) (fun _ s₂ => wpAny (model PR w) (A.over (.forLoop target it body [] env) fs) (assign target env v) (fun _ s₃ =>
          SegX (model PR w) A (.forLoop target it body [] env) ((execs body env).wrap (fun f => match f with
            | .next | .cont => .pure (.again (.forLoop target it body [] env))
            | .brk => .pure (.done .next)
            | .ret v => .pure (.done (.ret v))) (fun e => (do noteFrame e env; theTreesLotGoes e : Sem Unit).wrap (fun _ => .raise e) .raise id id) id id) fs s₃ P) (fun _ _ => False) s₂) (fun _ _ => False) s₁) (fun _ _ => False) s) :
    SegX (model PR w) A (.forLoop target it body [] env) (denote table (.forLoop target it body [] env)) fs s P := by
  show SegX (model PR w) A _ ((forTurn target it body [] env).onRaise (fun x => do noteFrame x env; theTreesLotGoes x)) fs s P
  unfold forTurn
  rw [Sem.onRaise_eq_wrap]
  refine sx_bind_wrap (wpAny_standAt (sx_bind_wrap (wpAny_onRaise (wpAny_mono h (fun r s₁ h₁ => ?_) fun _ _ e => e.elim))))
  cases r with
  | none =>
    refine s_again PR w A _ fs P s₁ (.block [] env) rfl ?_
    exact h₁
  | some v =>
    refine sx_bind_wrap (wpAny_mono h₁ (fun _ s₂ h₂ => sx_bind_wrap (wpAny_mono h₂ (fun _ s₃ h₃ => ?_) fun _ _ e => e)) fun _ _ e => e)
    rw [Sem.bind_eq_wrap', Sem.wrap_wrap]
    rw [Sem.wrap_congr (execs body env) _ _ (K' := fun f => match f with
            | .next | .cont => .pure (.again (.forLoop target it body [] env))
            | .brk => .pure (.done .next)
            | .ret v => .pure (.done (.ret v))) (H' := (fun e => (do noteFrame e env; theTreesLotGoes e : Sem Unit).wrap (fun _ => .raise e) .raise id id))
        (fun f => by cases f <;> rfl)
        (fun e => by first | exact Sem.bind_eq_wrap _ _ | (show (do noteFrame e env; theTreesLotGoes e : Sem Unit).bind (fun _ => .raise e) = _; rw [Sem.bind_eq_wrap]))]
    exact h₃
end

theorem next_gen {w : World} {A : Around} {E : Value → Shared → Prop} {s : Shared} {a : Addr} {g : Nat} {gs : GenState} {c₀ : Code} {t₀ : Sem Fin} {fs₀ : List Frame} {P : End → Shared → Prop} {Q : Option Value → Shared → Prop} (hh : A.handled = none)
    (hl : s.heap.NoLimit) (hroom : A.depth < recursionLimit) (hg : s.heap.IsGen a g) (hgs : s.gens[g]? = some gs)
    (hgo : (gs = .fresh c₀ ∧ t₀ = denote table c₀ ∧ fs₀ = []) ∨ (∃ k₀ l₀ p₀ cl, gs = .suspended k₀ l₀ c₀ p₀ fs₀ cl ∧ t₀ = k₀ (.send .none)))
    (hx : SegX (model PR w) A.in1 c₀ t₀ fs₀ (s.setGen g .running) P)
    (hP : ∀ e s₁, P e s₁ → match e with
      | .ret r => r = .ok (.ret .none) ∧ ∀ h', (∀ b o, s₁.heap.get? b = some o → h'.get? b = some o) → Q none { s₁.setGen g .finished with heap := h' }
      | .susp v .. => Q (some v) (s₁.setGen g e.genState)) :
    wpAny (model PR w) A (pyNext (.ref a)) Q E s := by
  unfold pyNext
  refine wpAny_bind (wpAny_attempt (wpAny_callSpecial?_slot (name := Str.ofString "__next__") hg.typeIs slot_gen_next
    (wpAny_call_entry slot_gen_next hg.typeIs entry_gen_next ?_ (args_gen_next _))))
  show wpAny _ _ (Builtin.Generator.genWake (.ref a) (.send .none)) _ _ s
  unfold Builtin.Generator.genWake
  refine wpAny_bind (wpAny_holding (wpAny_genNumber hg (wpAny_bind (wpAny_genState hgs ?_))))
  have room : ∀ (st : GenStatus) (hst : st = .fresh ∨ st = .suspended) (k : Unit → Sem Fin) (Q' : Fin → Shared → Prop) (E' : Value → Shared → Prop), wpAny (model PR w) A.in1 (k ()) Q' E' s →
      wpAny (model PR w) A.in1 (match st with | .fresh | .suspended => roomToWake >>= k | _ => k ()) Q' E' s := by
    rintro st (rfl | rfl) k Q' E' hk
    · exact wpAny_bind (wpAny_roomToWake hl hroom hk)
    · exact wpAny_bind (wpAny_roomToWake hl hroom hk)
  refine room gs.status (by rcases hgo with ⟨rfl, _⟩ | ⟨_, _, _, _, rfl, _⟩ <;> simp [GenState.status]) _ _ _ ?_
  show wpAny _ _ (.resume g (.send .none) [] _) _ _ s
  refine fun Γ p hΓ => wake_any Fin PR w hgs ?_ (fun Γ => Γ.In A.in1) (fun _ h => h) (hx.mono fun e s₁ hp => ?_) Γ p hΓ
  · rcases hgo with ⟨h1, h2, h3⟩ | ⟨k₀, l₀, p₀, cl, h1, h2⟩
    · exact .inl ⟨h1, rfl, h2, h3⟩
    · exact .inr ⟨k₀, l₀, p₀, cl, h1, h2⟩
  · have hq := hP e s₁ hp
    have toAny : ∀ {t : Sem Fin} {Q' : Fin → Shared → Prop} {E' : Value → Shared → Prop} {s' : Shared}, wpAny (model PR w) A.in1 t Q' E' s' → ∀ Γ p, Γ.In A.in1 → Sem.wp (model PR w) Γ t (fun a _ s => Q' a s) (fun e _ s => E' e s) p s' := fun h Γ p hΓ => h Γ p hΓ
    refine toAny ?_
    cases e with
    | ret r =>
      obtain ⟨rfl, hq⟩ := hq
      show wpAny _ _ (newExc (.type "StopIteration") [] >>= _) _ _ _
      refine wpAny_bind ?_
      simp only [newExc, newTuple]
      refine wpAny_bind (wpAny_newObj_type ?_ (by size_fits))
      refine wpAny_bind (m := firstArgMember _ _) (wpAny_of_eq (a := Value.none) (by first | rfl | (simp only [firstArgMember]; rfl)) ?_)
      refine wpAny_newObj_type ?_ (by size_fits)
      simp only [raiseNew]
      refine wpAny_bind (wpAny_bind (wpAny_handled ?_))
      rw [show A.in1.handled = none from hh]
      refine wpAny_throw ?_
      refine wpAny_bind (wpAny_isInstance (T := "StopIteration") (b := true) ⟨_, Heap.get?_push_size _ rfl, rfl⟩ isSubtype_stop ?_)
      exact wpAny_pure (hq _ fun b o hb => Heap.get?_push_of_some _ (Heap.get?_push_of_some _ hb))
    | susp v gd l k c p fs =>
      exact wpAny_pure ⟨v, rfl, wpAny_pure hq⟩
end Mine
end

section
open PySem PySem.Spec PySem.Calls PyProof.Rows PySem.W PySem.W.X
namespace Mine

theorem At.cons {s₀ s : Shared} {L b : Addr} {m : PySem.Str → Option Value} {news : List (Addr × Obj)} {o : Obj} (H : At s₀ L m news s) (hb : b ≠ L) (hn : s₀.heap.get? b = none) (ho : s.heap.get? b = some o) : At s₀ L m ((b, o) :: news) s :=
  ⟨H.F, fun p hp => by
    rcases List.mem_cons.mp hp with rfl | hp
    · exact ⟨ho, hb, hn⟩
    · exact H.N p hp, H.R⟩
theorem At.newer {s₀ s : Shared} {L b : Addr} {m : PySem.Str → Option Value} {news : List (Addr × Obj)} (H : At s₀ L m news s) (hb : s.heap.objs.size ≤ b) : b ≠ L ∧ s₀.heap.get? b = none ∧ Off b news := by
  refine ⟨Nat.ne_of_gt (Nat.lt_of_lt_of_le H.F.ns.lt hb), ?_, fun p hp => Nat.ne_of_lt (Nat.lt_of_lt_of_le (Heap.lt_size (H.N p hp).1) hb)⟩
  cases q : s₀.heap.get? b with
  | none => rfl
  | some o => exact absurd (Heap.lt_size (H.F.keep _ _ q)) (Nat.not_lt.mpr hb)

section
variable {w : World} {A : Around} {E : Value → Shared → Prop} {s₀ s : Shared} {name : PySem.Str} {scope : Scope} {L a : Addr} {cd : Value} {m mg mb : PySem.Str → Option Value} {news : List (Addr × Obj)}

theorem a_assign2 {T : Addr} {xi xc : PySem.Str} {pk pv pt : Pos} {x1 : Nat} {v0 v1 : Value} {Q : Unit → Shared → Prop} (H : At s₀ L m news s) (hh : A.handled = none) (hT : s.heap.IsTuple T #[v0, v1])
    (h : ∀ s', At s₀ L (upd (upd m xi v0) xc v1) news s' → Q () s')
    (hk : scope.kind = .function := by rfl) (hi : (envOf name scope L a cd).kindOf xi = some .local := by rfl) (hc : (envOf name scope L a cd).kindOf xc = some .local := by rfl) :
    wpAny (model PR w) A (assign (.Tuple [.Name xi pk, .Name xc pv] x1 pt) (envOf name scope L a cd) (.ref T)) Q E s := by
  refine wpAny_assign_Tuple hh hT rfl rfl fun h₃ hx₃ => ?_
  have up₃ : ∀ b o, s.heap.get? b = some o → h₃.get? b = some o := fun b o x => hx₃ b o (Nat.ne_of_lt (Heap.lt_size x)) x
  have H₃ : At s₀ L m news { s with heap := h₃, toks := s.toks } := H.keep up₃
  show wpAny _ A (do holding [v1] (assign (.Name xi pk) _ v0); do holding [] (assign (.Name xc pv) _ v1); pure ()) _ _ _
  refine wpAny_bind (wpAny_holding (wpAny_assign_Name (a_store H₃ (fun s₄ H₄ => ?_) hk hi)))
  exact wpAny_bind (wpAny_holding (wpAny_assign_Name (a_store H₄ (fun s₅ H₅ => wpAny_pure (h _ H₅)) hk hc)))

/-- enumerate of a text -/
theorem a_enumS {l : List Nat} {t : Tok} {Q : Value → Shared → Prop} (H : At s₀ L m news s)
    (h : ∀ e it oe oi s', At s₀ L m ((e, oe) :: (it, oi) :: news) s' → IsEnum s'.heap e it 0 .none → s'.heap.IsStrIter it (strIterType (S l)) (S l) t 0 → e ≠ it → Off e news → Off it news → Q (.ref e) s') :
    wpAny (model PR w) A (call (.type "enumerate") [.str (S l) t]) Q E s := by
  refine call_enumerate_str fun h' he hit hsz hk => ?_
  have H' : At s₀ L m news { s with heap := h', toks := s.toks } := H.keep hk
  obtain ⟨n1, n2, n3⟩ := H.newer (Nat.le_refl s.heap.objs.size)
  obtain ⟨k1, k2, k3⟩ := H.newer (Nat.le_succ s.heap.objs.size)
  obtain ⟨oi, hoi, r⟩ := id hit
  exact h _ _ _ oi _ ((H'.cons n1 n2 hoi).cons k1 k2 he) he hit (Nat.succ_ne_self _) k3 n3

theorem drawsS (hh : A.handled = none) (it : Addr) (l : List Nat) (t : Tok) : Draws PR w A it [it] l.length (fun i v => ∃ c u, l[i]? = some c ∧ v = .str (S [c]) u) (fun i h => h.IsStrIter it (strIterType (S l)) (S l) t i) := by
  have e : (S l).cps.size = l.length := by simp
  unfold strIterType
  by_cases ha : (S l).cps.all (· < 128) = true
  · rw [if_pos ha, ← e]
    have := Draws.strAscii (prog := PR) (w := w) hh it (S l) t
    simpa using this
  · rw [if_neg ha, ← e]
    have := Draws.strWide (prog := PR) (w := w) hh it (S l) t
    simpa using this

theorem enum_obj {h h' : Heap} {e it : Addr} {i : Int} {old : Value} (x : IsEnum h e it i old) (k : ∀ o, h.get? e = some o → h'.get? e = some o) : IsEnum h' e it i old := k _ x

/-- one turn of an enumerate over a text, its tuple unpacked -/
theorem a_enumTurn {l : List Nat} {t : Tok} {j : Nat} {e it : Addr} {oe oi : Obj} {old : Value} {xi xc : PySem.Str} {pk pv pt : Pos} {x1 : Nat} {N : Shared → Prop} {Q : Shared → Prop} (H : At s₀ L m ((e, oe) :: (it, oi) :: news) s) (hh : A.handled = none)
    (he : IsEnum s.heap e it j old) (hit : s.heap.IsStrIter it (strIterType (S l)) (S l) t j) (hne : e ≠ it) (h1 : Off e news) (h2 : Off it news) {c : Nat} (hc : l[j]? = some c)
    (h : ∀ k u oe' oi' old' s', At s₀ L (upd (upd m xi (.int (j : Int) k)) xc (.str (S [c]) u)) ((e, oe') :: (it, oi') :: news) s' → IsEnum s'.heap e it ((j + 1 : Nat) : Int) old' → s'.heap.IsStrIter it (strIterType (S l)) (S l) t (j + 1) → Q s')
    (hk : scope.kind = .function := by rfl) (hi : (envOf name scope L a cd).kindOf xi = some .local := by rfl) (hcl : (envOf name scope L a cd).kindOf xc = some .local := by rfl) :
    wpAny (model PR w) A (pyNext (.ref e)) (fun r s₁ => match r with
      | none => N s₁
      | some v => wpAny (model PR w) A (letOwnedTupleGo (.Tuple [.Name xi pk, .Name xc pv] x1 pt) (.ref e) v) (fun _ s₂ => wpAny (model PR w) A (assign (.Tuple [.Name xi pk, .Name xc pv] x1 pt) (envOf name scope L a cd) v) (fun _ s₃ => Q s₃) E s₂) E s₁) E s := by
  have hjl : j < l.length := by
    rcases Nat.lt_or_ge j l.length with h' | h'
    · exact h'
    · rw [List.getElem?_eq_none h'] at hc; cases hc
  have ne1 := H.N _ (.head _)
  have ni1 := H.N _ (.tail _ (.head _))
  refine wpAny_pyNext_enum_itemD (drawsS (A := A.in1) hh it l t) he hit hjl hne (by simpa using hne) fun x h₁ tk hP ho hst₁ hT hsz hk₁ => ?_
  obtain ⟨c', u, hc', rfl⟩ := hP
  have : c' = c := Option.some.inj (hc'.symm.trans hc)
  subst this
  -- the heap after next
  obtain ⟨oi', hoi', r⟩ := id hst₁
  have oldk : ∀ b o, b ≠ e → b ≠ it → s.heap.get? b = some o → h₁.get? b = some o := hk₁
  have H₁ : At s₀ L m ((e, { cls := .type "enumerate", dict := none, data := .fields #[rawInt s.heap.objs.size, .bool false, .ref it, rawInt ((j : Int) + 1), .none, .str (S [c']) u], slots := #[] }) :: (it, oi') :: news) { s with heap := h₁, toks := tk + 1 } := by
    have F' : Fr s₀.heap L h₁ m := ⟨H.F.ns.at fun o x => oldk L o (fun q => ne1.2.1 q.symm) (fun q => ni1.2.1 q.symm) x, fun b o x => oldk b o (by rintro rfl; exact absurd (ne1.2.2.symm.trans x) (by simp)) (by rintro rfl; exact absurd (ni1.2.2.symm.trans x) (by simp)) (H.F.keep b o x), H.F.above⟩
    refine ⟨F', fun p hp => ?_, ⟨F'.keep, H.R.gens, H.R.bare, H.R.os⟩⟩
    rcases List.mem_cons.mp hp with rfl | hp
    · exact ⟨ho, ne1.2⟩
    · rcases List.mem_cons.mp hp with rfl | hp
      · exact ⟨hoi', ni1.2⟩
      · have np := H.N p (.tail _ (.tail _ hp))
        exact ⟨oldk _ _ (h1 p hp) (h2 p hp) np.1, np.2⟩
  have hTs : s.heap.objs.size ≠ e := Nat.ne_of_gt (Heap.lt_size ne1.1)
  refine wpAny_letOwnedTupleGo_enum ho fun h₂ he₂ hs₂ => ?_
  have H₂ := H₁.step (h := h₂) (k := tk + 1) (fun p hp => by
    rcases List.mem_cons.mp hp with rfl | hp
    · exact fun q => hne q.symm
    · exact h1 p hp) (fun b x hb y => (hs₂.2 b (by simpa using hb)).trans y) he₂
  have hT₂ : h₂.IsTuple s.heap.objs.size #[.int j tk, .str (S [c']) u] := ⟨_, (hs₂.2 _ hTs).trans hT, rfl, _, rfl⟩
  refine a_assign2 H₂ hh hT₂ (fun s' H' => ?_) hk hi hcl
  refine h tk u _ oi' (Value.str (S [c']) u) s' H' ?_ ⟨oi', (H'.N _ (.tail _ (.head _))).1, r⟩
  have := (H'.N _ (.head _)).1
  have e2 : ((j + 1 : Nat) : Int) = (j : Int) + 1 := by omega
  rw [e2]
  exact this

theorem a_enumEnd {l : List Nat} {t : Tok} {e it : Addr} {oe oi : Obj} {old : Value} {Q : Option Value → Shared → Prop} (H : At s₀ L m ((e, oe) :: (it, oi) :: news) s) (hh : A.handled = none)
    (he : IsEnum s.heap e it l.length old) (hit : s.heap.IsStrIter it (strIterType (S l)) (S l) t l.length) (hne : e ≠ it) (h1 : Off e news) (h2 : Off it news)
    (h : ∀ s', At s₀ L m ((e, oe) :: news) s' → Q none s') : wpAny (model PR w) A (pyNext (.ref e)) Q E s := by
  have ni1 := H.N _ (.tail _ (.head _))
  refine wpAny_pyNext_enum_endD (drawsS (A := A.in1) hh it l t) he hit fun h₁ hx => h _ ?_
  have keep : ∀ b o, b ≠ it → s.heap.get? b = some o → h₁.get? b = some o := fun b o hb x => hx b o hb x
  have F' : Fr s₀.heap L h₁ m := ⟨H.F.ns.at fun o x => keep L o (fun q => ni1.2.1 q.symm) x, fun b o x => keep b o (by rintro rfl; exact absurd (ni1.2.2.symm.trans x) (by simp)) (H.F.keep b o x), H.F.above⟩
  refine ⟨F', fun p hp => ?_, ⟨F'.keep, H.R.gens, H.R.bare, H.R.os⟩⟩
  rcases List.mem_cons.mp hp with rfl | hp
  · have np := H.N _ (.head _)
    exact ⟨keep _ _ hne np.1, np.2⟩
  · have np := H.N p (.tail _ (.tail _ hp))
    exact ⟨keep _ _ (h2 p hp) np.1, np.2⟩
end
end Mine
end

section
open PySem PySem.Spec PySem.Calls PyProof.Rows PySem.W PySem.W.X
namespace Mine

abbrev Led' := List (Addr × Obj)
abbrev mkG (s : Shared) (G : Array GenState) : Shared := { s with gens := G }
def Apart (own led : List (Addr × Obj)) : Prop := ∀ p ∈ own, ∀ q ∈ led, p.1 ≠ q.1
abbrev YSpec := Value → List (Addr × Obj) → Prop

/-- what one waking of a generator gives, the values still to come being «items» -/
def PEnd (w : World) (A : Around) (s : Shared) (C : Addr) : List YSpec → Array GenState → List (Addr × Obj) → End → Shared → Prop
  | [], G, led, e, s₁ => e = .ret (.ok (.ret .none)) ∧ ∃ m', At (mkG s G) C m' led s₁
  | I :: rest, G, led, e, s₁ => ∃ v gd l k c p fs m' own ex, e = .susp v gd l k c p fs ∧ e.genState.bare = true ∧ I v ex ∧ At (mkG s G) C m' (ex ++ (own ++ led)) s₁ ∧ Apart own led ∧
      (∀ G' s'' led', At (mkG s G') C m' (own ++ led') s'' → Apart own led' → SegX (model PR w) A c (k (.send .none)) fs s'' (PEnd w A s C rest G' led'))

def Ready (w : World) (A : Around) (s : Shared) (C : Addr) (items : List YSpec) (gs : GenState) (m : PySem.Str → Option Value) (own : List (Addr × Obj)) : Prop :=
  ∃ c₀ t₀ fs₀, ((gs = .fresh c₀ ∧ t₀ = denote table c₀ ∧ fs₀ = []) ∨ (∃ k₀ l₀ p₀ cl, gs = .suspended k₀ l₀ c₀ p₀ fs₀ cl ∧ t₀ = k₀ (.send .none))) ∧
    ∀ G' s'' led', At (mkG s G') C m (own ++ led') s'' → Apart own led' → SegX (model PR w) A c₀ t₀ fs₀ s'' (PEnd w A s C items G' led')

/-- the generator a, its number g, its frame C, as the frame L that walks it sees it -/
structure Gn (w : World) (A : Around) (s : Shared) (L : Addr) (m : PySem.Str → Option Value) (C a : Addr) (g : Nat) (items : List YSpec) (led : List (Addr × Obj)) (G : Array GenState) (s₁ : Shared)
    (ga oC : Obj) (mC : PySem.Str → Option Value) (own : List (Addr × Obj)) (gs : GenState) : Prop where
  at' : At (mkG s G) L m ((a, ga) :: (C, oC) :: (own ++ led)) s₁
  isGen : ∀ h : Heap, h.get? a = some ga → h.IsGen a g
  ns : ∀ h : Heap, h.get? C = some oC → h.Ns C mC
  gen : G[g]? = some gs
  new : s.gens.size ≤ g
  ext : ∀ (i : Nat) x, s.gens[i]? = some x → G[i]? = some x
  bare : AllBare s.gens → AllBare G
  ready : Ready w A s C items gs mC own
  aC : a ≠ C
  offA : Off a (own ++ led)
  offC : Off C (own ++ led)
  apart : Apart own led
  above : s.heap.objs.size ≤ C
  ownL : ∀ p ∈ own, p.1 ≠ L

theorem AllBare.setGen {s : Shared} {g : Nat} {x : GenState} (h : AllBare s.gens) (hx : x.bare = true) : AllBare (s.setGen g x).gens := fun y hy => by
  rcases Array.mem_or_eq_of_mem_setIfInBounds hy with hy | rfl
  · exact h y hy
  · exact hx
theorem setGen_other {s : Shared} {g i : Nat} {x : GenState} (h : i ≠ g) : (s.setGen g x).gens[i]? = s.gens[i]? := (GenOnly.setGen s g x).2 i h

theorem ns_obj {h : Heap} {a : Addr} {m : PySem.Str → Option Value} (x : h.Ns a m) : ∃ o, h.get? a = some o ∧ ∀ h' : Heap, h'.get? a = some o → h'.Ns a m :=
  let ⟨o, es, ep, ho, r⟩ := x; ⟨o, ho, fun _ e => ⟨o, es, ep, e, r⟩⟩

section
variable {w : World} {A : Around} {E : Value → Shared → Prop} {s s₁ : Shared} {L C a : Addr} {g : Nat} {m mg mb : PySem.Str → Option Value} {led : List (Addr × Obj)} {G : Array GenState} {ga oC : Obj} {mC : PySem.Str → Option Value} {own : List (Addr × Obj)} {gs : GenState}

theorem gn_next {I : YSpec} {rest : List YSpec} {Q : Option Value → Shared → Prop} (O : Ok w mg mb s.heap) (X : Gn w A.in1 s L m C a g (I :: rest) led G s₁ ga oC mC own gs) (hh : A.handled = none) (hd : A.depth < recursionLimit)
    (hQ : ∀ v ex G' s₂ oC' mC' own' gs', I v ex → Gn w A.in1 s L m C a g rest led G' s₂ ga oC' mC' own' gs' → (∀ p ∈ ex, s₂.heap.get? p.1 = some p.2) → Q (some v) s₂) :
    wpAny (model PR w) A (pyNext (.ref a)) Q E s₁ := by
  obtain ⟨H, hisG, hns, hgen, hnew, hext, hbare, ⟨c₀, t₀, fs₀, hres, hprom⟩, haC, hoA, hoC, hap, habove, hoL⟩ := X
  have n1 := H.N _ (.head _)
  have n2 := H.N _ (.tail _ (.head _))
  obtain ⟨oL, hoLget, hLns⟩ := ns_obj H.F.ns
  have hg₁ : s₁.gens[g]? = some gs := H.R.gens g gs hgen
  have hLC : L ≠ C := fun e => n2.2.1 e.symm
  have hLa : L ≠ a := fun e => n1.2.1 e.symm
  have hLnone : s.heap.get? L = none := Heap.get?_none_of_le H.F.above
  -- the generator's own view
  have HG : At (mkG s (s₁.setGen g .running).gens) C mC (own ++ ((L, oL) :: (a, ga) :: led)) (s₁.setGen g .running) := by
    refine ⟨⟨hns _ n2.1, H.F.keep, habove⟩, fun p hp => ?_, ⟨H.F.keep, fun _ _ e => e, fun e => e, H.R.os⟩⟩
    rcases List.mem_append.mp hp with hp | hp
    · have np := H.N p (.tail _ (.tail _ (List.mem_append_left _ hp)))
      exact ⟨np.1, hoC p (List.mem_append_left _ hp), np.2.2⟩
    · rcases List.mem_cons.mp hp with rfl | hp
      · exact ⟨hoLget, hLC, hLnone⟩
      · rcases List.mem_cons.mp hp with rfl | hp
        · exact ⟨n1.1, haC, n1.2.2⟩
        · have np := H.N p (.tail _ (.tail _ (List.mem_append_right _ hp)))
          exact ⟨np.1, hoC p (List.mem_append_right _ hp), np.2.2⟩
  have hap' : Apart own ((L, oL) :: (a, ga) :: led) := fun p hp q hq => by
    rcases List.mem_cons.mp hq with rfl | hq
    · exact hoL p hp
    · rcases List.mem_cons.mp hq with rfl | hq
      · exact hoA p (List.mem_append_left _ hp)
      · exact hap p hp q hq
  refine next_gen hh (O.keeps H.F.keep).lim hd (hisG _ n1.1) hg₁ hres (hprom _ _ _ HG hap') fun e s₂ hp => ?_
  obtain ⟨v, gd, l, k, c, p, fs, m', own', ex, rfl, hbr, hI, H₂, hap₂, hnext⟩ := hp
  have hrun : s₂.gens[g]? = some .running := H₂.R.gens g _ (setGen_self hg₁)
  obtain ⟨oC', hoC', hns'⟩ := ns_obj H₂.F.ns
  have mL : (L, oL) ∈ ex ++ (own' ++ ((L, oL) :: (a, ga) :: led)) := List.mem_append_right _ (List.mem_append_right _ (.head _))
  have ma : (a, ga) ∈ ex ++ (own' ++ ((L, oL) :: (a, ga) :: led)) := List.mem_append_right _ (List.mem_append_right _ (.tail _ (.head _)))
  have ml : ∀ p ∈ led, p ∈ ex ++ (own' ++ ((L, oL) :: (a, ga) :: led)) := fun p hp => List.mem_append_right _ (List.mem_append_right _ (.tail _ (.tail _ hp)))
  have mo : ∀ p ∈ own', p ∈ ex ++ (own' ++ ((L, oL) :: (a, ga) :: led)) := fun p hp => List.mem_append_right _ (List.mem_append_left _ hp)
  have hoL' : ∀ p ∈ own', p.1 ≠ L := fun p hp => hap₂ p hp _ (.head _)
  refine hQ v ex (s₂.setGen g _).gens _ oC' m' own' _ hI ⟨⟨⟨hLns _ (H₂.N _ mL).1, H₂.F.keep, H.F.above⟩, fun p hp => ?_, ⟨H₂.F.keep, fun _ _ e => e, fun e => e, H₂.R.os⟩⟩, hisG, hns', setGen_self hrun, hnew, fun i x hi => ?_, fun hb => ?_,
    ⟨c, _, fs, .inr ⟨k, l, p, _, rfl, rfl⟩, hnext⟩, haC, fun p hp => ?_, fun p hp => (H₂.N p ?_).2.1, fun p hp q hq => hap₂ p hp q (.tail _ (.tail _ hq)), habove, hoL'⟩ fun p hp => (H₂.N p (List.mem_append_left _ hp)).1
  · rcases List.mem_cons.mp hp with rfl | hp
    · exact ⟨(H₂.N _ ma).1, n1.2⟩
    · rcases List.mem_cons.mp hp with rfl | hp
      · exact ⟨hoC', n2.2⟩
      · rcases List.mem_append.mp hp with hp | hp
        · exact ⟨(H₂.N p (mo p hp)).1, hoL' p hp, (H₂.N p (mo p hp)).2.2⟩
        · exact ⟨(H₂.N p (ml p hp)).1, (H.N p (.tail _ (.tail _ (List.mem_append_right _ hp)))).2.1, (H₂.N p (ml p hp)).2.2⟩
  · have hig : i ≠ g := by
      rintro rfl
      rw [Array.getElem?_eq_none hnew] at hi
      cases hi
    rw [setGen_other hig]
    refine H₂.R.gens i x ?_
    show (s₁.setGen g .running).gens[i]? = some x
    rw [setGen_other hig]
    exact H.R.gens i x (hext i x hi)
  · exact AllBare.setGen (H₂.R.bare (AllBare.setGen (H.R.bare (hbare hb)) rfl)) hbr
  · rcases List.mem_append.mp hp with hp | hp
    · exact hap₂ p hp _ (.tail _ (.head _))
    · exact hoA p (List.mem_append_right _ hp)
  · rcases List.mem_append.mp hp with hp | hp
    · exact mo p hp
    · exact ml p hp

theorem gn_done {Q : Option Value → Shared → Prop} (O : Ok w mg mb s.heap) (X : Gn w A.in1 s L m C a g [] led G s₁ ga oC mC own gs) (hh : A.handled = none) (hd : A.depth < recursionLimit)
    (hQ : ∀ s₂, At s L m led s₂ → Q none s₂) : wpAny (model PR w) A (pyNext (.ref a)) Q E s₁ := by
  obtain ⟨H, hisG, hns, hgen, hnew, hext, hbare, ⟨c₀, t₀, fs₀, hres, hprom⟩, haC, hoA, hoC, hap, habove, hoL⟩ := X
  have n1 := H.N _ (.head _)
  have n2 := H.N _ (.tail _ (.head _))
  obtain ⟨oL, hoLget, hLns⟩ := ns_obj H.F.ns
  have hg₁ : s₁.gens[g]? = some gs := H.R.gens g gs hgen
  have hLC : L ≠ C := fun e => n2.2.1 e.symm
  have hLnone : s.heap.get? L = none := Heap.get?_none_of_le H.F.above
  have HG : At (mkG s (s₁.setGen g .running).gens) C mC (own ++ ((L, oL) :: (a, ga) :: led)) (s₁.setGen g .running) := by
    refine ⟨⟨hns _ n2.1, H.F.keep, habove⟩, fun p hp => ?_, ⟨H.F.keep, fun _ _ e => e, fun e => e, H.R.os⟩⟩
    rcases List.mem_append.mp hp with hp | hp
    · have np := H.N p (.tail _ (.tail _ (List.mem_append_left _ hp)))
      exact ⟨np.1, hoC p (List.mem_append_left _ hp), np.2.2⟩
    · rcases List.mem_cons.mp hp with rfl | hp
      · exact ⟨hoLget, hLC, hLnone⟩
      · rcases List.mem_cons.mp hp with rfl | hp
        · exact ⟨n1.1, haC, n1.2.2⟩
        · have np := H.N p (.tail _ (.tail _ (List.mem_append_right _ hp)))
          exact ⟨np.1, hoC p (List.mem_append_right _ hp), np.2.2⟩
  have hap' : Apart own ((L, oL) :: (a, ga) :: led) := fun p hp q hq => by
    rcases List.mem_cons.mp hq with rfl | hq
    · exact hoL p hp
    · rcases List.mem_cons.mp hq with rfl | hq
      · exact hoA p (List.mem_append_left _ hp)
      · exact hap p hp q hq
  refine next_gen hh (O.keeps H.F.keep).lim hd (hisG _ n1.1) hg₁ hres (hprom _ _ _ HG hap') fun e s₂ hp => ?_
  obtain ⟨rfl, m', H₂⟩ := hp
  refine ⟨rfl, fun h' hk => hQ _ ⟨⟨hLns _ (hk _ _ (H₂.N _ (.head _)).1), fun b o e => hk _ _ (H₂.F.keep b o e), H.F.above⟩, fun p hp => ?_, ⟨fun b o e => hk _ _ (H₂.F.keep b o e), fun i x hi => ?_, fun hb => ?_, H₂.R.os⟩⟩⟩
  · have np := H₂.N p (.tail _ (.tail _ hp))
    exact ⟨hk _ _ np.1, (H.N p (.tail _ (.tail _ (List.mem_append_right _ hp)))).2.1, np.2.2⟩
  · have hig : i ≠ g := by
      rintro rfl
      rw [Array.getElem?_eq_none hnew] at hi
      cases hi
    show (s₂.setGen g .finished).gens[i]? = some x
    rw [setGen_other hig]
    refine H₂.R.gens i x ?_
    show (s₁.setGen g .running).gens[i]? = some x
    rw [setGen_other hig]
    exact H.R.gens i x (hext i x hi)
  · exact AllBare.setGen (H₂.R.bare (AllBare.setGen (H.R.bare (hbare hb)) rfl)) rfl
end

theorem loop_down {w : World} {A : Around} {c : Code} {fs : List Frame} {q : Type} (St : Nat → q → Shared → Prop) (Pst : Nat → q → End → Shared → Prop) (n : Nat)
    (last : ∀ x s, St n x s → SegX (model PR w) A c (denote table c) fs s (Pst n x))
    (turn : ∀ j, j < n → (∀ x s, St (j + 1) x s → SegX (model PR w) A c (denote table c) fs s (Pst (j + 1) x)) → ∀ x s, St j x s → SegX (model PR w) A c (denote table c) fs s (Pst j x)) :
    ∀ k j, j + k = n → ∀ x s, St j x s → SegX (model PR w) A c (denote table c) fs s (Pst j x) := by
  intro k
  induction k with
  | zero => intro j hj x s h; have : j = n := by omega
            subst this; exact last x s h
  | succ k ih => intro j hj x s h; exact turn j (by omega) (fun x s h' => ih (j + 1) (by omega) x s h') x s h
end Mine
end

section
open PySem PySem.Spec PySem.Calls PyProof.Rows PySem.W PySem.W.X
namespace Mine
local macro_rules | `(tactic| walk_at "m.look") => `(tactic| first | assumption | exact if_pos rfl | (refine (if_neg (by decide)).trans ?_; walk_at "m.look") | rfl)

def spec (i c : Nat) : YSpec := fun v ex => ∃ T k u, v = .ref T ∧ ex = [(T, { cls := .type "tuple", data := .seq #[.int (i : Int) k, .str (S [c]) u] })]
def itemsFrom : Nat → List Nat → List YSpec
  | _, [] => []
  | i, c :: r => spec i c :: itemsFrom (i + 1) r
theorem itemsFrom_drop {l : List Nat} {j c : Nat} (h : l[j]? = some c) : itemsFrom j (l.drop j) = spec j c :: itemsFrom (j + 1) (l.drop (j + 1)) := by
  have hlt : j < l.length := by
    rcases Nat.lt_or_ge j l.length with h' | h'
    · exact h'
    · rw [List.getElem?_eq_none h'] at h; cases h
  rw [List.drop_eq_getElem_cons hlt]
  have : l[j] = c := by rw [List.getElem?_eq_getElem hlt] at h; exact Option.some.inj h
  rw [this]; rfl

theorem cd_iter {w : World} {mg mb : PySem.Str → Option Value} {h : Heap} (O : Ok w mg mb h) : h.CodeRec (.ref 27) "_iter_escaped_chars" := ⟨27, _, _, _, rfl, O.K 27 _ rfl, rfl, rfl⟩

theorem ret_size {s s₁ : Shared} (R : Ret s s₁) : s.gens.size ≤ s₁.gens.size := by
  rcases Nat.lt_or_ge s₁.gens.size s.gens.size with h | h
  · have := R.gens s₁.gens.size s.gens[s₁.gens.size] (by simp [h])
    simp at this
  · exact h

theorem gn_new {w : World} {A' : Around} {s s₁ : Shared} {L : Addr} {m mC : PySem.Str → Option Value} {led : List (Addr × Obj)} {items : List YSpec} {h' : Heap} {ga fo : Obj} {gs : GenState} {k : Nat}
    (H : At s L m led s₁) (hns : h'.Ns s₁.heap.objs.size mC) (hsb : Heap.SameBut s₁.heap.objs.size (s₁.heap.push fo) h') (hga : ga.isFreed = false)
    (hg : ∀ h : Heap, h.get? h'.objs.size = some ga → h.IsGen h'.objs.size s₁.gens.size) (hb : gs.bare = true) (hr : Ready w A' s s₁.heap.objs.size items gs mC []) :
    ∃ oC, Gn w A' s L m s₁.heap.objs.size h'.objs.size s₁.gens.size items led (s₁.gens.push gs) { s₁ with gens := s₁.gens.push gs, toks := k, heap := h'.push ga } ga oC mC [] gs := by
  have hsz : h'.objs.size = s₁.heap.objs.size + 1 := by rw [hsb.1, Heap.size_push]
  have keep : ∀ b o, s₁.heap.get? b = some o → h'.get? b = some o := fun b o e => hsb.extBut b o (Nat.ne_of_lt (Heap.lt_size e)) (Heap.get?_push_of_some _ e)
  obtain ⟨oC, hoC, hns'⟩ := ns_obj hns
  obtain ⟨c1, c2, c3⟩ := H.newer (Nat.le_refl s₁.heap.objs.size)
  obtain ⟨a1, a2, a3⟩ := H.newer (b := h'.objs.size) (by rw [hsz]; exact Nat.le_succ _)
  have keep2 : ∀ (o : Obj) b x, s₁.heap.get? b = some x → (h'.push o).get? b = some x := fun o b x e => Heap.get?_push_of_some _ (keep b x e)
  refine ⟨oC, ⟨⟨⟨H.F.ns.keeps (keep2 _), fun b o e => keep2 _ b o (H.F.keep b o e), H.F.above⟩, fun p hp => ?_, ⟨fun b o e => keep2 _ b o (H.F.keep b o e), fun _ _ e => e, fun e => e, H.R.os⟩⟩,
    hg, hns', Array.getElem?_push_size .., ret_size H.R, fun i x hi => ?_, fun hx => (H.R.bare hx).push hb, hr, by rw [hsz]; exact Nat.succ_ne_self _, fun p hp => a3 p hp, fun p hp => c3 p hp, (fun p hp => nomatch hp), Nat.le_trans H.F.above (Nat.le_of_lt H.F.ns.lt), (fun p hp => nomatch hp)⟩⟩
  · rcases List.mem_cons.mp hp with rfl | hp
    · exact ⟨Heap.get?_push_size _ hga, a1, a2⟩
    · rcases List.mem_cons.mp hp with rfl | hp
      · exact ⟨Heap.get?_push_of_some _ hoC, c1, c2⟩
      · exact ⟨keep2 _ _ _ (H.N p hp).1, (H.N p hp).2⟩
  · have := H.R.gens i x hi
    show (s₁.gens.push _)[i]? = some x
    have hlt : i < s₁.gens.size := by
      rcases Nat.lt_or_ge i s₁.gens.size with h | h
      · exact h
      · rw [Array.getElem?_eq_none h] at this; cases this
    rw [Array.getElem?_push_lt hlt]
    rw [Array.getElem?_eq_getElem hlt] at this
    exact this

theorem call_iter {w : World} {mg mb : PySem.Str → Option Value} {A A' : Around} {R : Result → Shared → Prop} {s s₁ : Shared} {L : Addr} {m : PySem.Str → Option Value} {led : List (Addr × Obj)} {l : List Nat} {t : Tok}
    (O : Ok w mg mb s.heap) (H : At s L m led s₁) (hroom : A.depth < recursionLimit) (hh : A'.handled = none) (h92 : 92 ∉ l)
    (h : ∀ a C g G s₂ ga oC mC gs, Gn w A' s L m C a g (itemsFrom 0 l) led G s₂ ga oC mC [] gs → R (.ok (.ret (.ref a))) s₂) :
    codeAny (model PR w) A (.call (.ref 28) ⟨[.str (S l) t], []⟩) R s₁ := by
  have O₁ := O.keeps H.F.keep
  refine codeAny_call_generator (a := 28) hroom (O₁.K 28 _ rfl) rfl rfl rfl rfl (cd_iter O₁) ?_
  refine wpAny_of_eq (a := ([(Str.ofString "addr", Value.str (S l) t)] : List (PySem.Str × Value))) rfl ?_
  refine wpAny_newFunctionEnv (by decide) (locs rfl) fun h' hns hsb => ⟨O₁.lim.fresh _ hsb, ?_⟩
  have key : ∀ (gs : GenState) (ga : Obj) (k : Nat), ga.isFreed = false → (∀ h : Heap, h.get? h'.objs.size = some ga → h.IsGen h'.objs.size s₁.gens.size) → gs.bare = true → Ready w A' s s₁.heap.objs.size (itemsFrom 0 l) gs (fun x => List.lookup x [(Str.ofString "addr", Value.str (S l) t)].reverse) [] →
      R (.ok (.ret (.ref h'.objs.size))) { s₁ with gens := s₁.gens.push gs, toks := k, heap := h'.push ga } := fun gs ga k h1 h2 h3 h4 => by
    obtain ⟨oC, X⟩ := gn_new (k := k) H hns hsb h1 h2 h3 h4
    exact h _ _ _ _ _ _ _ _ _ X
  refine key _ _ _ rfl (fun hp e => ⟨_, _, _, e, rfl, rfl, rfl⟩) rfl ?_
  · -- the promise
    refine ⟨_, _, [], .inl ⟨rfl, rfl, rfl⟩, fun G' s'' led' HG _ => ?_⟩
    replace HG : At (mkG s G') s₁.heap.objs.size _ led' s'' := HG
    generalize s₁.heap.objs.size = C at HG ⊢
    have hm : (fun x => List.lookup x [(Str.ofString "addr", Value.str (S l) t)].reverse) (Str.ofString "addr") = some (.str (S l) t) := rfl
    generalize (fun x => List.lookup x [(Str.ofString "addr", Value.str (S l) t)].reverse) = mC at HG hm
    have O' : Ok w mg mb (mkG s G').heap := O
    show SegX (model PR w) A' (.func _ (envOf (Str.ofString "_iter_escaped_chars") _ C 28 (.ref 27))) _ _ _ _
    refine sx_func (sx_execs_cons (sx_wrap (wpAny_Assign_Name (a_int HG fun t₁ s₃ HG => a_store HG fun s₃ HG => ?_))))
    refine sx_execs_cons (sx_wrap (wpAny_Assign_Name (Constant_bool (a_store HG fun s₃ HG => ?_))))
    refine sx_execs_cons (sx_For (fun _ => rfl) ?_)
    refine c_type1 (a_glb O' HG (gn_enumerate w) boot_enumerate ⟨rfl, rfl⟩) (a_name HG (by walk_at "m.look") ?_)
    refine a_enumS HG fun e it oe oi s₄ HG he hit hne he' hi' => wpAny_pyIter_enum he fun p => ?_
    refine loop_down (fun j (x : Array GenState × List (Addr × Obj)) s₅ => ∃ m oe oi old, At (mkG s x.1) C m ((e, oe) :: (it, oi) :: x.2) s₅ ∧ IsEnum s₅.heap e it (j : Nat) old ∧ s₅.heap.IsStrIter it (strIterType (S l)) (S l) t j ∧ Off e x.2 ∧ Off it x.2 ∧ m "escape" = some (.bool false))
      (fun j x => PEnd w A' s C (itemsFrom j (l.drop j)) x.1 x.2) l.length ?_ ?_ l.length 0 (Nat.zero_add _) (G', led') s₄ ⟨_, oe, oi, _, HG, he, hit, he', hi', by walk_at "m.look"⟩
    · rintro ⟨G₂, led₂⟩ s₅ ⟨m₅, oe₅, oi₅, old₅, H₅, he₅, hit₅, h1, h2, hm5⟩
      have e0 : itemsFrom l.length (l.drop l.length) = [] := by rw [List.drop_length]; rfl
      rw [e0]
      refine sx_forLoop (a_enumEnd H₅ hh he₅ hit₅ hne h1 h2 fun s₆ H₆ => ?_)
      refine s_pop _ _ _ _ _ _ _ (.ok .next) _ rfl _ _ _ _ _ _ _ ?_
      show SegX _ _ _ ((execs _ _).wrap _ _ _ _) _ _ _
      refine sx_execs_cons (sx_If (isTrue_plain (a_name H₆ hm5 (wpAny_truthy_bool ?_))))
      refine sx_execs_nil ?_
      show SegX _ _ _ ((execs [] _).wrap _ _ _ _) _ _ _
      refine sx_execs_nil (s_end _ _ _ _ _ _ (.ok (.ret .none)) _ rfl ⟨rfl, _, H₆.drop⟩)
    · rintro j hj ih ⟨G₂, led₂⟩ s₅ ⟨m₅, oe₅, oi₅, old₅, H₅, he₅, hit₅, h1, h2, hm5⟩
      obtain ⟨c, hc⟩ : ∃ c, l[j]? = some c := ⟨l[j], List.getElem?_eq_getElem hj⟩
      have hc92 : c ≠ 92 := by
        rintro rfl
        exact h92 (List.mem_of_getElem? hc)
      rw [itemsFrom_drop hc]
      refine sx_forLoop (a_enumTurn H₅ hh he₅ hit₅ hne h1 h2 hc fun kt u oe' oi' old' s₆ H₆ he₆ hit₆ => ?_)
      refine sx_execs_cons (sx_If (isTrue_plain (a_name H₆ (by walk_at "m.look") (wpAny_truthy_bool ?_))))
      refine sx_execs_cons (sx_If (wpAny_isTrue_Compare1 (a_name H₆ (by walk_at "m.look") (a_str H₆ S_back fun t₇ s₇ H₇ => eq_S (wpAny_truthy_bool ?_)))))
      rw [show ([c] == [92]) = false by simpa using hc92]
      have heo : ∀ h : Heap, h.get? e = some oe' → IsEnum h e it ((j + 1 : Nat) : Int) old' := fun h q => by
        have : some oe' = some _ := (H₆.N _ (.head _)).1.symm.trans he₆
        exact q.trans this
      have hio : ∀ h : Heap, h.get? it = some oi' → h.IsStrIter it (strIterType (S l)) (S l) t (j + 1) := fun h q => by
        obtain ⟨o, ho, r⟩ := hit₆
        have : oi' = o := Option.some.inj ((H₆.N _ (.tail _ (.head _))).1.symm.trans ho)
        subst this
        exact ⟨_, q, r⟩
      refine sx_execs_cons (sx_Yield rfl rfl rfl ?_)
      refine Tuple_ (Calls.spliced_cons (a_name H₇ (by walk_at "m.look") (Calls.spliced_cons (a_name H₇ (by walk_at "m.look") (Calls.spliced_nil ?_)))))
      refine wpAny_newObj_type ?_ (by size_fits)
      have H₈ := H₇.push { cls := .type "tuple", data := .seq #[.int (j : Int) kt, .str (S [c]) u] } (k := s₇.toks)
      intro lv k p hk hb
      refine ⟨_, false, lv, k, _, p, _, _, [(e, oe'), (it, oi')], [(s₇.heap.objs.size, { cls := .type "tuple", data := .seq #[.int (j : Int) kt, .str (S [c]) u] })], rfl, hb, ⟨_, kt, u, rfl, rfl⟩, H₈, ?_, ?_⟩
      · intro p hp q hq
        rcases List.mem_cons.mp hp with rfl | hp
        · exact fun e => h1 q hq e.symm
        · rcases List.mem_cons.mp hp with rfl | hp
          · exact fun e => h2 q hq e.symm
          · cases hp
      · intro G₃ s₉ led₃ H₉ hap
        refine hk _ _ ?_
        show SegX _ _ _ (.pure (.again _)) _ _ _
        refine s_again _ _ _ _ _ _ _ _ rfl (ih (G₃, led₃) s₉ ⟨_, oe', oi', old', H₉, heo _ (H₉.N _ (.head _)).1, hio _ (H₉.N _ (.tail _ (.head _))).1, fun q hq => ?_, fun q hq => ?_, by walk_at "m.look"⟩)
        · exact fun e => hap _ (.head _) q hq e.symm
        · exact fun e => hap _ (.tail _ (.head _)) q hq e.symm
end Mine
end

section
open PySem PySem.Spec PySem.Calls PyProof.Rows PySem.W PySem.W.X
namespace Mine
local macro_rules | `(tactic| walk_at "m.look") => `(tactic| first | assumption | exact if_pos rfl | (refine (if_neg (by decide)).trans ?_; walk_at "m.look") | rfl)

theorem cd_strip {w : World} {mg mb : PySem.Str → Option Value} {h : Heap} (O : Ok w mg mb h) : h.CodeRec (.ref 34) "_strip_quoted_realnames" := ⟨34, _, _, _, rfl, O.K 34 _ rfl, rfl, rfl⟩
theorem cd_check {w : World} {mg mb : PySem.Str → Option Value} {h : Heap} (O : Ok w mg mb h) : h.CodeRec (.ref 41) "_check_parenthesis" := ⟨41, _, _, _, rfl, O.K 41 _ rfl, rfl, rfl⟩

theorem call_strip {w : World} {mg mb : PySem.Str → Option Value} {A : Around} {R : Result → Shared → Prop} {s : Shared} {l : List Nat} {t : Tok} (O : Ok w mg mb s.heap) (hroom : A.depth < recursionLimit) (h34 : 34 ∉ l)
    (h : ∀ s', Ret s s' → R (.ok (.ret (.str (S l) t))) s') : codeAny (model PR w) A (.call (.ref 35) ⟨[.str (S l) t], []⟩) R s := by
  refine call_plain_ret (a := 35) (cd := .ref 34) (binds := [("addr", .str (S l) t)]) hroom (O.K 35 _ rfl) rfl O.lim (cd_strip O) rfl (locs rfl) ?_
  intro h₁ F
  have H : At s s.heap.objs.size (fun x => List.lookup x [(Str.ofString "addr", Value.str (S l) t)].reverse) [] { s with heap := h₁, toks := s.toks + [(Str.ofString "addr", Value.str (S l) t)].length } := ⟨F, News.nil, ⟨F.keep, fun _ _ e => e, fun e => e, rfl⟩⟩
  generalize { s with heap := h₁, toks := s.toks + [(Str.ofString "addr", Value.str (S l) t)].length } = s₁ at H
  have hm : (fun x => List.lookup x [(Str.ofString "addr", Value.str (S l) t)].reverse) (Str.ofString "addr") = some (Value.str (S l) t) := rfl
  generalize (fun x => List.lookup x [(Str.ofString "addr", Value.str (S l) t)].reverse) = m at H hm
  refine wpAny_execs_cons (wpAny_If (wpAny_isTrue_Compare1 (a_str H S_quote fun t s₂ H => a_name H hm (P.notIn_str (wpAny_truthy_bool ?_)))))
  rw [show (S [34]) = (⟨#[34]⟩ : PySem.Str) from rfl, StrLaws.found_one (S l) 34]
  rw [show decide (34 ∈ (S l).cps.toList) = false by simpa using h34]
  refine wpAny_execs_cons (wpAny_Return_some (a_name H hm ?_))
  exact h _ H.R

def bal : List Nat → Int → Bool
  | [], o => o == 0
  | c :: r, o => if c = 40 then bal r (o + 1) else if c = 41 then (if o - 1 < 0 then false else bal r (o - 1)) else bal r o

theorem Gn.upd {w : World} {A : Around} {s s₁ s' : Shared} {L C a : Addr} {g : Nat} {m m' : PySem.Str → Option Value} {items : List YSpec} {led : List (Addr × Obj)} {G : Array GenState} {ga oC : Obj} {mC : PySem.Str → Option Value} {own : List (Addr × Obj)} {gs : GenState}
    (X : Gn w A s L m C a g items led G s₁ ga oC mC own gs) (H : At (mkG s G) L m' ((a, ga) :: (C, oC) :: (own ++ led)) s') : Gn w A s L m' C a g items led G s' ga oC mC own gs :=
  ⟨H, X.isGen, X.ns, X.gen, X.new, X.ext, X.bare, X.ready, X.aC, X.offA, X.offC, X.apart, X.above, X.ownL⟩
theorem Gn.out {w : World} {A : Around} {s s₁ s' : Shared} {L C a : Addr} {g : Nat} {m m' : PySem.Str → Option Value} {items : List YSpec} {led : List (Addr × Obj)} {G : Array GenState} {ga oC : Obj} {mC : PySem.Str → Option Value} {own : List (Addr × Obj)} {gs : GenState}
    (X : Gn w A s L m C a g items led G s₁ ga oC mC own gs) (H : At (mkG s G) L m' ((a, ga) :: (C, oC) :: (own ++ led)) s') : At s L m' led s' :=
  ⟨H.F, fun p hp => H.N p (.tail _ (.tail _ (List.mem_append_right _ hp))), ⟨H.R.heap, fun i x hi => H.R.gens i x (X.ext i x hi), fun hb => H.R.bare (X.bare hb), H.R.os⟩⟩

theorem a_letGo {w : World} {A : Around} {E : Value → Shared → Prop} {s : Shared} {a T : Addr} {g : Nat} {elts : List Expr} {x1 : Nat} {pos : Pos} {Q : Unit → Shared → Prop} (ha : s.heap.IsGen a g) (h : Q () s) :
    wpAny (model PR w) A (letOwnedTupleGo (.Tuple elts x1 pos) (.ref a) (.ref T)) Q E s := by
  obtain ⟨o, nm, qn, ho, hc, hd, hs⟩ := ha
  unfold letOwnedTupleGo
  refine wpAny_bind (wpAny_load ho ?_)
  rw [hc, hd]
  show wpAny _ A (if (["enumerate", "zip", "dict_itemiterator", "dict_reverseitemiterator", "odict_iterator", "itertools.zip_longest", "itertools.pairwise"].contains "generator" && _) = true then _ else _) Q E s
  rw [if_neg (by
    have : (["enumerate", "zip", "dict_itemiterator", "dict_reverseitemiterator", "odict_iterator", "itertools.zip_longest", "itertools.pairwise"].contains "generator") = false := by decide
    rw [this]; simp)]
  exact wpAny_pure h

theorem call_check {w : World} {mg mb : PySem.Str → Option Value} {A : Around} {R : Result → Shared → Prop} {s : Shared} {l : List Nat} {t : Tok} (O : Ok w mg mb s.heap) (hroom : A.depth + 3 < recursionLimit) (hh : A.handled = none) (h34 : 34 ∉ l) (h92 : 92 ∉ l)
    (h : ∀ s', Ret s s' → R (.ok (.ret (.bool (bal l 0)))) s') : codeAny (model PR w) A (.call (.ref 42) ⟨[.str (S l) t], []⟩) R s := by
  refine call_plain_ret (a := 42) (cd := .ref 41) (binds := [("addr", .str (S l) t)]) (by omega) (O.K 42 _ rfl) rfl O.lim (cd_check O) rfl (locs rfl) ?_
  intro h₁ F
  have H : At s s.heap.objs.size (fun x => List.lookup x [(Str.ofString "addr", Value.str (S l) t)].reverse) [] { s with heap := h₁, toks := s.toks + [(Str.ofString "addr", Value.str (S l) t)].length } := ⟨F, News.nil, ⟨F.keep, fun _ _ e => e, fun e => e, rfl⟩⟩
  generalize { s with heap := h₁, toks := s.toks + [(Str.ofString "addr", Value.str (S l) t)].length } = s₁ at H
  have hm : (fun x => List.lookup x [(Str.ofString "addr", Value.str (S l) t)].reverse) (Str.ofString "addr") = some (Value.str (S l) t) := rfl
  generalize (fun x => List.lookup x [(Str.ofString "addr", Value.str (S l) t)].reverse) = m at H hm
  generalize s.heap.objs.size = L at H ⊢
  generalize hB : A.deeper _ = B
  have hhB : B.handled = none := by rw [← hB]; exact hh
  have hdB : B.depth + 2 < recursionLimit := by rw [← hB, depth_deeper]; omega
  -- addr = _strip_quoted_realnames(addr)
  refine wpAny_execs_cons (wpAny_Assign_Name (c_fun1 (f := 35) rfl rfl (a_gl O H (gn_strip w) ⟨rfl, rfl⟩) (a_name H hm ⟨(O.keeps H.F.keep).K, call_strip (O.keeps H.F.keep) (by omega) h34 fun s₂ r => ?_⟩)))
  replace H := H.ret r
  refine a_store H fun s₃ H => ?_
  refine wpAny_execs_cons (wpAny_Assign_Name (a_int H fun t₁ s₃ H => a_store H fun s₃ H => ?_))
  -- the for
  refine wpAny_execs_cons (wpAny_mono (Q := fun f s' => (f = .next ∧ ∃ m o t, At s L m [] s' ∧ m "opens" = some (.int o t) ∧ bal l 0 = (o == 0)) ∨ (f = .ret (.bool false) ∧ Ret s s' ∧ bal l 0 = false)) ?_ (fun f s' hf => ?_) fun _ _ e => e)
  · refine wpAny_For (c_fun1 (f := 28) rfl rfl (a_gl O H (gn_iter w) ⟨rfl, rfl⟩) (a_name H (by walk_at "m.look") ⟨(O.keeps H.F.keep).K, ?_⟩))
    refine call_iter (A' := B.in1) O H (by omega) hhB h92 fun a C g G s₄ ga oC mC gs X => ?_
    have hga := X.isGen _ (X.at'.N _ (.head _)).1
    refine wpAny_pyIter_gen hga ?_
    refine codeAny_forLoop_any (fun k s' => ∃ rest j o t m G ga oC mC own gs, k = rest.length ∧ Gn w B.in1 s L m C a g (itemsFrom j rest) [] G s' ga oC mC own gs ∧ m "opens" = some (.int o t) ∧ bal rest o = bal l 0) ?_ l.length ⟨l, 0, 0, _, _, G, ga, oC, mC, [], gs, rfl, X, by walk_at "m.look", rfl⟩
    rintro k s₅ ⟨rest, j, o, to, m, G, ga, oC, mC, own, gs, rfl, X, hm1, hb⟩
    cases rest with
    | nil =>
      refine gn_done O X hhB (by omega) fun s₆ H₆ => wpAny_execs_nil (.inl ⟨rfl, m, o, to, H₆, hm1, ?_⟩)
      rw [← hb]; rfl
    | cons c r =>
      refine gn_next O X hhB (by omega) fun v ex G' s₆ oC' mC' own' gs' hI X' hex => ?_
      obtain ⟨T, kt, u, rfl, rfl⟩ := hI
      refine a_letGo (X'.isGen _ (X'.at'.N _ (.head _)).1) ?_
      refine a_assign2 X'.at' hhB ⟨_, hex _ (.head _), rfl, 0, rfl⟩ fun s₇ H₇ => ?_
      have hbc : bal (c :: r) o = (if c = 40 then bal r (o + 1) else if c = 41 then (if o - 1 < 0 then false else bal r (o - 1)) else bal r o) := rfl
      have fin : ∀ (o' : Int) (t' : Tok) (m' : PySem.Str → Option Value) (s' : Shared), At (mkG s G') L m' ((a, ga) :: (C, oC') :: (own' ++ [])) s' → m' "opens" = some (.int o' t') → bal r o' = bal l 0 →
          ∃ k, k < (c :: r).length ∧ ∃ rest j o t m G ga oC mC own gs, k = rest.length ∧ Gn w B.in1 s L m C a g (itemsFrom j rest) [] G s' ga oC mC own gs ∧ m "opens" = some (.int o t) ∧ bal rest o = bal l 0 :=
        fun o' t' m' s' H' h1 h2 => ⟨r.length, Nat.lt_succ_self _, r, j + 1, o', t', m', G', ga, oC', mC', own', gs', rfl, X'.upd H', h1, h2⟩
      refine wpAny_execs_cons (wpAny_If (wpAny_isTrue_Compare1 (a_name H₇ (by walk_at "m.look") (a_str H₇ S_open fun t₂ s₈ H₇ => eq_S (wpAny_truthy_bool ?_)))))
      by_cases c1 : c = 40
      · rw [show ([c] == [40]) = true by simpa using c1]
        refine wpAny_execs_cons (wpAny_AugAssign_Name (a_load H₇ (by walk_at "m.look") (a_int H₇ fun t₃ s₈ H₇ => a_iadd H₇ fun t₃ s₈ H₇ => a_store H₇ fun s₈ H₇ => ?_)))
        refine wpAny_execs_nil (wpAny_execs_nil (fin (o + 1) t₃ _ _ H₇ (by walk_at "m.look") ?_))
        rw [← hb, hbc, if_pos c1]
      · rw [show ([c] == [40]) = false by simpa using c1]
        refine wpAny_execs_cons (wpAny_If (wpAny_isTrue_Compare1 (a_name H₇ (by walk_at "m.look") (a_str H₇ S_close fun t₂ s₈ H₇ => eq_S (wpAny_truthy_bool ?_)))))
        by_cases c2 : c = 41
        · rw [show ([c] == [41]) = true by simpa using c2]
          refine wpAny_execs_cons (wpAny_AugAssign_Name (a_load H₇ (by walk_at "m.look") (a_int H₇ fun t₃ s₈ H₇ => a_isub H₇ fun t₃ s₈ H₇ => a_store H₇ fun s₈ H₇ => ?_)))
          show wpAny _ _ (execs _ _) _ _ _
          refine wpAny_execs_cons (wpAny_If (wpAny_isTrue_Compare1 (a_name H₇ (by walk_at "m.look") (a_int H₇ fun t₄ s₈ H₇ => P.lt_int (wpAny_truthy_bool ?_)))))
          by_cases c3 : o - 1 < 0
          · rw [show decide (o - 1 < 0) = true by simpa using c3]
            refine wpAny_execs_cons (wpAny_Return_some (Constant_bool ?_))
            refine .inr ⟨rfl, (X'.out H₇).R, ?_⟩
            rw [← hb, hbc, if_neg c1, if_pos c2, if_pos c3]
          · rw [show decide (o - 1 < 0) = false by simpa using c3]
            refine wpAny_execs_nil (wpAny_execs_nil (wpAny_execs_nil (wpAny_execs_nil (fin (o - 1) t₃ _ _ H₇ (by walk_at "m.look") ?_))))
            rw [← hb, hbc, if_neg c1, if_pos c2, if_neg c3]
        · rw [show ([c] == [41]) = false by simpa using c2]
          refine wpAny_execs_nil (wpAny_execs_nil (wpAny_execs_nil (fin o to _ _ H₇ (by walk_at "m.look") ?_)))
          rw [← hb, hbc, if_neg c1, if_neg c2]
  · rcases hf with ⟨rfl, m, o, t, H, hm1, hb⟩ | ⟨rfl, hr, hb⟩
    · show wpAny _ _ (execs _ _) _ _ _
      refine wpAny_execs_cons (wpAny_Return_some (wpAny_Compare1 (a_name H hm1 (a_int H fun t₁ s₃ H => P.eq_int ?_))))
      have := h _ H.R
      rw [hb] at this
      exact this
    · have := h _ hr
      rw [hb] at this
      exact this
end Mine
end

section
open PySem PySem.Spec PySem.Calls PyProof.Rows PySem.W PySem.W.X
namespace Mine
local macro_rules | `(tactic| walk_at "m.look") => `(tactic| first | assumption | exact if_pos rfl | (refine (if_neg (by decide)).trans ?_; walk_at "m.look") | rfl)

section
variable {w : World} {A : Around} {E : Value → Shared → Prop} {s₀ s : Shared} {L : Addr} {m : PySem.Str → Option Value} {news : List (Addr × Obj)}
theorem a_slice_ns {value slice : Expr} {l : List Nat} {j : Int} {t uj : Tok} {Q : Value → Shared → Prop} (H : At s₀ L m news s) (hj : 0 ≤ j ∧ j ≤ l.length) (hl : l.length ≤ 100000) (h : ∀ t' s', At s₀ L m news s' → Q (.str (S (l.take j.toNat)) t') s')
    (hs : subscripted slice false (.str (S l) t) (.ref s.heap.objs.size) = operate [.ref s.heap.objs.size, .str (S l) t] (getItem (.str (S l) t) (.ref s.heap.objs.size)) := by with_unfolding_all rfl)
    (ht : ∀ r, letTemporaryGo value (.str (S l) t) r = pure () := by intro _; with_unfolding_all rfl) :
    wpAny (model PR w) A (subscriptTail value slice (.str (S l) t) (.ref s.heap.objs.size)) Q E { s with heap := s.heap.push { cls := .type "slice", data := .fields #[.none, .int j uj, .none] } } :=
  slice_strN_ns H.F H.N (fun h' t' k F' N' => by rw [slice_S_to hj]; exact h _ _ ⟨F', N', ⟨F'.keep, H.R.gens, H.R.bare, H.R.os⟩⟩) hs ht (by rw [S_len]; exact Nat.le_trans hl (by decide))
end

def hDown (pre : List Nat) : Nat → Nat
  | 0 => 0
  | h + 1 => if bal (pre ++ List.replicate (h + 1) 41) 0 then h + 1 else hDown pre h
theorem hDown_le (pre : List Nat) : ∀ h, hDown pre h ≤ h
  | 0 => Nat.le_refl _
  | h + 1 => by
    unfold hDown; split
    · exact Nat.le_refl _
    · have := hDown_le pre h; omega
def hStep (row : List Nat) (st : Nat × List Int) (i : Nat) : Nat × List Int :=
  if row[i]? = some 40 then (hDown (row.take i) st.1 + 1, st.2 ++ [(hDown (row.take i) st.1 : Int)]) else st
def hFold (row : List Nat) (i : Nat) : Nat × List Int := (List.range i).foldl (hStep row) (0, [])
def heightsOf (row : List Nat) : List Int := (hFold row row.length).2
theorem hFold_succ (row : List Nat) (i : Nat) : hFold row (i + 1) = hStep row (hFold row i) i := by
  unfold hFold; rw [List.range_succ, List.foldl_append]; rfl

theorem flat_one (n : Nat) : (List.replicate n [41]).flatten = List.replicate n 41 := by
  induction n with
  | zero => rfl
  | succ n ih => rw [List.replicate_succ, List.flatten_cons, ih]; rfl

theorem cd_heights {w : World} {mg mb : PySem.Str → Option Value} {h : Heap} (O : Ok w mg mb h) : h.CodeRec (.ref 55) "_law_heights" := ⟨55, _, _, _, rfl, O.K 55 _ rfl, rfl, rfl⟩

theorem call_heights {w : World} {mg mb : PySem.Str → Option Value} {A : Around} {R : Result → Shared → Prop} {s : Shared} {row : List Nat} {t₀ : Tok} (O : Ok w mg mb s.heap) (hroom : A.depth + 4 < recursionLimit) (hh : A.handled = none)
    (hlen : row.length ≤ 100) (h34 : 34 ∉ row) (h92 : 92 ∉ row)
    (h : ∀ s' c vs k, Ret s s' → s'.heap.get? c = some (lob vs k) → s.heap.get? c = none → IntsAre vs (heightsOf row) → R (.ok (.ret (.ref c))) s') : codeAny (model PR w) A (.call (.ref 56) ⟨[.str (S row) t₀], []⟩) R s := by
  refine call_plain_ret (a := 56) (cd := .ref 55) (binds := [("row", .str (S row) t₀)]) (by omega) (O.K 56 _ rfl) rfl O.lim (cd_heights O) rfl (locs rfl) ?_
  intro h₁ F
  have H : At s s.heap.objs.size (fun x => List.lookup x [(Str.ofString "row", Value.str (S row) t₀)].reverse) [] { s with heap := h₁, toks := s.toks + [(Str.ofString "row", Value.str (S row) t₀)].length } := ⟨F, News.nil, ⟨F.keep, fun _ _ e => e, fun e => e, rfl⟩⟩
  generalize { s with heap := h₁, toks := s.toks + [(Str.ofString "row", Value.str (S row) t₀)].length } = s₁ at H
  have hm : (fun x => List.lookup x [(Str.ofString "row", Value.str (S row) t₀)].reverse) (Str.ofString "row") = some (Value.str (S row) t₀) := rfl
  generalize (fun x => List.lookup x [(Str.ofString "row", Value.str (S row) t₀)].reverse) = m at H hm
  generalize s.heap.objs.size = L at H ⊢
  generalize hB : A.deeper _ = B
  have hhB : B.handled = none := by rw [← hB]; exact hh
  have hdB : B.depth + 3 < recursionLimit := by rw [← hB, depth_deeper]; omega
  refine wpAny_execs_cons (wpAny_Assign_Name (a_nil H fun c s₁ hoff H => a_store H fun s₁ H => ?_))
  refine wpAny_execs_cons (wpAny_Assign_Name (wpAny_UnaryOp (a_int H fun t₁ s₁ H => a_neg H fun t₁ s₁ H => a_store H fun s₁ H => ?_)))
  refine wpAny_execs_cons (wpAny_For ?_)
  refine c_type1 (a_glb O H (gn_range w) boot_range ⟨rfl, rfl⟩) ?_
  refine c_builtin1 (a_glb O H (gn_len w) boot_len ⟨rfl, rfl⟩) (a_name H (by walk_at "m.look") (a_lens H (by omega) fun t' s₂ H => ?_))
  refine call_range_1 ?_
  have H₃ := H.push { cls := .type "range", data := .fields #[.int 0 s₂.toks, .int row.length t', .int 1 (s₂.toks + 1)] } (k := s₂.toks + 1 + 1)
  have hr := IsRange.new s₂.heap 0 row.length 1 s₂.toks t' (s₂.toks + 1)
  refine forR (N := row.length) (H := H₃.drop) hhB hr (by omega) (fun i m news => m "row" = some (.str (S row) t₀) ∧ m "heights" = some (.ref c) ∧ (∃ t, m "height" = some (.int ((hFold row i).1 - 1 : Int) t)) ∧ (hFold row i).1 ≤ i ∧ (hFold row i).2.length ≤ i ∧ ∃ vs k, news = [(c, lob vs k)] ∧ IntsAre vs (hFold row i).2) ?_ ?_ ?_
  · exact ⟨by walk_at "m.look", by walk_at "m.look", ⟨_, by walk_at "m.look"⟩, Nat.le_refl _, Nat.le_refl _, _, _, rfl, .nil⟩
  · rintro i ti m _ I o s₃ hi ⟨hm1, hm2, ⟨th, hm3⟩, hle1, hle2, vs, k, rfl, hI⟩ hoff H
    have hoffI : Off c [] := fun _ hp => nomatch hp
    have hcI : c ≠ I := hoff _ (.head _)
    obtain ⟨x, hx⟩ : ∃ x, row[i]? = some x := ⟨row[i], List.getElem?_eq_getElem hi⟩
    have hsucc := hFold_succ row i
    generalize hg : hFold row i = g at hm3 hle1 hle2 hI hsucc
    obtain ⟨k₀, acc⟩ := g
    refine wpAny_execs_cons (wpAny_If (wpAny_isTrue_Compare1 (Subscript_ (a_name H (by walk_at "m.look") (a_name H (by walk_at "m.look") (a_items H (by omega) (by omega) (by simpa using hx) fun t s₃ H => a_str H S_open fun t s₃ H => eq_S (wpAny_truthy_bool ?_)))))))
    by_cases c1 : x = 40
    · subst c1
      have e1 : hStep row (k₀, acc) i = (hDown (row.take i) k₀ + 1, acc ++ [(hDown (row.take i) k₀ : Int)]) := if_pos hx
      rw [e1] at hsucc
      have hdl := hDown_le (row.take i) k₀
      generalize hD : hDown (row.take i) k₀ = D at hsucc hdl
      refine wpAny_execs_cons (wpAny_AugAssign_Name (a_load H (by walk_at "m.look") (a_int H fun t₃ s₈ H => a_iadd H fun t₃ s₈ H => a_store H fun s₈ H => ?_)))
      rw [show ((k₀ : Int) - 1 + 1) = (k₀ : Int) by omega] at H
      show wpAny _ _ (execs _ _) _ _ _
      refine wpAny_execs_cons (wpAny_mono (Q := fun f s₅ => f = .next ∧ ∃ m, At s L m [(I, o), (c, lob vs k)] s₅ ∧ m "row" = some (.str (S row) t₀) ∧ m "heights" = some (.ref c) ∧ ∃ t, m "height" = some (.int (D : Int) t)) (whileA (fun kk s' => ∃ m t ti, At s L m [(I, o), (c, lob vs k)] s' ∧ m "row" = some (.str (S row) t₀) ∧ m "heights" = some (.ref c) ∧ m "height" = some (.int (kk : Int) t) ∧ m "place" = some (.int (i : Int) ti) ∧ kk ≤ k₀ ∧ hDown (row.take i) kk = D) ?_ k₀ ?_) (fun f s₅ hq => ?_) fun _ _ e => e)
      · rintro kk s₄ ⟨m, tk, tp, H, hm1, hm2, hm3, hm4, hkk, hDk⟩
        refine isTrue_and (wpAny_isTrue_Compare1 (a_name H hm3 (a_int H fun t s₃ H => P.gt_int (wpAny_truthy_bool ?_))))
        cases kk with
        | zero => exact ⟨rfl, m, H, hm1, hm2, tk, by rw [← hDk]; exact hm3⟩
        | succ kk =>
        rw [show decide (((kk + 1 : Nat) : Int) > 0) = true by simp]
        refine isTrue_and (isTrue_not (isTrue_plain (c_fun1 (f := 42) rfl rfl (a_gl O H (gn_check w) ⟨rfl, rfl⟩) ?_)))
        refine wpAny_BinOp (Subscript_ (a_name H hm1 (wpAny_Slice (evalPart_none_step (evalPart_some_step (a_name H hm4 (evalPart_none_step (a_slice_ns H (by omega) (by omega) fun t s₅ H => ?_))))))))
        refine wpAny_BinOp (a_str H S_close fun t s₅ H => a_name H hm3 (a_muls H (by omega) (by omega) (by simp) fun t s₅ H => ?_))
        rw [flat_one, show ((kk + 1 : Nat) : Int).toNat = kk + 1 from rfl, show ((i : Nat) : Int).toNat = i from rfl]
        refine a_adds H (by simp; omega) fun t s₅ H => ?_
        have n34 : 34 ∉ row.take i ++ List.replicate (kk + 1) 41 := by
          intro e
          rcases List.mem_append.mp e with e | e
          · exact h34 (List.mem_of_mem_take e)
          · have := List.eq_of_mem_replicate e; omega
        have n92 : 92 ∉ row.take i ++ List.replicate (kk + 1) 41 := by
          intro e
          rcases List.mem_append.mp e with e | e
          · exact h92 (List.mem_of_mem_take e)
          · have := List.eq_of_mem_replicate e; omega
        refine ⟨(O.keeps H.F.keep).K, call_check (O.keeps H.F.keep) hdB hhB n34 n92 fun s₆ r => wpAny_truthy_bool ?_⟩
        replace H := H.ret r
        unfold hDown at hDk
        cases hb : bal (row.take i ++ List.replicate (kk + 1) 41) 0 with
        | true =>
          rw [hb] at hDk
          refine ⟨rfl, m, H, hm1, hm2, tk, ?_⟩
          rw [← hDk]; exact hm3
        | false =>
          rw [hb] at hDk
          refine isTrue_and_nil ?_
          refine wpAny_execs_cons (wpAny_AugAssign_Name (a_load H hm3 (a_int H fun t₃ s₈ H => a_isub H fun t₃ s₈ H => a_store H fun s₈ H => ?_)))
          refine wpAny_execs_nil ⟨kk, Nat.lt_succ_self _, _, t₃, tp, H, by walk_at "m.look", by walk_at "m.look", ?_, by walk_at "m.look", by omega, hDk⟩
          rw [show (((kk + 1 : Nat) : Int) - 1) = (kk : Int) by omega]
          walk_at "m.look"
      · exact ⟨_, t₃, ti, H, by walk_at "m.look", by walk_at "m.look", by walk_at "m.look", by walk_at "m.look", Nat.le_refl _, hD⟩
      · obtain ⟨rfl, m, H, hm1, hm2, th, hm3⟩ := hq
        show wpAny _ _ (execs _ _) _ _ _
        have Hs : At s L m [(c, lob vs k), (I, o)] s₅ := H.led fun p hp => by
          rcases List.mem_cons.mp hp with rfl | hp
          · exact .tail _ (.head _)
          · rcases List.mem_cons.mp hp with rfl | hp
            · exact .head _
            · cases hp
        refine wpAny_execs_cons (a_Append Hs (fun p hp => ?_) (by have : vs.length = acc.length := hI.length; have : acc.length ≤ i := hle2; omega) hm2 (a_name Hs hm3 ⟨Hs, fun s₆ H => ?_⟩))
        · rcases List.mem_cons.mp hp with rfl | hp
          · exact hcI.symm
          · cases hp
        refine wpAny_execs_nil (wpAny_execs_nil ⟨m, [(c, lob (vs ++ [.int (D : Int) th]) (k + 1))], H.led fun p hp => ?_, fun p hp => ?_, hm1, hm2, ?_⟩)
        · rcases List.mem_cons.mp hp with rfl | hp
          · exact .tail _ (.head _)
          · rcases List.mem_cons.mp hp with rfl | hp
            · exact .head _
            · cases hp
        · rcases List.mem_cons.mp hp with rfl | hp
          · exact hcI
          · cases hp
        · rw [hsucc]
          simp at hle1 hle2
          refine ⟨⟨th, ?_⟩, by simp; omega, by simp; omega, _, _, rfl, hI.append (.cons _ _ .nil)⟩
          rw [show (((D + 1 : Nat) : Int) - 1) = (D : Int) by omega]
          exact hm3
    · have e1 : hStep row (k₀, acc) i = (k₀, acc) := if_neg (by rw [hx]; simpa using c1)
      rw [e1] at hsucc
      rw [show ([x] == [40]) = false by simpa using c1]
      refine wpAny_execs_nil (wpAny_execs_nil ⟨_, _, H, hoff, by walk_at "m.look", by walk_at "m.look", ?_⟩)
      rw [hsucc]
      exact ⟨⟨th, by walk_at "m.look"⟩, Nat.le_succ_of_le hle1, Nat.le_succ_of_le hle2, _, _, rfl, hI⟩
  · rintro m _ s₃ ⟨_, hm2, _, _, _, vs, k, rfl, hI⟩ H
    show wpAny _ _ (execs _ _) _ _ _
    refine wpAny_execs_cons (wpAny_Return_some (a_name H hm2 ?_))
    exact h s₃ c vs k H.R (H.N _ (.head _)).1 (H.N _ (.head _)).2.2 hI
end Mine
end

section
open PySem PySem.Spec PySem.Calls PyProof.Rows PySem.W PySem.W.X
namespace Mine

abbrev NoE : Value → Shared → Prop := fun _ _ => False

section
variable {w : World} {A : Around} {E : Value → Shared → Prop} {s₀ s : Shared} {L : Addr} {m mg mb : PySem.Str → Option Value} {news : List (Addr × Obj)} {env : Env}

theorem v_name {x : PySem.Str} {pos : Pos} {v : Value} {Q : Value → Shared → Prop} (H : At s₀ L m news s) (hv : m x = some v) (h : Q v s) (hL : env.locals = L := by rfl)
    (hk : env.scope.kind = .function := by rfl) (hl : env.kindOf x = some .local := by rfl) (hd : (x == ("__debug__" : PySem.Str)) = false := by decide) :
    wpAny (model PR w) A (eval (.Name x pos) env) Q E s := by
  subst hL; exact wpAny_Name (wpAny_loadName_local hk hl H.F.ns hv h) hd
theorem v_load {x : PySem.Str} {v : Value} {Q : Value → Shared → Prop} (H : At s₀ L m news s) (hv : m x = some v) (h : Q v s) (hL : env.locals = L := by rfl)
    (hk : env.scope.kind = .function := by rfl) (hl : env.kindOf x = some .local := by rfl) :
    wpAny (model PR w) A (loadName env x) Q E s := by
  subst hL; exact wpAny_loadName_local hk hl H.F.ns hv h
theorem v_store {x : PySem.Str} {v : Value} {Q : Unit → Shared → Prop} (H : At s₀ L m news s) (h : ∀ s', At s₀ L (fun y => if y = x then some v else m y) news s' → Q () s') (hL : env.locals = L := by rfl)
    (hl : env.kindOf x = some .local := by rfl) (hp : (env.scope.kind == .class || (env.scope.kind == .module && env.locals != env.globals)) = false := by rfl) :
    wpAny (model PR w) A (storeName env x v) Q E s := by
  subst hL
  refine wpAny_storeName_local hl H.F.ns (fun h' hn hs => h _ ?_) hp
  have F' := H.F.set hn hs
  exact ⟨F', fun p hp => ⟨hs.extBut _ _ (H.N p hp).2.1 (H.N p hp).1, (H.N p hp).2⟩, ⟨F'.keep, H.R.gens, H.R.bare, H.R.os⟩⟩
theorem v_glb {x : PySem.Str} {pos : Pos} {v : Value} {Q : Value → Shared → Prop} (O : Ok w mg mb s₀.heap) (H : At s₀ L m news s) (e : nsIn (KH w) mainGlobals x = some none) (hv : bootBuiltins x = some v) (h : Q v s)
    (hn : x ≠ "__name__" := by decide) (hg : env.globals = mainGlobals := by rfl) (hb : env.builtins = builtinsNs := by rfl) (hk : env.scope.kind = .function := by rfl) (hx : env.kindOf x = some .globalImplicit := by rfl) (hd : (x == ("__debug__" : PySem.Str)) = false := by decide) :
    wpAny (model PR w) A (eval (.Name x pos) env) Q E s :=
  Calls.Name_function_global hk hx (Calls.loadGlobal_builtin (env := env) (by rw [hg]; exact O.g.keeps H.F.keep) (mg_none_of O.K O.g e) (by rw [hb]; exact O.b.keeps H.F.keep) ((O.bb x hn).trans hv) h) hd
theorem v_gl {x : PySem.Str} {pos : Pos} {v : Value} {Q : Value → Shared → Prop} (O : Ok w mg mb s₀.heap) (H : At s₀ L m news s) (e : nsIn (KH w) mainGlobals x = some (some v)) (h : Q v s)
    (hg : env.globals = mainGlobals := by rfl) (hk : env.scope.kind = .function := by rfl) (hx : env.kindOf x = some .globalImplicit := by rfl) (hd : (x == ("__debug__" : PySem.Str)) = false := by decide) :
    wpAny (model PR w) A (eval (.Name x pos) env) Q E s :=
  Calls.Name_function_global hk hx (Calls.loadGlobal_global (env := env) (by rw [hg]; exact O.g.keeps H.F.keep) (mg_of O.K O.g e) h) hd

theorem v_assign2 {T : Addr} {xi xc : PySem.Str} {pk pv pt : Pos} {x1 : Nat} {v0 v1 : Value} {Q : Unit → Shared → Prop} (H : At s₀ L m news s) (hh : A.handled = none) (hT : s.heap.IsTuple T #[v0, v1])
    (h : ∀ s', At s₀ L (upd (upd m xi v0) xc v1) news s' → Q () s') (hL : env.locals = L := by rfl)
    (hi : env.kindOf xi = some .local := by rfl) (hc : env.kindOf xc = some .local := by rfl) (hp : (env.scope.kind == .class || (env.scope.kind == .module && env.locals != env.globals)) = false := by rfl) :
    wpAny (model PR w) A (assign (.Tuple [.Name xi pk, .Name xc pv] x1 pt) env (.ref T)) Q E s := by
  refine wpAny_assign_Tuple hh hT rfl rfl fun h₃ hx₃ => ?_
  have up₃ : ∀ b o, s.heap.get? b = some o → h₃.get? b = some o := fun b o x => hx₃ b o (Nat.ne_of_lt (Heap.lt_size x)) x
  have H₃ : At s₀ L m news { s with heap := h₃, toks := s.toks } := H.keep up₃
  show wpAny _ A (do holding [v1] (assign (.Name xi pk) _ v0); do holding [] (assign (.Name xc pv) _ v1); pure ()) _ _ _
  refine wpAny_bind (wpAny_holding (wpAny_assign_Name (v_store H₃ (fun s₄ H₄ => ?_) hL hi hp)))
  exact wpAny_bind (wpAny_holding (wpAny_assign_Name (v_store H₄ (fun s₅ H₅ => wpAny_pure (h _ H₅)) hL hc hp)))

theorem At.swap {C : Addr} {oC : Obj} {mC : PySem.Str → Option Value} (H : At s₀ L m ((C, oC) :: news) s) (hC : ∀ h : Heap, h.get? C = some oC → h.Ns C mC) (hoff : Off C news) (hab : s₀.heap.objs.size ≤ C) :
    ∃ oL, (∀ h : Heap, h.get? L = some oL → h.Ns L m) ∧ At s₀ C mC ((L, oL) :: news) s := by
  obtain ⟨oL, hoL, hLns⟩ := ns_obj H.F.ns
  have nC := H.N _ (.head _)
  refine ⟨oL, hLns, ⟨hC _ nC.1, H.F.keep, hab⟩, fun p hp => ?_, H.R⟩
  rcases List.mem_cons.mp hp with rfl | hp
  · exact ⟨hoL, fun e => nC.2.1 e.symm, Heap.get?_none_of_le H.F.above⟩
  · have np := H.N p (.tail _ hp)
    exact ⟨np.1, hoff p hp, np.2.2⟩

theorem comp_end {C : Addr} {m' : PySem.Str → Option Value} {oL : Obj} {s₄ : Shared} {h' : Heap} (H : At s₀ C m' ((L, oL) :: news) s₄) (hL : ∀ h : Heap, h.get? L = some oL → h.Ns L m) (hoff : Off L news) (hab : s₀.heap.objs.size ≤ L)
    (hs : Heap.SameBut C s₄.heap h') : At s₀ L m news { s₄ with heap := h' } := by
  have nL := H.N _ (.head _)
  have hk : ∀ b o, s₀.heap.get? b = some o → h'.get? b = some o := fun b o e => hs.extBut b o (Nat.ne_of_lt (Nat.lt_of_lt_of_le (Heap.lt_size e) H.F.above)) (H.F.keep b o e)
  refine ⟨⟨hL _ (hs.extBut _ _ nL.2.1 nL.1), hk, hab⟩, fun p hp => ?_, ⟨hk, H.R.gens, H.R.bare, H.R.os⟩⟩
  have np := H.N p (.tail _ hp)
  exact ⟨hs.extBut _ _ np.2.1 np.1, hoff p hp, np.2.2⟩

/-- the comprehension's inside: its list D, its frame C -/
abbrev CompIn (w : World) (A : Around) (s₀ : Shared) (L : Addr) (env : Env) (e : Expr) (scope : Scope) (cl : List (PySem.Str × Addr)) (Fin : Addr → (PySem.Str → Option Value) → List (Addr × Obj) → Prop) (it : Value) (s₂ : Shared) : Prop :=
  ∃ m news, At s₀ L m news s₂ ∧ (∀ s' (Q' : Value → Shared → Prop) E', (∀ b o, s₂.heap.get? b = some o → s'.heap.get? b = some o) → Q' it s' → wpAny (model PR w) A (pyIter it) Q' E' s') ∧
    ∀ C D oL s₃, L ≠ C → (∀ h : Heap, h.get? L = some oL → h.Ns L m) → At s₀ C (fun _ => none) ((D, lob [] 0) :: (L, oL) :: news) s₃ → Off D ((L, oL) :: news) → (∀ b o, s₂.heap.get? b = some o → s₃.heap.get? b = some o) → s₂.heap.get? C = none → s₂.heap.get? D = none →
      codeAny (model PR w) A (.compLoop e 0 it (.ref D) (compEnvC scope cl C env)) (fun r s₄ => r = .ok .next ∧ ∃ m' news', At s₀ C m' ((L, oL) :: news') s₄ ∧ Off L news' ∧ Fin D m news') s₃

theorem comp_run {elt target iter : Expr} {ifs : List Expr} {rest : List Comprehension} {scope : Scope} {cl : List (PySem.Str × Addr)} {pos : Pos} {Fin : Addr → (PySem.Str → Option Value) → List (Addr × Obj) → Prop} {it : Value} {RR : Value → Addr → Result → Shared → Prop}
    (h : CompIn w A s₀ L env (.ListComp elt (⟨target, iter, ifs, 0⟩ :: rest) scope pos) scope cl Fin it s)
    (hcell : ∀ y ∈ scope.names, y.2 ≠ .cell) (hkind : scope.kind = .function)
    (hRR : ∀ C D oL m m' news' s₄, L ≠ C → (∀ h : Heap, h.get? L = some oL → h.Ns L m) → At s₀ C m' ((L, oL) :: news') s₄ → Off L news' → Fin D m news' → s₀.heap.objs.size ≤ L → RR (.ref D) C (.ok .next) s₄) :
    wpAny (model PR w) A (newList []) (fun acc s₃ => wpAny (model PR w) A (newFunctionEnv scope env.globals cl [] env.qual none .none (some env)) (fun cenv s₄ =>
      codeAny (model PR w) A (.compStart (.ListComp elt (⟨target, iter, ifs, 0⟩ :: rest) scope pos) 0 it acc { cenv with scope := relabel scope env }) (RR acc cenv.locals) s₄) E s₃) E s := by
  obtain ⟨m, news, H, hself, h⟩ := h
  refine wpAny_newObj_type (wpAny_newFunctionEnv hcell (by intro y hy; simp at hy) (fun h₁ hns₁ hsb₁ => ?_) hkind) (by size_fits)
  have HD := H.push (lob [] 0) (k := s.toks)
  have hoD := H.off_size
  obtain ⟨nD1, nD2, _⟩ := H.newer (Nat.le_refl s.heap.objs.size)
  generalize hh : s.heap.push (lob [] 0) = h₂ at HD
  dsimp only at hns₁ hsb₁ ⊢
  rw [show s.heap.push { cls := .type "list", dict := none, data := .seq ([] : List Value).toArray } = h₂ from hh] at hns₁ hsb₁
  have keep₁ : ∀ b o, h₂.get? b = some o → h₁.get? b = some o := fun b o e => hsb₁.extBut b o (Nat.ne_of_lt (Heap.lt_size e)) (Heap.get?_push_of_some _ e)
  have keep₀ : ∀ b o, s.heap.get? b = some o → h₁.get? b = some o := fun b o e => keep₁ b o (by rw [← hh]; exact Heap.get?_push_of_some _ e)
  have HE : At s₀ L m ((s.heap.objs.size, lob [] 0) :: news) { s with heap := h₁, toks := s.toks + ([] : List (PySem.Str × Value)).length } := HD.keep keep₁
  obtain ⟨c1, c2, c3⟩ := HD.newer (b := h₂.objs.size) (Nat.le_refl _)
  obtain ⟨oC, hoC, hCns⟩ := ns_obj hns₁
  have HF := HE.cons c1 c2 hoC
  obtain ⟨oL, hLns, HG⟩ := HF.swap hCns c3 (Nat.le_trans H.F.above (Nat.le_trans (Nat.le_of_lt H.F.ns.lt) (by rw [← hh, Heap.size_push]; exact Nat.le_succ _)))
  have HG' : At s₀ h₂.objs.size (fun _ => none) ((s.heap.objs.size, lob [] 0) :: (L, oL) :: news) { s with heap := h₁, toks := s.toks + ([] : List (PySem.Str × Value)).length } := (HG.led fun p hp => by
    rcases List.mem_cons.mp hp with rfl | hp
    · exact .tail _ (.head _)
    · rcases List.mem_cons.mp hp with rfl | hp
      · exact .head _
      · exact .tail _ (.tail _ hp)).map fun _ => rfl
  have loop := h h₂.objs.size s.heap.objs.size oL _ (fun e => c1 e.symm) hLns HG' (fun p hp => by
    rcases List.mem_cons.mp hp with rfl | hp
    · exact fun e => nD1 e.symm
    · exact hoD p hp) keep₀ (Heap.get?_none_of_le (by rw [← hh, Heap.size_push]; exact Nat.le_succ _)) (Heap.get?_none_of_le (Nat.le_refl _))
  have loop' := codeAny_mono loop (R' := RR (.ref s.heap.objs.size) h₂.objs.size) fun r s₄ hr => by
    obtain ⟨rfl, m', news', H', o', hf⟩ := hr
    exact hRR _ _ _ _ _ _ _ (fun e => c1 e.symm) hLns H' o' hf H.F.above
  exact codeAny_compStart_list loop' (hself _ _ _ keep₀ loop')

theorem a_ListComp {elt target iter : Expr} {ifs : List Expr} {rest : List Comprehension} {scope : Scope} {cl : List (PySem.Str × Addr)} {pos : Pos} {Q : Value → Shared → Prop}
    (h : wpAny (model PR w) A (eval iter env) (fun x s₁ => wpAny (model PR w) A (pyIter x) (fun it s₂ =>
      CompIn w A s₀ L env (.ListComp elt (⟨target, iter, ifs, 0⟩ :: rest) scope pos) scope cl (fun D m news => ∀ s', At s₀ L m news s' → Q (.ref D) s') it s₂) E s₁) E s)
    (hclos : closureFor scope env = pure cl := by with_unfolding_all rfl) (hcell : ∀ y ∈ scope.names, y.2 ≠ .cell := by decide) (hkind : scope.kind = .function := by rfl)
    (hnames : ∀ y ∈ scope.names, y.2 = .local → scope.names.lookup y.1 = some .local := by decide) (hs : ∀ x, foldedSetIterable iter env x = pure x := by intro _; rfl) :
    wpAny (model PR w) A (eval (.ListComp elt (⟨target, iter, ifs, 0⟩ :: rest) scope pos) env) Q E s := by
  rw [eval_ListComp]
  refine wpAny_comprehension_free (use := none) rfl hs hclos hkind hnames (wpAny_mono h (fun xv s₁ h₁ => wpAny_mono h₁ (fun it s₂ h₂ => ?_) fun _ _ e => e) fun _ _ e => e)
  refine comp_run (RR := fun acc C => compPost (model PR w) A E none Q acc C) h₂ hcell hkind fun C D oL m m' news' s₄ hLC hL H o hf hab => ?_
  exact ⟨m', H.F.ns, fun h' hs' => hf _ (comp_end H hL o hab hs')⟩

theorem a_AssignComp {elt target iter : Expr} {ifs : List Expr} {rest : List Comprehension} {scope : Scope} {cl : List (PySem.Str × Addr)} {y : PySem.Str} {py pos spos : Pos} {Q : Flow → Shared → Prop}
    (h : wpAny (model PR w) A (eval iter env) (fun x s₁ => wpAny (model PR w) A (pyIter x) (fun it s₂ =>
      CompIn w A s₀ L env (.ListComp elt (⟨target, iter, ifs, 0⟩ :: rest) scope pos) scope cl (fun D m news => ∀ s', At s₀ L (fun z => if z = y then some (.ref D) else m z) news s' → Q .next s') it s₂) E s₁) E s)
    (hL : env.locals = L := by rfl) (hsw : swapsWith (.ListComp elt (⟨target, iter, ifs, 0⟩ :: rest) scope pos) (some (.Name y py)) spos.line env = pure true := by with_unfolding_all rfl)
    (hy : env.kindOf y = some .local := by rfl) (hp : (env.scope.kind == .class || (env.scope.kind == .module && env.locals != env.globals)) = false := by rfl)
    (hclos : closureFor scope env = pure cl := by with_unfolding_all rfl) (hcell : ∀ y ∈ scope.names, y.2 ≠ .cell := by decide) (hkind : scope.kind = .function := by rfl)
    (hnames : ∀ y ∈ scope.names, y.2 = .local → scope.names.lookup y.1 = some .local := by decide) (hs : ∀ x, foldedSetIterable iter env x = pure x := by intro _; rfl) :
    wpAny (model PR w) A (exec (.Assign [.Name y py] (.ListComp elt (⟨target, iter, ifs, 0⟩ :: rest) scope pos) spos) env) Q E s := by
  rw [exec_Assign_Name_used _ _ _ _ hsw]
  refine wpAny_bind (wpAny_standAt (wpAny_bind ?_))
  show wpAny _ A (do let _ ← comprehension (.ListComp elt (⟨target, iter, ifs, 0⟩ :: rest) scope pos) scope env _ (newList []) false (eval iter env) (some (assign (.Name y py) env))) _ _ s
  refine wpAny_bind (wpAny_mono (wpAny_comprehension_free (use := some (assign (.Name y py) env)) (Q := fun _ s' => Q .next s') rfl hs hclos hkind hnames
    (wpAny_mono h (fun xv s₁ h₁ => wpAny_mono h₁ (fun it s₂ h₂ => ?_) fun _ _ e => e) fun _ _ e => e)) (fun _ s' hq => wpAny_pure (wpAny_pure hq)) fun _ _ e => e)
  refine comp_run (RR := fun acc C => compPost (model PR w) A E (some (assign (.Name y py) env)) (fun _ s' => Q .next s') acc C) h₂ hcell hkind fun C D oL m m' news' s₄ hLC hLn H o hf hab => ?_
  show wpAny _ A (assign (.Name y py) env (.ref D)) _ _ _
  subst hL
  have nL := H.N _ (.head _)
  refine wpAny_assign_Name (wpAny_storeName_local hy (hLn _ nL.1) (fun h₂ hn₂ hs₂ => ?_) hp)
  obtain ⟨oL', hoL', hLn'⟩ := ns_obj hn₂
  have H₂ : At s₀ C m' ((env.locals, oL') :: news') { s₄ with heap := h₂, toks := s₄.toks + 1 } := H.step o (fun b x hb e => hs₂.extBut b x (by simpa using hb) e) hoL'
  exact ⟨m', H₂.F.ns, fun h' hs' => hf _ (comp_end H₂ hLn' o hab hs')⟩

theorem compL {elt target iter : Expr} {scope : Scope} {pos : Pos} {it acc : Value} {R : Result → Shared → Prop} (I : Nat → Shared → Prop)
    (turn : ∀ n s, I n s → wpAny (model PR w) A (pyNext it) (fun r s₁ => match r with
      | none => R (.ok .next) s₁
      | some v => wpAny (model PR w) A (letOwnedTupleGo target it v) (fun _ s₁' => wpAny (model PR w) A (assign target env v) (fun _ s₂ => wpAny (model PR w) A (eval elt env) (fun x s₃ =>
          wpAny (model PR w) A (call (.builtin "list.append") [acc, x]) (fun _ s₄ => ∃ m, m < n ∧ I m s₄) NoE s₃) NoE s₂) NoE s₁') NoE s₁) NoE s)
    (n : Nat) (h : I n s) :
    codeAny (model PR w) A (.compLoop (.ListComp elt [⟨target, iter, [], 0⟩] scope pos) 0 it acc env) R s := by
  refine codeAny_loop rfl I (fun n s hI => ?_) n h
  show wpAny _ _ ((compTurn (.ListComp elt [⟨target, iter, [], 0⟩] scope pos) 0 it acc env).onRaise (fun x => do noteFrame x env; theTreesLotGoes x)) _ _ s
  refine wpAny_noted ?_
  rw [compTurn_list1]
  refine wpAny_bind (wpAny_standAt (wpAny_bind (wpAny_mono (turn n s hI) (fun r s₁ h₁ => ?_) fun _ _ h' => h'.elim)))
  cases r with
  | none => exact wpAny_pure h₁
  | some v =>
    refine wpAny_bind (wpAny_mono h₁ (fun _ s₂ h₂ => ?_) fun _ _ h' => h'.elim)
    exact wpAny_bind (wpAny_mono h₂ (fun _ s₂ h₂ => wpAny_bind (wpAny_bind (wpAny_mono h₂ (fun x s₃ h₃ => wpAny_bind (wpAny_mono h₃
      (fun _ s₄ h₄ => wpAny_pure (wpAny_pure ⟨rfl, h₄⟩)) fun _ _ h' => h'.elim)) fun _ _ h' => h'.elim))) fun _ _ h' => h'.elim)
end
end Mine
end

section
open PySem PySem.Spec PySem.Calls PyProof.Rows PySem.W PySem.W.X
open Sem (wp)
namespace Mine
theorem next_genN {w : World} {A : Around} {E : Value → Shared → Prop} {s : Shared} {a : Addr} {g : Nat} {gs : GenState} {c₀ : Code} {t₀ : Sem Fin} {fs₀ : List Frame} {P : End → Shared → Prop} {Q : Value → Shared → Prop} (hh : A.handled = none)
    (hl : s.heap.NoLimit) (hroom : A.depth < recursionLimit) (hg : s.heap.IsGen a g) (hgs : s.gens[g]? = some gs)
    (hgo : (gs = .fresh c₀ ∧ t₀ = denote table c₀ ∧ fs₀ = []) ∨ (∃ k₀ l₀ p₀ cl, gs = .suspended k₀ l₀ c₀ p₀ fs₀ cl ∧ t₀ = k₀ (.send .none)))
    (hx : SegX (model PR w) A.in1 c₀ t₀ fs₀ (s.setGen g .running) P)
    (hP : ∀ e s₁, P e s₁ → match e with
      | .ret r => r = .ok (.ret .none) ∧ ∀ h' x, (∀ b o, s₁.heap.get? b = some o → h'.get? b = some o) → (∃ o, h'.get? x = some o ∧ o.cls = .type "StopIteration") → E (.ref x) { s₁.setGen g .finished with heap := h' }
      | .susp v .. => Q v (s₁.setGen g e.genState)) :
    wpAny (model PR w) A (Builtin.SmallTypes.nextOf (.ref a)) Q E s := by
  unfold Builtin.SmallTypes.nextOf
  refine wpAny_bind (wpAny_callSpecial?_slot (name := Str.ofString "__next__") hg.typeIs slot_gen_next
    (wpAny_call_entry slot_gen_next hg.typeIs entry_gen_next ?_ (args_gen_next _)))
  show wpAny _ _ (Builtin.Generator.genWake (.ref a) (.send .none)) _ _ s
  unfold Builtin.Generator.genWake
  refine wpAny_bind (wpAny_holding (wpAny_genNumber hg (wpAny_bind (wpAny_genState hgs ?_))))
  have room : ∀ (st : GenStatus) (hst : st = .fresh ∨ st = .suspended) (k : Unit → Sem Fin) (Q' : Fin → Shared → Prop) (E' : Value → Shared → Prop), wpAny (model PR w) A.in1 (k ()) Q' E' s →
      wpAny (model PR w) A.in1 (match st with | .fresh | .suspended => roomToWake >>= k | _ => k ()) Q' E' s := by
    rintro st (rfl | rfl) k Q' E' hk
    · exact wpAny_bind (wpAny_roomToWake hl hroom hk)
    · exact wpAny_bind (wpAny_roomToWake hl hroom hk)
  refine room gs.status (by rcases hgo with ⟨rfl, _⟩ | ⟨_, _, _, _, rfl, _⟩ <;> simp [GenState.status]) _ _ _ ?_
  show wpAny _ _ (.resume g (.send .none) [] _) _ _ s
  refine fun Γ p hΓ => wake_any Fin PR w hgs ?_ (fun Γ => Γ.In A.in1) (fun _ h => h) (hx.mono fun e s₁ hp => ?_) Γ p hΓ
  · rcases hgo with ⟨h1, h2, h3⟩ | ⟨k₀, l₀, p₀, cl, h1, h2⟩
    · exact .inl ⟨h1, rfl, h2, h3⟩
    · exact .inr ⟨k₀, l₀, p₀, cl, h1, h2⟩
  · have hq := hP e s₁ hp
    have toAny : ∀ {t : Sem Fin} {Q' : Fin → Shared → Prop} {E' : Value → Shared → Prop} {s' : Shared}, wpAny (model PR w) A.in1 t Q' E' s' → ∀ Γ p, Γ.In A.in1 → Sem.wp (model PR w) Γ t (fun a _ s => Q' a s) (fun e _ s => E' e s) p s' := fun h Γ p hΓ => h Γ p hΓ
    refine toAny ?_
    cases e with
    | ret r =>
      obtain ⟨rfl, hq⟩ := hq
      show wpAny _ _ (newExc (.type "StopIteration") [] >>= _) _ _ _
      refine wpAny_bind ?_
      simp only [newExc, newTuple]
      refine wpAny_bind (wpAny_newObj_type ?_ (by size_fits))
      refine wpAny_bind (m := firstArgMember _ _) (wpAny_of_eq (a := Value.none) (by first | rfl | (simp only [firstArgMember]; rfl)) ?_)
      refine wpAny_newObj_type ?_ (by size_fits)
      simp only [raiseNew]
      refine wpAny_bind (wpAny_bind (wpAny_handled ?_))
      rw [show A.in1.handled = none from hh]
      refine wpAny_throw ?_
      exact hq _ _ (fun b o hb => Heap.get?_push_of_some _ (Heap.get?_push_of_some _ hb)) ⟨_, Heap.get?_push_size _ rfl, rfl⟩
    | susp v gd l k c p fs =>
      exact wpAny_pure ⟨v, rfl, wpAny_pure hq⟩
section
variable {w : World} {A : Around} {E : Value → Shared → Prop} {s s₁ : Shared} {L C a : Addr} {g : Nat} {m mg mb : PySem.Str → Option Value} {led : List (Addr × Obj)} {G : Array GenState} {ga oC : Obj} {mC : PySem.Str → Option Value} {own : List (Addr × Obj)} {gs : GenState}

theorem gn_nextN {I : YSpec} {rest : List YSpec} {Q : Value → Shared → Prop} (O : Ok w mg mb s.heap) (X : Gn w A.in1 s L m C a g (I :: rest) led G s₁ ga oC mC own gs) (hh : A.handled = none) (hd : A.depth < recursionLimit)
    (hQ : ∀ v ex G' s₂ oC' mC' own' gs', I v ex → Gn w A.in1 s L m C a g rest led G' s₂ ga oC' mC' own' gs' → (∀ p ∈ ex, s₂.heap.get? p.1 = some p.2) → Q v s₂) :
    wpAny (model PR w) A (Builtin.SmallTypes.nextOf (.ref a)) Q E s₁ := by
  obtain ⟨H, hisG, hns, hgen, hnew, hext, hbare, ⟨c₀, t₀, fs₀, hres, hprom⟩, haC, hoA, hoC, hap, habove, hoL⟩ := X
  have n1 := H.N _ (.head _)
  have n2 := H.N _ (.tail _ (.head _))
  obtain ⟨oL, hoLget, hLns⟩ := ns_obj H.F.ns
  have hg₁ : s₁.gens[g]? = some gs := H.R.gens g gs hgen
  have hLC : L ≠ C := fun e => n2.2.1 e.symm
  have hLa : L ≠ a := fun e => n1.2.1 e.symm
  have hLnone : s.heap.get? L = none := Heap.get?_none_of_le H.F.above
  -- the generator's own view
  have HG : At (mkG s (s₁.setGen g .running).gens) C mC (own ++ ((L, oL) :: (a, ga) :: led)) (s₁.setGen g .running) := by
    refine ⟨⟨hns _ n2.1, H.F.keep, habove⟩, fun p hp => ?_, ⟨H.F.keep, fun _ _ e => e, fun e => e, H.R.os⟩⟩
    rcases List.mem_append.mp hp with hp | hp
    · have np := H.N p (.tail _ (.tail _ (List.mem_append_left _ hp)))
      exact ⟨np.1, hoC p (List.mem_append_left _ hp), np.2.2⟩
    · rcases List.mem_cons.mp hp with rfl | hp
      · exact ⟨hoLget, hLC, hLnone⟩
      · rcases List.mem_cons.mp hp with rfl | hp
        · exact ⟨n1.1, haC, n1.2.2⟩
        · have np := H.N p (.tail _ (.tail _ (List.mem_append_right _ hp)))
          exact ⟨np.1, hoC p (List.mem_append_right _ hp), np.2.2⟩
  have hap' : Apart own ((L, oL) :: (a, ga) :: led) := fun p hp q hq => by
    rcases List.mem_cons.mp hq with rfl | hq
    · exact hoL p hp
    · rcases List.mem_cons.mp hq with rfl | hq
      · exact hoA p (List.mem_append_left _ hp)
      · exact hap p hp q hq
  refine next_genN hh (O.keeps H.F.keep).lim hd (hisG _ n1.1) hg₁ hres (hprom _ _ _ HG hap') fun e s₂ hp => ?_
  obtain ⟨v, gd, l, k, c, p, fs, m', own', ex, rfl, hbr, hI, H₂, hap₂, hnext⟩ := hp
  have hrun : s₂.gens[g]? = some .running := H₂.R.gens g _ (setGen_self hg₁)
  obtain ⟨oC', hoC', hns'⟩ := ns_obj H₂.F.ns
  have mL : (L, oL) ∈ ex ++ (own' ++ ((L, oL) :: (a, ga) :: led)) := List.mem_append_right _ (List.mem_append_right _ (.head _))
  have ma : (a, ga) ∈ ex ++ (own' ++ ((L, oL) :: (a, ga) :: led)) := List.mem_append_right _ (List.mem_append_right _ (.tail _ (.head _)))
  have ml : ∀ p ∈ led, p ∈ ex ++ (own' ++ ((L, oL) :: (a, ga) :: led)) := fun p hp => List.mem_append_right _ (List.mem_append_right _ (.tail _ (.tail _ hp)))
  have mo : ∀ p ∈ own', p ∈ ex ++ (own' ++ ((L, oL) :: (a, ga) :: led)) := fun p hp => List.mem_append_right _ (List.mem_append_left _ hp)
  have hoL' : ∀ p ∈ own', p.1 ≠ L := fun p hp => hap₂ p hp _ (.head _)
  refine hQ v ex (s₂.setGen g _).gens _ oC' m' own' _ hI ⟨⟨⟨hLns _ (H₂.N _ mL).1, H₂.F.keep, H.F.above⟩, fun p hp => ?_, ⟨H₂.F.keep, fun _ _ e => e, fun e => e, H₂.R.os⟩⟩, hisG, hns', setGen_self hrun, hnew, fun i x hi => ?_, fun hb => ?_,
    ⟨c, _, fs, .inr ⟨k, l, p, _, rfl, rfl⟩, hnext⟩, haC, fun p hp => ?_, fun p hp => (H₂.N p ?_).2.1, fun p hp q hq => hap₂ p hp q (.tail _ (.tail _ hq)), habove, hoL'⟩ fun p hp => (H₂.N p (List.mem_append_left _ hp)).1
  · rcases List.mem_cons.mp hp with rfl | hp
    · exact ⟨(H₂.N _ ma).1, n1.2⟩
    · rcases List.mem_cons.mp hp with rfl | hp
      · exact ⟨hoC', n2.2⟩
      · rcases List.mem_append.mp hp with hp | hp
        · exact ⟨(H₂.N p (mo p hp)).1, hoL' p hp, (H₂.N p (mo p hp)).2.2⟩
        · exact ⟨(H₂.N p (ml p hp)).1, (H.N p (.tail _ (.tail _ (List.mem_append_right _ hp)))).2.1, (H₂.N p (ml p hp)).2.2⟩
  · have hig : i ≠ g := by
      rintro rfl
      rw [Array.getElem?_eq_none hnew] at hi
      cases hi
    rw [setGen_other hig]
    refine H₂.R.gens i x ?_
    show (s₁.setGen g .running).gens[i]? = some x
    rw [setGen_other hig]
    exact H.R.gens i x (hext i x hi)
  · exact AllBare.setGen (H₂.R.bare (AllBare.setGen (H.R.bare (hbare hb)) rfl)) hbr
  · rcases List.mem_append.mp hp with hp | hp
    · exact hap₂ p hp _ (.tail _ (.head _))
    · exact hoA p (List.mem_append_right _ hp)
  · rcases List.mem_append.mp hp with hp | hp
    · exact mo p hp
    · exact ml p hp

theorem gn_doneN {Q : Value → Shared → Prop} (O : Ok w mg mb s.heap) (X : Gn w A.in1 s L m C a g [] led G s₁ ga oC mC own gs) (hh : A.handled = none) (hd : A.depth < recursionLimit)
    (hQ : ∀ x s₂, At s L m led s₂ → (∃ o, s₂.heap.get? x = some o ∧ o.cls = .type "StopIteration") → E (.ref x) s₂) : wpAny (model PR w) A (Builtin.SmallTypes.nextOf (.ref a)) Q E s₁ := by
  obtain ⟨H, hisG, hns, hgen, hnew, hext, hbare, ⟨c₀, t₀, fs₀, hres, hprom⟩, haC, hoA, hoC, hap, habove, hoL⟩ := X
  have n1 := H.N _ (.head _)
  have n2 := H.N _ (.tail _ (.head _))
  obtain ⟨oL, hoLget, hLns⟩ := ns_obj H.F.ns
  have hg₁ : s₁.gens[g]? = some gs := H.R.gens g gs hgen
  have hLC : L ≠ C := fun e => n2.2.1 e.symm
  have hLnone : s.heap.get? L = none := Heap.get?_none_of_le H.F.above
  have HG : At (mkG s (s₁.setGen g .running).gens) C mC (own ++ ((L, oL) :: (a, ga) :: led)) (s₁.setGen g .running) := by
    refine ⟨⟨hns _ n2.1, H.F.keep, habove⟩, fun p hp => ?_, ⟨H.F.keep, fun _ _ e => e, fun e => e, H.R.os⟩⟩
    rcases List.mem_append.mp hp with hp | hp
    · have np := H.N p (.tail _ (.tail _ (List.mem_append_left _ hp)))
      exact ⟨np.1, hoC p (List.mem_append_left _ hp), np.2.2⟩
    · rcases List.mem_cons.mp hp with rfl | hp
      · exact ⟨hoLget, hLC, hLnone⟩
      · rcases List.mem_cons.mp hp with rfl | hp
        · exact ⟨n1.1, haC, n1.2.2⟩
        · have np := H.N p (.tail _ (.tail _ (List.mem_append_right _ hp)))
          exact ⟨np.1, hoC p (List.mem_append_right _ hp), np.2.2⟩
  have hap' : Apart own ((L, oL) :: (a, ga) :: led) := fun p hp q hq => by
    rcases List.mem_cons.mp hq with rfl | hq
    · exact hoL p hp
    · rcases List.mem_cons.mp hq with rfl | hq
      · exact hoA p (List.mem_append_left _ hp)
      · exact hap p hp q hq
  refine next_genN hh (O.keeps H.F.keep).lim hd (hisG _ n1.1) hg₁ hres (hprom _ _ _ HG hap') fun e s₂ hp => ?_
  obtain ⟨rfl, m', H₂⟩ := hp
  refine ⟨rfl, fun h' xx hk hx => hQ xx _ ⟨⟨hLns _ (hk _ _ (H₂.N _ (.head _)).1), fun b o e => hk _ _ (H₂.F.keep b o e), H.F.above⟩, fun p hp => ?_, ⟨fun b o e => hk _ _ (H₂.F.keep b o e), fun i x hi => ?_, fun hb => ?_, H₂.R.os⟩⟩ hx⟩
  · have np := H₂.N p (.tail _ (.tail _ hp))
    exact ⟨hk _ _ np.1, (H.N p (.tail _ (.tail _ (List.mem_append_right _ hp)))).2.1, np.2.2⟩
  · have hig : i ≠ g := by
      rintro rfl
      rw [Array.getElem?_eq_none hnew] at hi
      cases hi
    show (s₂.setGen g .finished).gens[i]? = some x
    rw [setGen_other hig]
    refine H₂.R.gens i x ?_
    show (s₁.setGen g .running).gens[i]? = some x
    rw [setGen_other hig]
    exact H.R.gens i x (hext i x hi)
  · exact AllBare.setGen (H₂.R.bare (AllBare.setGen (H.R.bare (hbare hb)) rfl)) rfl
end


end Mine
end

section
open PySem PySem.Spec PySem.Calls PyProof.Rows PySem.W PySem.W.X
open Sem (wp)
namespace Mine

set_option maxHeartbeats 1000000 in
theorem meets_enumG (a : Addr) (g : Nat) :
    Meets (Builtin.«enumerate.__new__» ⟨[.type "enumerate", .ref a], []⟩) (fun _ R s => s.heap.IsGen a g ∧
      R (.ok (.ret (.ref s.heap.objs.size))) { s with heap := s.heap.push { cls := .type "enumerate", data := .fields #[.none, .bool false, .ref a, rawInt 0, .none, .none] } }) :=
  .of_wp fun prog w A R s h => by
    obtain ⟨hp, gg, d, tk, os⟩ := s; obtain ⟨hg, h⟩ := h
    have hsub := sub_enumerate
    have hG : Heap.IsGen (Shared.heap ⟨hp, gg, d, tk, os⟩) a g := hg
    wp_walk using wpAny_pyIter_gen hG
    refine wpAny_stack_any fun st => wpAny_pure ?_
    split
    · rename_i c _ _ _ _ _
      cases (c == Value.type "enumerate")
      · wp_walk using wpAny_pyIter_gen hG
        exact ⟨_, rfl, h⟩
      · wp_walk using wpAny_pyIter_gen hG
        exact ⟨_, rfl, h⟩
    · wp_walk using wpAny_pyIter_gen hG
      exact ⟨_, rfl, h⟩

section
variable {w : World} {A : Around} {E : Value → Shared → Prop} {s : Shared}

theorem call_enumG {a : Addr} {g : Nat} {Q : Value → Shared → Prop} (hg : s.heap.IsGen a g)
    (h : Q (.ref s.heap.objs.size) { s with heap := s.heap.push { cls := .type "enumerate", data := .fields #[.none, .bool false, .ref a, rawInt 0, .none, .none] } }) :
    wpAny (model PR w) A (call (.type "enumerate") [.ref a]) Q E s := by
  refine callType_new F.called_enumerate (by decide) (F.typeCall_enumerate_1 _) (F.newCall_enumerate_1 _) (fun obj => F.args_object_init_2 obj _) F.entry_enumerate_new
    (meets_enumG a g) ⟨hg, ?_⟩
  exact ⟨⟨_, Heap.get?_push_size _ rfl, rfl⟩, h⟩

/-- enumerate's next, whatever its inner iterator does -/
theorem enum_next {e it : Addr} {i : Nat} {old : Value} {Q : Value → Shared → Prop} (he : IsEnum s.heap e it i old)
    (hin : wpAny (model PR w) A (Builtin.SmallTypes.nextOf (.ref it)) (fun x s₁ => IsEnum s₁.heap e it i old ∧ ∀ h' tk, IsEnumOut h' e it ((i : Int) + 1) x s₁.heap.objs.size →
      h'.get? s₁.heap.objs.size = some { cls := .type "tuple", data := .seq #[.int i tk, x] } → (∀ b o, b ≠ e → s₁.heap.get? b = some o → h'.get? b = some o) → Q (.ref s₁.heap.objs.size) { s₁ with heap := h', toks := tk + 1 }) E s) :
    wpAny (model PR w) A (Builtin.«enumerate.__next__» ⟨[.ref e], []⟩) (fun fin s' => ∃ v, fin = .done (.ret v) ∧ Q v s') E s := by
  show wpAny _ _ (field (.ref e) 2 >>= _) _ _ _
  refine wpAny_bind (wpAny_field he rfl (x := .ref it) rfl ?_)
  refine wpAny_bind (wpAny_mono hin (fun x s₁ hx => ?_) fun _ _ q => q)
  obtain ⟨he₁, hQ⟩ := hx
  obtain ⟨h₁, g, d, tk, os⟩ := s₁
  replace he₁ : IsEnum h₁ e it i old := he₁
  have hel : e < h₁.objs.size := Heap.lt_size he₁
  show wpAny _ _ (field (.ref e) 3 >>= _) _ _ ⟨h₁, g, d, tk, os⟩
  refine wpAny_bind (wpAny_field he₁ rfl (x := rawInt i) rfl ?_)
  show wpAny _ _ (field (.ref e) 4 >>= _) _ _ ⟨h₁, g, d, tk, os⟩
  refine wpAny_bind (wpAny_field he₁ rfl (x := .none) rfl ?_)
  show wpAny _ _ (mkInt i >>= _) _ _ ⟨h₁, g, d, tk, os⟩
  refine wpAny_bind (wpAny_mkInt ?_)
  show wpAny _ _ (setField (.ref e) 3 (rawInt ((i : Int) + 1)) >>= _) _ _ ⟨h₁, g, d, tk + 1, os⟩
  refine wpAny_bind (wpAny_setField_rec he₁ (by simp) fun h₂ he₂ hs₂ => ?_)
  replace hs₂ : Heap.SameBut e h₁ h₂ := hs₂
  replace he₂ : IsEnum h₂ e it ((i : Int) + 1) old := he₂
  show wpAny _ _ (setField (.ref e) 4 .none >>= _) _ _ ⟨h₂, g, d, tk + 1, os⟩
  refine wpAny_bind (wpAny_setField_rec he₂ (by simp) fun h₃ he₃ hs₃ => ?_)
  replace hs₃ : Heap.SameBut e h₂ h₃ := hs₃
  replace he₃ : IsEnum h₃ e it ((i : Int) + 1) old := he₃
  show wpAny _ _ (newTuple [.int i tk, x] >>= _) _ _ ⟨h₃, g, d, tk + 1, os⟩
  refine wpAny_bind (wpAny_newTuple ?_)
  have hsz : h₃.objs.size = h₁.objs.size := hs₃.1.trans hs₂.1
  have he₄ : IsEnum (h₃.push { cls := .type "tuple", data := .seq #[.int i tk, x] }) e it ((i : Int) + 1) old := Heap.get?_push_of_some _ he₃
  have ht₄ := Heap.get?_push_size h₃ (o := { cls := .type "tuple", data := .seq #[.int i tk, x] }) rfl
  have hk₄ : ∀ b o, b ≠ e → h₁.get? b = some o → (h₃.push { cls := .type "tuple", data := .seq #[.int i tk, x] }).get? b = some o := fun b o hbe hb =>
    Heap.get?_push_of_some _ (hs₃.extBut b o hbe (hs₂.extBut b o hbe hb))
  generalize h₃.push { cls := .type "tuple", data := .seq #[.int i tk, x] } = h₄ at he₄ ht₄ hk₄ ⊢
  show wpAny _ _ (Builtin.SmallTypes.ownedTupleIsFree (.ref e) >>= _) _ _ ⟨h₄, g, d, tk + 1, os⟩
  rw [hsz] at ht₄ ⊢
  have hne : h₁.objs.size ≠ e := Nat.ne_of_gt hel
  clear he₃ hs₃ he₂ hs₂ hsz h₃ h₂
  refine wpAny_bind ?_
  · unfold Builtin.SmallTypes.ownedTupleIsFree
    refine wpAny_bind (wpAny_field he₄ rfl (x := .none) rfl (wpAny_pure ?_))
    simp only [if_true]
    refine wpAny_bind (wpAny_rule ?_)
    refine wpAny_bind (wpAny_field he₄ rfl (x := old) rfl ?_)
    refine wpAny_bind (wpAny_setField_rec he₄ (by simp) fun h₅ he₅ hs₅ => ?_)
    replace hs₅ : Heap.SameBut e h₄ h₅ := hs₅
    replace he₅ : IsEnum h₅ e it ((i : Int) + 1) x := he₅
    show wpAny _ _ (Builtin.SmallTypes.ownedTupleHandOut (.ref e) (.ref h₁.objs.size) >>= _) _ _ ⟨h₅, g, d, tk + 1, os⟩
    refine wpAny_bind ?_
    · unfold Builtin.SmallTypes.ownedTupleHandOut
      refine wpAny_bind (wpAny_setField_rec he₅ (by simp) fun h₆ he₆ hs₆ => ?_)
      replace hs₆ : Heap.SameBut e h₅ h₆ := hs₆
      replace he₆ : IsEnumOut h₆ e it ((i : Int) + 1) x h₁.objs.size := he₆
      refine wpAny_setField_rec he₆ (by simp) fun h₇ he₇ hs₇ => ?_
      replace hs₇ : Heap.SameBut e h₆ h₇ := hs₇
      replace he₇ : IsEnumOut h₇ e it ((i : Int) + 1) x h₁.objs.size := he₇
      have k₇ : ∀ b o, b ≠ e → h₄.get? b = some o → h₇.get? b = some o := fun b o hb q => hs₇.extBut _ _ hb (hs₆.extBut _ _ hb (hs₅.extBut _ _ hb q))
      exact wpAny_bind (wpAny_letGo (wpAny_pure ⟨_, rfl, hQ h₇ tk he₇ (k₇ _ _ hne ht₄) fun b o hb q => k₇ b o hb (hk₄ b o hb q)⟩))

theorem enum_pyNext {e it : Addr} {i : Nat} {old : Value} {Q : Option Value → Shared → Prop} (he : IsEnum s.heap e it i old)
    (hin : wpAny (model PR w) A.in1 (Builtin.SmallTypes.nextOf (.ref it)) (fun x s₁ => IsEnum s₁.heap e it i old ∧ ∀ h' tk, IsEnumOut h' e it ((i : Int) + 1) x s₁.heap.objs.size →
      h'.get? s₁.heap.objs.size = some { cls := .type "tuple", data := .seq #[.int i tk, x] } → (∀ b o, b ≠ e → s₁.heap.get? b = some o → h'.get? b = some o) → Q (some (.ref s₁.heap.objs.size)) { s₁ with heap := h', toks := tk + 1 })
      (fun x s₁ => ∃ a, x = .ref a ∧ (∃ o, s₁.heap.get? a = some o ∧ o.cls = .type "StopIteration") ∧ Q none s₁) s) :
    wpAny (model PR w) A (pyNext (.ref e)) Q E s := by
  have hT : s.TypeIs (.ref e) "enumerate" := ⟨_, he, rfl⟩
  unfold pyNext
  refine wpAny_bind (wpAny_attempt (wpAny_callSpecial?_slot (name := Str.ofString "__next__") hT F.slot_enumerate_next
    (wpAny_call_entry F.slot_enumerate_next hT F.entry_enumerate_next
      (wpAny_mono (enum_next (Q := fun v s' => Q (some v) s') he hin) (fun fin s₁ h => ?_) fun x s₁ h => ?_) (F.args_enumerate_next_1 _))))
  · obtain ⟨v, rfl, h⟩ := h
    exact ⟨v, rfl, wpAny_pure h⟩
  · obtain ⟨a, rfl, ⟨o, ho, hc⟩, h⟩ := h
    exact wpAny_bind (wpAny_isInstance (T := "StopIteration") (b := true) ⟨o, ho, hc⟩ isSubtype_stop (wpAny_pure h))
end

section
variable {w : World} {A : Around} {E : Value → Shared → Prop} {s s₁ : Shared} {L C a : Addr} {g : Nat} {m mg mb : PySem.Str → Option Value} {led : List (Addr × Obj)} {G : Array GenState} {ga oC : Obj} {mC : PySem.Str → Option Value} {own : List (Addr × Obj)} {gs : GenState} {items : List YSpec} {env : Env}

theorem Gn.relead {A' : Around} {m' : PySem.Str → Option Value} {s' : Shared} {led' : List (Addr × Obj)} (X : Gn w A' s L m C a g items led G s₁ ga oC mC own gs) (H : At (mkG s G) L m' ((a, ga) :: (C, oC) :: (own ++ led')) s')
    (ho : ∀ q ∈ led', (∃ o, (q.1, o) ∈ led) ∨ (q.1 ≠ a ∧ q.1 ≠ C ∧ ∀ p ∈ own, p.1 ≠ q.1)) : Gn w A' s L m' C a g items led' G s' ga oC mC own gs := by
  refine ⟨H, X.isGen, X.ns, X.gen, X.new, X.ext, X.bare, X.ready, X.aC, fun p hp => ?_, fun p hp => ?_, fun p hp q hq => ?_, X.above, X.ownL⟩
  · rcases List.mem_append.mp hp with hp | hp
    · exact X.offA p (List.mem_append_left _ hp)
    · rcases ho p hp with ⟨o, ho⟩ | h
      · exact X.offA (p.1, o) (List.mem_append_right _ ho)
      · exact h.1
  · rcases List.mem_append.mp hp with hp | hp
    · exact X.offC p (List.mem_append_left _ hp)
    · rcases ho p hp with ⟨o, ho⟩ | h
      · exact X.offC (p.1, o) (List.mem_append_right _ ho)
      · exact h.2.1
  · rcases ho q hq with ⟨o, ho⟩ | h
    · exact X.apart p hp (q.1, o) ho
    · exact h.2.2 p hp

/-- a turn of a for over enumerate(generator) -/
theorem a_genEnumTurn {I : YSpec} {e : Addr} {oe : Obj} {j : Nat} {old : Value} {xi xc : PySem.Str} {pk pv pt : Pos} {x1 : Nat} {N : Shared → Prop} {Q : Shared → Prop} (O : Ok w mg mb s.heap)
    (X : Gn w A.in1.in1 s L m C a g (I :: items) ((e, oe) :: led) G s₁ ga oC mC own gs) (hh : A.handled = none) (hd : A.depth < recursionLimit) (he : IsEnum s₁.heap e a j old) (hoff : Off e led)
    (h : ∀ k v ex oe' old' G' oC' mC' own' gs' s', I v ex → Gn w A.in1.in1 s L (upd (upd m xi (.int (j : Int) k)) xc v) C a g items ((e, oe') :: led) G' s' ga oC' mC' own' gs' → IsEnum s'.heap e a ((j + 1 : Nat) : Int) old' → Q s')
    (hL : env.locals = L := by rfl) (hi : env.kindOf xi = some .local := by rfl) (hcl : env.kindOf xc = some .local := by rfl) (hp : (env.scope.kind == .class || (env.scope.kind == .module && env.locals != env.globals)) = false := by rfl) :
    wpAny (model PR w) A (pyNext (.ref e)) (fun r s₁ => match r with
      | none => N s₁
      | some v => wpAny (model PR w) A (letOwnedTupleGo (.Tuple [.Name xi pk, .Name xc pv] x1 pt) (.ref e) v) (fun _ s₂ => wpAny (model PR w) A (assign (.Tuple [.Name xi pk, .Name xc pv] x1 pt) env v) (fun _ s₃ => Q s₃) E s₂) E s₁) E s₁ := by
  have hoe : s₁.heap.get? e = some oe := (X.at'.N _ (.tail _ (.tail _ (List.mem_append_right _ (.head _))))).1
  have hoeq : oe = _ := Option.some.inj (hoe.symm.trans he)
  refine enum_pyNext he (gn_nextN (A := A.in1) O X hh hd fun v ex G' s₂ oC' mC' own' gs' hI X' hex => ?_)
  have me : (e, oe) ∈ (a, ga) :: (C, oC') :: (own' ++ ((e, oe) :: led)) := .tail _ (.tail _ (List.mem_append_right _ (.head _)))
  have he₂ : IsEnum s₂.heap e a j old := (X'.at'.N _ me).1.trans (congrArg some hoeq)
  refine ⟨he₂, fun h' tk ho hT hk => ?_⟩
  have hea : a ≠ e := fun q => X'.offA _ (List.mem_append_right _ (.head _)) q.symm
  have heC : C ≠ e := fun q => X'.offC _ (List.mem_append_right _ (.head _)) q.symm
  have heo : ∀ p ∈ own', p.1 ≠ e := fun p hp => X'.apart p hp _ (.head _)
  have H₂ : At (mkG s G') L m ((e, oe) :: (a, ga) :: (C, oC') :: (own' ++ led)) s₂ := X'.at'.led fun p hp => by
    rcases List.mem_cons.mp hp with rfl | hp
    · exact me
    · rcases List.mem_cons.mp hp with rfl | hp
      · exact .head _
      · rcases List.mem_cons.mp hp with rfl | hp
        · exact .tail _ (.head _)
        · rcases List.mem_append.mp hp with hp | hp
          · exact .tail _ (.tail _ (List.mem_append_left _ hp))
          · exact .tail _ (.tail _ (List.mem_append_right _ (.tail _ hp)))
  have offe : Off e ((a, ga) :: (C, oC') :: (own' ++ led)) := fun p hp => by
    rcases List.mem_cons.mp hp with rfl | hp
    · exact hea
    · rcases List.mem_cons.mp hp with rfl | hp
      · exact heC
      · rcases List.mem_append.mp hp with hp | hp
        · exact heo p hp
        · exact hoff p hp
  have H₃ := H₂.step (h := h') (k := tk + 1) offe (fun b x hb q => hk b x (by simpa using hb) q) ho
  have hTs : s₂.heap.objs.size ≠ e := Nat.ne_of_gt (Heap.lt_size he₂)
  refine wpAny_letOwnedTupleGo_enum ho fun h₂ he₃ hs₂ => ?_
  have e2 : ((j + 1 : Nat) : Int) = (j : Int) + 1 := by omega
  obtain ⟨oe', hoe', hoen⟩ : ∃ oe', h₂.get? e = some oe' ∧ ∀ h : Heap, h.get? e = some oe' → IsEnum h e a ((j + 1 : Nat) : Int) v := ⟨_, he₃, fun h q => by rw [e2]; exact q⟩
  have H₄ := H₃.step (h := h₂) (k := tk + 1) offe (fun b x hb y => (hs₂.2 b (by simpa using hb)).trans y) hoe'
  have hT₂ : h₂.IsTuple s₂.heap.objs.size #[.int j tk, v] := ⟨_, (hs₂.2 _ hTs).trans hT, rfl, _, rfl⟩
  refine v_assign2 H₄ hh hT₂ (fun s' H' => ?_) hL hi hcl hp
  refine h tk v ex oe' v G' oC' mC' own' gs' s' hI (X'.relead (led' := (e, oe') :: led) (H'.led fun p hp => ?_) fun q hq => ?_) ?_
  · rcases List.mem_cons.mp hp with rfl | hp
    · exact .tail _ (.head _)
    · rcases List.mem_cons.mp hp with rfl | hp
      · exact .tail _ (.tail _ (.head _))
      · rcases List.mem_append.mp hp with hp | hp
        · exact .tail _ (.tail _ (.tail _ (List.mem_append_left _ hp)))
        · rcases List.mem_cons.mp hp with rfl | hp
          · exact .head _
          · exact .tail _ (.tail _ (.tail _ (List.mem_append_right _ hp)))
  · rcases List.mem_cons.mp hq with rfl | hq
    · exact .inl ⟨oe, .head _⟩
    · exact .inl ⟨_, .tail _ hq⟩
  · exact hoen _ (H'.N _ (.head _)).1

theorem a_genEnumEnd {e : Addr} {oe : Obj} {i : Nat} {old : Value} {Q : Option Value → Shared → Prop} (O : Ok w mg mb s.heap)
    (X : Gn w A.in1.in1 s L m C a g [] ((e, oe) :: led) G s₁ ga oC mC own gs) (hh : A.handled = none) (hd : A.depth < recursionLimit) (he : IsEnum s₁.heap e a i old)
    (h : ∀ s', At s L m ((e, oe) :: led) s' → Q none s') : wpAny (model PR w) A (pyNext (.ref e)) Q E s₁ :=
  enum_pyNext he (gn_doneN (A := A.in1) O X hh hd fun x s₂ H₂ hx => ⟨x, rfl, hx, h _ H₂⟩)
end
end Mine
end

section
open PySem PySem.Spec PySem.Calls PyProof.Rows PySem.W PySem.W.X
open Sem (wp)
namespace Mine
local macro_rules | `(tactic| walk_at "m.look") => `(tactic| first | assumption | exact if_pos rfl | (refine (if_neg (by decide)).trans ?_; walk_at "m.look") | rfl)

def ispec (n : Int) : YSpec := fun v ex => (∃ t, v = .int n t) ∧ ex = []

theorem gn_newO {w : World} {A' : Around} {s s₁ : Shared} {L : Addr} {m mC : PySem.Str → Option Value} {own led : List (Addr × Obj)} {items : List YSpec} {h' : Heap} {ga fo : Obj} {gs : GenState} {k : Nat}
    (H : At s L m (own ++ led) s₁) (hap : Apart own led) (hns : h'.Ns s₁.heap.objs.size mC) (hsb : Heap.SameBut s₁.heap.objs.size (s₁.heap.push fo) h') (hga : ga.isFreed = false)
    (hg : ∀ h : Heap, h.get? h'.objs.size = some ga → h.IsGen h'.objs.size s₁.gens.size) (hb : gs.bare = true) (hr : Ready w A' s s₁.heap.objs.size items gs mC own) :
    ∃ oC, Gn w A' s L m s₁.heap.objs.size h'.objs.size s₁.gens.size items led (s₁.gens.push gs) { s₁ with gens := s₁.gens.push gs, toks := k, heap := h'.push ga } ga oC mC own gs := by
  have hsz : h'.objs.size = s₁.heap.objs.size + 1 := by rw [hsb.1, Heap.size_push]
  have keep : ∀ b o, s₁.heap.get? b = some o → h'.get? b = some o := fun b o e => hsb.extBut b o (Nat.ne_of_lt (Heap.lt_size e)) (Heap.get?_push_of_some _ e)
  obtain ⟨oC, hoC, hns'⟩ := ns_obj hns
  obtain ⟨c1, c2, c3⟩ := H.newer (Nat.le_refl s₁.heap.objs.size)
  obtain ⟨a1, a2, a3⟩ := H.newer (b := h'.objs.size) (by rw [hsz]; exact Nat.le_succ _)
  have keep2 : ∀ (o : Obj) b x, s₁.heap.get? b = some x → (h'.push o).get? b = some x := fun o b x e => Heap.get?_push_of_some _ (keep b x e)
  refine ⟨oC, ⟨⟨⟨H.F.ns.keeps (keep2 _), fun b o e => keep2 _ b o (H.F.keep b o e), H.F.above⟩, fun p hp => ?_, ⟨fun b o e => keep2 _ b o (H.F.keep b o e), fun _ _ e => e, fun e => e, H.R.os⟩⟩,
    hg, hns', Array.getElem?_push_size .., ret_size H.R, fun i x hi => ?_, fun hx => (H.R.bare hx).push hb, hr, by rw [hsz]; exact Nat.succ_ne_self _, fun p hp => a3 p hp, fun p hp => c3 p hp, hap, Nat.le_trans H.F.above (Nat.le_of_lt H.F.ns.lt), fun p hp => (H.N p (List.mem_append_left _ hp)).2.1⟩⟩
  · rcases List.mem_cons.mp hp with rfl | hp
    · exact ⟨Heap.get?_push_size _ hga, a1, a2⟩
    · rcases List.mem_cons.mp hp with rfl | hp
      · exact ⟨Heap.get?_push_of_some _ hoC, c1, c2⟩
      · exact ⟨keep2 _ _ _ (H.N p hp).1, (H.N p hp).2⟩
  · have := H.R.gens i x hi
    show (s₁.gens.push _)[i]? = some x
    have hlt : i < s₁.gens.size := by
      rcases Nat.lt_or_ge i s₁.gens.size with h | h
      · exact h
      · rw [Array.getElem?_eq_none h] at this; cases this
    rw [Array.getElem?_push_lt hlt]
    rw [Array.getElem?_eq_getElem hlt] at this
    exact this

theorem cd_group {w : World} {mg mb : PySem.Str → Option Value} {h : Heap} (O : Ok w mg mb h) : h.CodeRec (.ref 20) "_grouping_intervals" := ⟨20, _, _, _, rfl, O.K 20 _ rfl, rfl, rfl⟩

/-- one step of a list's iterator -/
theorem listTurn {w : World} {A : Around} {E : Value → Shared → Prop} {s₀ s : Shared} {L I l : Addr} {m : PySem.Str → Option Value} {news : List (Addr × Obj)} {vs : List Value} {k j : Nat} {oi : Obj} {v : Value} {Q : Option Value → Shared → Prop}
    (H : At s₀ L m ((I, oi) :: (l, lob vs k) :: news) s) (hh : A.handled = none) (hi : s.heap.IsListIter I l j) (hne : l ≠ I) (hoff : Off I news) (hv : vs[j]? = some v)
    (h : ∀ oi' s', At s₀ L m ((I, oi') :: (l, lob vs k) :: news) s' → (∀ h : Heap, h.get? I = some oi' → h.IsListIter I l (j + 1)) → Q (some v) s') :
    wpAny (model PR w) A (pyNext (.ref I)) Q E s := by
  have W := Walks.list (prog := PR) (w := w) hh I l hne vs.toArray
  have hL : s.heap.IsList l vs.toArray := ⟨_, (H.N _ (.tail _ (.head _))).1, rfl, k, rfl⟩
  have hlt : j < vs.length := by
    rcases Nat.lt_or_ge j vs.length with h' | h'
    · exact h'
    · rw [List.getElem?_eq_none h'] at hv; cases hv
  refine W.item j s _ _ (by simpa using hlt) ⟨hi, hL⟩ fun v' h' tk hP hst hk => ?_
  have : v' = v := by
    have hP' : vs[j]? = some v' := by simpa using hP
    rw [hv] at hP'; exact (Option.some.inj hP').symm
  subst this
  obtain ⟨⟨oi', hoi', r⟩, _⟩ := hst
  exact h oi' _ (H.step (h := h') (k := tk) (fun p hp => by
    rcases List.mem_cons.mp hp with rfl | hp
    · exact hne
    · exact hoff p hp) hk hoi') fun h q => ⟨oi', q, r⟩

theorem call_group {w : World} {mg mb : PySem.Str → Option Value} {A A' : Around} {R : Result → Shared → Prop} {s s₁ : Shared} {L l : Addr} {m : PySem.Str → Option Value} {led : List (Addr × Obj)} {ns : List Int} {vs : List Value} {k : Nat}
    (O : Ok w mg mb s.heap) (H : At s L m ((l, lob vs k) :: led) s₁) (hroom : A.depth < recursionLimit) (hh : A'.handled = none) (hi : IntsAre vs (ns ++ [127])) (h0 : 0 ∉ ns) (h127 : 127 ∉ ns) (hoff : Off l led)
    (h : ∀ a C g G s₂ ga oC mC gs, Gn w A' s L m C a g (ns.map ispec) led G s₂ ga oC mC [(l, lob vs k)] gs → R (.ok (.ret (.ref a))) s₂) :
    codeAny (model PR w) A (.call (.ref 21) ⟨[.ref l], []⟩) R s₁ := by
  have O₁ := O.keeps H.F.keep
  refine codeAny_call_generator (a := 21) hroom (O₁.K 21 _ rfl) rfl rfl rfl rfl (cd_group O₁) ?_
  refine wpAny_of_eq (a := ([(Str.ofString "grouping", Value.ref l)] : List (PySem.Str × Value))) rfl ?_
  refine wpAny_newFunctionEnv (by decide) (locs rfl) fun h' hns hsb => ⟨O₁.lim.fresh _ hsb, ?_⟩
  have key : ∀ (gs : GenState) (ga : Obj) (k' : Nat), ga.isFreed = false → (∀ h : Heap, h.get? h'.objs.size = some ga → h.IsGen h'.objs.size s₁.gens.size) → gs.bare = true → Ready w A' s s₁.heap.objs.size (ns.map ispec) gs (fun x => List.lookup x [(Str.ofString "grouping", Value.ref l)].reverse) [(l, lob vs k)] →
      R (.ok (.ret (.ref h'.objs.size))) { s₁ with gens := s₁.gens.push gs, toks := k', heap := h'.push ga } := fun gs ga k' h1 h2 h3 h4 => by
    obtain ⟨oC, X⟩ := gn_newO (own := [(l, lob vs k)]) (k := k') H (fun p hp q hq => by rw [List.mem_singleton.mp hp]; exact fun e => hoff q hq e.symm) hns hsb h1 h2 h3 h4
    exact h _ _ _ _ _ _ _ _ _ X
  refine key _ _ _ rfl (fun hp e => ⟨_, _, _, e, rfl, rfl, rfl⟩) rfl ?_
  · refine ⟨_, _, [], .inl ⟨rfl, rfl, rfl⟩, fun G' s'' led' HG hap => ?_⟩
    replace HG : At (mkG s G') s₁.heap.objs.size _ ((l, lob vs k) :: led') s'' := HG
    generalize s₁.heap.objs.size = C at HG ⊢
    have hm : (fun x => List.lookup x [(Str.ofString "grouping", Value.ref l)].reverse) (Str.ofString "grouping") = some (.ref l) := rfl
    generalize (fun x => List.lookup x [(Str.ofString "grouping", Value.ref l)].reverse) = mC at HG hm
    have O' : Ok w mg mb (mkG s G').heap := O
    show SegX (model PR w) A' (.func _ (envOf (Str.ofString "_grouping_intervals") _ C 21 (.ref 20))) _ _ _ _
    refine sx_func (sx_execs_cons (sx_wrap (wpAny_Assign_Name (Constant_none (a_store HG fun s₃ HG => ?_)))))
    refine sx_execs_cons (sx_For (fun _ => rfl) ?_)
    refine a_name HG (by walk_at "m.look") (wpAny_pyIter_list HG.isList fun p => ?_)
    have HI := HG.push { cls := .type "list_iterator", data := .fields #[.ref l, .int 0 0] } (k := s₃.toks)
    have hIoff := HG.off_size
    have hlI : l ≠ s₃.heap.objs.size := hIoff _ (.head _)
    generalize s₃.heap.objs.size = I at HI hIoff hlI ⊢
    refine loop_down (fun j (x : Array GenState × List (Addr × Obj)) s₅ => ∃ m oi, At (mkG s x.1) C m ((I, oi) :: (l, lob vs k) :: x.2) s₅ ∧ s₅.heap.IsListIter I l j ∧ Off I x.2 ∧ Off l x.2)
      (fun j x => PEnd w A' s C ((ns.drop j).map ispec) x.1 x.2) ns.length ?_ ?_ ns.length 0 (Nat.zero_add _) (G', led') _ ⟨_, _, HI, ⟨_, (HI.N _ (.head _)).1, rfl, rfl⟩, fun p hp => hIoff p (.tail _ hp), fun q hq e => hap _ (.head _) q hq e.symm⟩
    · rintro ⟨G₂, led₂⟩ s₅ ⟨m₅, oi₅, H₅, hit₅, h1, h2⟩
      rw [List.drop_length]
      obtain ⟨t, hv⟩ := hi.get ns.length 127 (by simp)
      refine sx_forLoop (listTurn H₅ hh hit₅ hlI h1 hv fun oi' s₆ H₆ _ => ?_)
      refine wpAny_of_eq (a := ()) rfl ?_
      refine wpAny_assign_Name (a_store H₆ fun s₇ H₇ => ?_)
      refine sx_execs_cons (sx_If (wpAny_isTrue_Compare1 (a_name H₇ (by walk_at "m.look") (a_gl (s₀ := mkG s G₂) O H₇ (gn_CHARMAX w) (P.eq_int (wpAny_truthy_bool ?_))))))
      refine sx_execs_cons (sx_wrap (wpAny_Return_none ?_))
      refine s_pop _ _ _ _ _ _ _ (.ok (.ret .none)) _ rfl _ _ _ _ _ _ _ ?_
      exact s_end _ _ _ _ _ _ (.ok (.ret .none)) _ rfl ⟨rfl, _, H₇.drop.drop⟩
    · rintro j hj ih ⟨G₂, led₂⟩ s₅ ⟨m₅, oi₅, H₅, hit₅, h1, h2⟩
      have hnj : (ns ++ [127])[j]? = some ns[j] := by rw [List.getElem?_append_left hj, List.getElem?_eq_getElem hj]
      obtain ⟨t, hv⟩ := hi.get j ns[j] hnj
      have hmem : ns[j] ∈ ns := List.getElem_mem hj
      have n0 : ns[j] ≠ 0 := fun e => h0 (e ▸ hmem)
      have n127 : ns[j] ≠ 127 := fun e => h127 (e ▸ hmem)
      have hdr : (ns.drop j).map ispec = ispec ns[j] :: (ns.drop (j + 1)).map ispec := by rw [List.drop_eq_getElem_cons hj]; rfl
      rw [hdr]
      generalize ns[j] = n at hv n0 n127 ⊢
      refine sx_forLoop (listTurn H₅ hh hit₅ hlI h1 hv fun oi' s₆ H₆ hoi' => ?_)
      refine wpAny_of_eq (a := ()) rfl ?_
      refine wpAny_assign_Name (a_store H₆ fun s₇ H₇ => ?_)
      refine sx_execs_cons (sx_If (wpAny_isTrue_Compare1 (a_name H₇ (by walk_at "m.look") (a_gl (s₀ := mkG s G₂) O H₇ (gn_CHARMAX w) (P.eq_int (wpAny_truthy_bool ?_))))))
      rw [show (n == 127) = false by simpa using n127]
      refine sx_execs_nil ?_
      show SegX _ _ _ ((execs _ _).wrap _ _ _ _) _ _ _
      refine sx_execs_cons (sx_If (wpAny_isTrue_Compare1 (a_name H₇ (by walk_at "m.look") (a_int H₇ fun t₇ s₇ H₇ => P.eq_int (wpAny_truthy_bool ?_)))))
      rw [show (n == 0) = false by simpa using n0]
      refine sx_execs_nil ?_
      show SegX _ _ _ ((execs _ _).wrap _ _ _ _) _ _ _
      refine sx_execs_cons (sx_Yield rfl rfl rfl ?_)
      refine a_name H₇ (by walk_at "m.look") ?_
      intro lv kk p hkk hb
      refine ⟨_, false, lv, kk, _, p, _, _, [(I, oi'), (l, lob vs k)], [], rfl, hb, ⟨⟨t, rfl⟩, rfl⟩, H₇, ?_, ?_⟩
      · intro p hp q hq
        rcases List.mem_cons.mp hp with rfl | hp
        · exact fun e => h1 q hq e.symm
        · rcases List.mem_cons.mp hp with rfl | hp
          · exact fun e => h2 q hq e.symm
          · cases hp
      · intro G₃ s₉ led₃ H₉ hap
        refine hkk _ _ ?_
        show SegX _ _ _ ((execs _ _).wrap _ _ _ _) _ _ _
        refine sx_execs_cons (sx_wrap (wpAny_Assign_Name (a_name H₉ (by walk_at "m.look") (a_store H₉ fun s₁₀ H₁₀ => ?_))))
        refine sx_execs_nil ?_
        show SegX _ _ _ (.pure (.again _)) _ _ _
        refine s_again _ _ _ _ _ _ _ _ rfl (ih (G₃, led₃) s₁₀ ⟨_, oi', H₁₀, hoi' _ (H₁₀.N _ (.head _)).1, fun q hq => ?_, fun q hq => ?_⟩)
        · exact fun e => hap _ (.head _) q hq e.symm
        · exact fun e => hap _ (.tail _ (.head _)) q hq e.symm
end Mine
end

section
open PySem PySem.Spec PySem.Calls PyProof.Rows PySem.W PySem.W.X
open Sem (wp)
namespace Mine

section
variable {w : World} {A : Around} {E : Value → Shared → Prop} {s₀ s : Shared} {L : Addr} {m mg mb : PySem.Str → Option Value} {news : List (Addr × Obj)} {env : Env}

theorem At.walk {wr : List Addr} {h' : Heap} {k : Nat} (H : At s₀ L m news s) (hk : ∀ b o, b ∉ wr → s.heap.get? b = some o → h'.get? b = some o) (hL : L ∉ wr) (hoff : ∀ p ∈ news, p.1 ∉ wr) (h0 : ∀ b ∈ wr, s₀.heap.get? b = none) :
    At s₀ L m news { s with heap := h', toks := k } := by
  have keep : ∀ b o, s₀.heap.get? b = some o → h'.get? b = some o := fun b o e => hk b o (fun hb => by rw [h0 b hb] at e; cases e) (H.F.keep b o e)
  exact ⟨⟨H.F.ns.at fun o e => hk L o hL e, keep, H.F.above⟩, fun p hp => ⟨hk _ _ (hoff p hp) (H.N p hp).1, (H.N p hp).2⟩, ⟨keep, H.R.gens, H.R.bare, H.R.os⟩⟩

theorem v_storeX {x : PySem.Str} {v : Value} {Q : Unit → Shared → Prop} (H : At s₀ L m news s) (h : ∀ s', At s₀ L (upd m x v) news s' → (∀ b o, b ≠ L → s.heap.get? b = some o → s'.heap.get? b = some o) → Q () s') (hL : env.locals = L := by rfl)
    (hl : env.kindOf x = some .local := by rfl) (hp : (env.scope.kind == .class || (env.scope.kind == .module && env.locals != env.globals)) = false := by rfl) :
    wpAny (model PR w) A (storeName env x v) Q E s := by
  subst hL
  refine wpAny_storeName_local hl H.F.ns (fun h' hn hs => h _ ?_ fun b o hb e => hs.extBut b o hb e) hp
  have F' := H.F.set hn hs
  exact ⟨F', fun p hp => ⟨hs.extBut _ _ (H.N p hp).2.1 (H.N p hp).1, (H.N p hp).2⟩, ⟨F'.keep, H.R.gens, H.R.bare, H.R.os⟩⟩

theorem v_assign2X {T : Addr} {xi xc : PySem.Str} {pk pv pt : Pos} {x1 : Nat} {v0 v1 : Value} {Q : Unit → Shared → Prop} (H : At s₀ L m news s) (hh : A.handled = none) (hT : s.heap.IsTuple T #[v0, v1])
    (h : ∀ s', At s₀ L (upd (upd m xi v0) xc v1) news s' → (∀ b o, b ≠ L → s.heap.get? b = some o → s'.heap.get? b = some o) → Q () s') (hL : env.locals = L := by rfl)
    (hi : env.kindOf xi = some .local := by rfl) (hc : env.kindOf xc = some .local := by rfl) (hp : (env.scope.kind == .class || (env.scope.kind == .module && env.locals != env.globals)) = false := by rfl) :
    wpAny (model PR w) A (assign (.Tuple [.Name xi pk, .Name xc pv] x1 pt) env (.ref T)) Q E s := by
  refine wpAny_assign_Tuple hh hT rfl rfl fun h₃ hx₃ => ?_
  have up₃ : ∀ b o, s.heap.get? b = some o → h₃.get? b = some o := fun b o x => hx₃ b o (Nat.ne_of_lt (Heap.lt_size x)) x
  have H₃ : At s₀ L m news { s with heap := h₃, toks := s.toks } := H.keep up₃
  show wpAny _ A (do holding [v1] (assign (.Name xi pk) _ v0); do holding [] (assign (.Name xc pv) _ v1); pure ()) _ _ _
  refine wpAny_bind (wpAny_holding (wpAny_assign_Name (v_storeX H₃ (fun s₄ H₄ k₄ => ?_) hL hi hp)))
  exact wpAny_bind (wpAny_holding (wpAny_assign_Name (v_storeX H₄ (fun s₅ H₅ k₅ => wpAny_pure (h _ H₅ fun b o hb e => k₅ b o hb (k₄ b o hb (up₃ b o e)))) hL hc hp)))

theorem a_appendX {c : Addr} {vs : List Value} {k : Nat} {x : Value} {Q : Value → Shared → Prop} (H : At s₀ L m ((c, lob vs k) :: news) s) (hoff : Off c news) (hsz : vs.length ≤ 1000000)
    (h : ∀ s', At s₀ L m ((c, lob (vs ++ [x]) (k + 1)) :: news) s' → (∀ b o, b ≠ c → s.heap.get? b = some o → s'.heap.get? b = some o) → Q .none s') : wpAny (model PR w) A (call (.builtin "list.append") [.ref c, x]) Q E s := by
  refine append_at (H.N _ (.head _)).1 (fun h' hs ho => h _ ?_ fun b o hb e => hs.extBut b o hb e) (by rw [List.size_toArray]; exact Nat.le_trans hsz (by decide))
  have := H.step (h := h') (k := s.toks) hoff (fun b x hb e => (hs.2 b (by simpa using hb)).trans e) (o' := lob (vs ++ [x]) (k + 1)) (by rw [ho]; simp)
  exact this

abbrev Toks (s s' : Shared) : Prop := ∃ k, s' = { s with toks := k }

/-- a comprehension over an iterator that gives pairs -/
theorem compT {elt iter : Expr} {x y : PySem.Str} {px py tp pos : Pos} {x1 : Nat} {scope : Scope} {cl : List (PySem.Str × Addr)} {I : Addr} {fp wr : List Addr} {n : Nat} {Pt : Nat → Array Value → Prop} {St : Nat → Heap → Prop} {Mid : Nat → Addr → Heap → Prop} {Fin : Addr → (PySem.Str → Option Value) → List (Addr × Obj) → Prop}
    (W : WalksT PR w A I fp wr n Pt St Mid) (P : Nat → List Value → Prop) (H : At s₀ L m news s) (hh : A.handled = none) (hst : St 0 s.heap) (hfp : ∀ b ∈ fp, ∃ o, s.heap.get? b = some o) (hL : L ∉ wr) (h0 : ∀ b ∈ wr, s₀.heap.get? b = none) (hoff : ∀ p ∈ news, p.1 ∉ wr)
    (hn : n ≤ 1000) (hP0 : P 0 [])
    (helt : ∀ i vals vs, i < n → Pt i vals → P i vs → ∃ v0 v1, vals = #[v0, v1] ∧ ∀ C mC newsC s₅, At s₀ C mC newsC s₅ → mC x = some v0 → mC y = some v1 →
      wpAny (model PR w) A (eval elt (compEnvC scope cl C env)) (fun v s₆ => Toks s₅ s₆ ∧ P (i + 1) (vs ++ [v])) NoE s₅)
    (hfin : ∀ D vs, P n vs → Off D news → Fin D m ((D, lob vs n) :: news)) (hkind : scope.kind = .function := by rfl) (hx : scope.names.lookup x = some .local := by rfl) (hy : scope.names.lookup y = some .local := by rfl) (hxy : x ≠ y := by decide) :
    CompIn w A s₀ L env (.ListComp elt [⟨.Tuple [.Name x px, .Name y py] x1 tp, iter, [], 0⟩] scope pos) scope cl Fin (.ref I) s := by
  refine ⟨m, news, H, fun s' Q' E' hk hq => W.self 0 _ _ _ (W.frame _ _ _ hst fun b _ o e => hk b o e) hq, fun C D oL s₃ hLC hLn H₃ hoD hk₃ hC0 hD0 => ?_⟩
  have hCf : C ∉ fp := fun hb => by obtain ⟨o, e⟩ := hfp C hb; rw [hC0] at e; cases e
  have hDf : D ∉ fp := fun hb => by obtain ⟨o, e⟩ := hfp D hb; rw [hD0] at e; cases e
  have hCw : C ∉ wr := fun hb => hCf (W.sub _ hb)
  have hDw : D ∉ wr := fun hb => hDf (W.sub _ hb)
  have offw : ∀ (vs : List Value) k, ∀ p ∈ (D, lob vs k) :: (L, oL) :: news, p.1 ∉ wr := fun vs k p hp => by
    rcases List.mem_cons.mp hp with rfl | hp
    · exact hDw
    · rcases List.mem_cons.mp hp with rfl | hp
      · exact hL
      · exact hoff p hp
  have hst₃ : St 0 s₃.heap := W.frame _ _ _ hst fun b _ o e => hk₃ b o e
  refine compL (fun k s' => ∃ i mC vs, k = n - i ∧ i ≤ n ∧ P i vs ∧ vs.length = i ∧ St i s'.heap ∧ At s₀ C mC ((D, lob vs i) :: (L, oL) :: news) s') ?_ n ⟨0, _, [], rfl, Nat.zero_le _, hP0, rfl, hst₃, H₃⟩
  rintro k s₄ ⟨i, mC, vs, rfl, hi, hP, hlen, hst₄, H₄⟩
  by_cases hlt : i < n
  · refine W.item i s₄ _ _ hlt hst₄ fun T vals h' tk hPt hTle hT hMid hkp => ?_
    obtain ⟨v0, v1, rfl, he⟩ := helt i vals vs hlt hPt hP
    have H₅ : At s₀ C mC ((D, lob vs i) :: (L, oL) :: news) { s₄ with heap := h', toks := tk } := H₄.walk hkp hCw (offw vs i) h0
    refine W.go _ _ _ i T _ _ _ hMid fun h₂ hst₂ hk₂ => ?_
    have H₆ : At s₀ C mC ((D, lob vs i) :: (L, oL) :: news) { { s₄ with heap := h', toks := tk } with heap := h₂, toks := tk } := H₅.walk hk₂ hCw (offw vs i) h0
    have hTw := W.apart _ _ _ hMid
    have hT₂ : h₂.IsTuple T #[v0, v1] := by
      obtain ⟨o, ho, r⟩ := hT
      exact ⟨o, hk₂ T o hTw ho, r⟩
    refine v_assign2X (env := compEnvC scope cl C env) H₆ hh hT₂ (fun s₇ H₇ hk₇ => ?_) rfl (lookup_relabel_local hx) (lookup_relabel_local hy) (by simp [compEnvC, relabel, hkind])
    refine wpAny_mono (he C _ _ s₇ H₇ ((if_neg hxy).trans (if_pos rfl)) (if_pos rfl)) (fun v s₈ h₈ => ?_) fun _ _ e => e
    obtain ⟨⟨k₈, rfl⟩, hP'⟩ := h₈
    refine a_appendX (H₇.toks (k := k₈)) hoD (by rw [hlen]; omega) fun s₉ H₉ hk₉ => ?_
    refine ⟨n - (i + 1), by omega, i + 1, _, vs ++ [v], rfl, hlt, hP', by simp [hlen], ?_, H₉⟩
    refine W.frame _ _ _ hst₂ fun b hb o e => hk₉ b o ?_ (hk₇ b o ?_ e)
    · rintro rfl; exact hDf hb
    · rintro rfl; exact hCf hb
  · have : i = n := by omega
    subst this
    refine W.done s₄ _ _ hst₄ fun h' tk hk => ?_
    have H₅ : At s₀ C mC ((D, lob vs i) :: (L, oL) :: news) { s₄ with heap := h', toks := tk } := H₄.walk hk hCw (offw vs i) h0
    have hDL : D ≠ L := fun e => hoD (L, oL) (.head _) e.symm
    refine ⟨rfl, mC, (D, lob vs i) :: news, H₅.led fun p hp => ?_, fun p hp => ?_, hfin D vs hP fun p hp => hoD p (.tail _ hp)⟩
    · rcases List.mem_cons.mp hp with rfl | hp
      · exact .tail _ (.head _)
      · rcases List.mem_cons.mp hp with rfl | hp
        · exact .head _
        · exact .tail _ (.tail _ hp)
    · rcases List.mem_cons.mp hp with rfl | hp
      · exact hDL
      · exact (H.N p hp).2.1

/-- a comprehension over an iterator that gives values for one name -/
theorem compN {elt iter : Expr} {x : PySem.Str} {px pos : Pos} {scope : Scope} {cl : List (PySem.Str × Addr)} {I : Addr} {fp wr : List Addr} {n : Nat} {Pv : Nat → Value → Prop} {St : Nat → Heap → Prop} {Fin : Addr → (PySem.Str → Option Value) → List (Addr × Obj) → Prop}
    (W : Walks PR w A I fp wr n Pv St) (P : Nat → List Value → Prop) (H : At s₀ L m news s) (hst : St 0 s.heap) (hfp : ∀ b ∈ fp, ∃ o, s.heap.get? b = some o) (hL : L ∉ wr) (h0 : ∀ b ∈ wr, s₀.heap.get? b = none) (hoff : ∀ p ∈ news, p.1 ∉ wr)
    (hn : n ≤ 1000) (hP0 : P 0 [])
    (helt : ∀ i v vs, i < n → Pv i v → P i vs → ∀ C mC newsC s₅, At s₀ C mC newsC s₅ → mC x = some v →
      wpAny (model PR w) A (eval elt (compEnvC scope cl C env)) (fun v s₆ => Toks s₅ s₆ ∧ P (i + 1) (vs ++ [v])) NoE s₅)
    (hfin : ∀ D vs, P n vs → Off D news → Fin D m ((D, lob vs n) :: news)) (hkind : scope.kind = .function := by rfl) (hx : scope.names.lookup x = some .local := by rfl) :
    CompIn w A s₀ L env (.ListComp elt [⟨.Name x px, iter, [], 0⟩] scope pos) scope cl Fin (.ref I) s := by
  refine ⟨m, news, H, fun s' Q' E' hk hq => W.self 0 _ _ _ (W.frame _ _ _ hst fun b _ o e => hk b o e) hq, fun C D oL s₃ hLC hLn H₃ hoD hk₃ hC0 hD0 => ?_⟩
  have hCf : C ∉ fp := fun hb => by obtain ⟨o, e⟩ := hfp C hb; rw [hC0] at e; cases e
  have hDf : D ∉ fp := fun hb => by obtain ⟨o, e⟩ := hfp D hb; rw [hD0] at e; cases e
  have hCw : C ∉ wr := fun hb => hCf (W.sub _ hb)
  have hDw : D ∉ wr := fun hb => hDf (W.sub _ hb)
  have offw : ∀ (vs : List Value) k, ∀ p ∈ (D, lob vs k) :: (L, oL) :: news, p.1 ∉ wr := fun vs k p hp => by
    rcases List.mem_cons.mp hp with rfl | hp
    · exact hDw
    · rcases List.mem_cons.mp hp with rfl | hp
      · exact hL
      · exact hoff p hp
  have hst₃ : St 0 s₃.heap := W.frame _ _ _ hst fun b _ o e => hk₃ b o e
  refine compL (fun k s' => ∃ i mC vs, k = n - i ∧ i ≤ n ∧ P i vs ∧ vs.length = i ∧ St i s'.heap ∧ At s₀ C mC ((D, lob vs i) :: (L, oL) :: news) s') ?_ n ⟨0, _, [], rfl, Nat.zero_le _, hP0, rfl, hst₃, H₃⟩
  rintro k s₄ ⟨i, mC, vs, rfl, hi, hP, hlen, hst₄, H₄⟩
  by_cases hlt : i < n
  · refine W.item i s₄ _ _ hlt hst₄ fun v h' tk hPt hst₂ hkp => ?_
    have H₅ : At s₀ C mC ((D, lob vs i) :: (L, oL) :: news) { s₄ with heap := h', toks := tk } := H₄.walk hkp hCw (offw vs i) h0
    refine wpAny_of_eq (a := ()) rfl ?_
    refine wpAny_assign_Name (v_storeX (env := compEnvC scope cl C env) H₅ (fun s₇ H₇ hk₇ => ?_) rfl (lookup_relabel_local hx) (by simp [compEnvC, relabel, hkind]))
    refine wpAny_mono (helt i v vs hlt hPt hP C _ _ s₇ H₇ (if_pos rfl)) (fun v s₈ h₈ => ?_) fun _ _ e => e
    obtain ⟨⟨k₈, rfl⟩, hP'⟩ := h₈
    refine a_appendX (H₇.toks (k := k₈)) hoD (by rw [hlen]; omega) fun s₉ H₉ hk₉ => ?_
    refine ⟨n - (i + 1), by omega, i + 1, _, vs ++ [v], rfl, hlt, hP', by simp [hlen], ?_, H₉⟩
    refine W.frame _ _ _ hst₂ fun b hb o e => hk₉ b o ?_ (hk₇ b o ?_ e)
    · rintro rfl; exact hDf hb
    · rintro rfl; exact hCf hb
  · have : i = n := by omega
    subst this
    refine W.done s₄ _ _ hst₄ fun h' tk hk => ?_
    have H₅ : At s₀ C mC ((D, lob vs i) :: (L, oL) :: news) { s₄ with heap := h', toks := tk } := H₄.walk hk hCw (offw vs i) h0
    have hDL : D ≠ L := fun e => hoD (L, oL) (.head _) e.symm
    refine ⟨rfl, mC, (D, lob vs i) :: news, H₅.led fun p hp => ?_, fun p hp => ?_, hfin D vs hP fun p hp => hoD p (.tail _ hp)⟩
    · rcases List.mem_cons.mp hp with rfl | hp
      · exact .tail _ (.head _)
      · rcases List.mem_cons.mp hp with rfl | hp
        · exact .head _
        · exact .tail _ (.tail _ hp)
    · rcases List.mem_cons.mp hp with rfl | hp
      · exact hDL
      · exact (H.N p hp).2.1
end
end Mine
end

section
open PySem PySem.Spec PySem.Calls PyProof.Rows PySem.W PySem.W.X
open Sem (wp)
namespace Mine

section
variable {w : World} {A : Around} {E : Value → Shared → Prop} {s₀ s : Shared} {L : Addr} {m mg mb : PySem.Str → Option Value} {news : List (Addr × Obj)} {env : Env}

theorem At.of (H : At s₀ L m news s) {h' : Heap} {news' : List (Addr × Obj)} {k : Nat} (F : Fr s₀.heap L h' m) (N : News s₀.heap L h' news') : At s₀ L m news' { s with heap := h', toks := k } := ⟨F, N, ⟨F.keep, H.R.gens, H.R.bare, H.R.os⟩⟩

/-- xs[k] of ints -/
theorem a_litem {value slice : Expr} {l : Addr} {vs : List Value} {ns : List Int} {k n : Int} {u : Tok} {Q : Value → Shared → Prop} (hl : s.heap.IsList l vs.toArray) (hi : IntsAre vs ns) (h0 : 0 ≤ k) (h1 : k < 1000000) (hn : ns[k.toNat]? = some n) (h : ∀ t, Q (.int n t) s)
    (hs : subscripted slice false (.ref l) (.int k u) = operate [.ref l, .int k u] (getItem (.ref l) (.int k u)) := by with_unfolding_all rfl) (hg : ∀ r, letTemporaryGo value (.ref l) r = pure () := by intro _; with_unfolding_all rfl) :
    wpAny (model PR w) A (subscriptTail value slice (.ref l) (.int k u)) Q E s := by
  have hlt : k.toNat < ns.length := by
    rcases Nat.lt_or_ge k.toNat ns.length with h' | h'
    · exact h'
    · rw [List.getElem?_eq_none h'] at hn; cases hn
  refine item_list_ints hl hi h0 (by omega) (by omega) (fun t => ?_) hs hg
  have : ns.getD k.toNat 0 = n := by rw [List.getD_eq_getElem?_getD, hn]; rfl
  rw [this]; exact h t

theorem fold_rep1 (v : Value) (n : Nat) : (List.replicate n #[v]).foldl (fun x1 x2 => x1 ++ x2) #[] = (List.replicate n v).toArray := by
  have key : ∀ (n : Nat) (acc : List Value), (List.replicate n #[v]).foldl (fun x1 x2 => x1 ++ x2) acc.toArray = (acc ++ List.replicate n v).toArray := by
    intro n
    induction n with
    | zero => intro acc; simp
    | succ n ih =>
      intro acc
      rw [List.replicate_succ, List.foldl_cons, List.replicate_succ, List.append_cons, ← ih]
      simp
  have := key n []
  simpa using this
theorem ints_rep (n : Int) (t : Tok) : ∀ k : Nat, IntsAre (List.replicate k (.int n t)) (List.replicate k n)
  | 0 => .nil
  | k + 1 => .cons n t (ints_rep n t k)

theorem a_mulL {l : Addr} {v : Value} {k : Nat} {x : Int} {u : Tok} {Q : Value → Shared → Prop} (H : At s₀ L m ((l, lob [v] k) :: news) s) (h0 : -1000 ≤ x) (h1 : x ≤ 1000)
    (h : ∀ c s', Off c ((l, lob [v] k) :: news) → At s₀ L m ((c, lob (List.replicate x.toNat v) 0) :: (l, lob [v] k) :: news) s' → Q (.ref c) s') : wpAny (model PR w) A (binaryOp .Mult (.ref l) (.int x u)) Q E s :=
  mul_list (items := #[v]) (k := k) H.F H.N (H.N _ (.head _)).1 (by omega) (by omega) (by simp; omega) fun h' F' N' => by
    refine h s.heap.objs.size _ H.off_size (H.of (k := s.toks) F' fun p hp => ?_)
    rcases List.mem_cons.mp hp with rfl | hp
    · have := N' _ (.head _)
      simp only [List.isEmpty_toArray, List.isEmpty_cons, Bool.false_eq_true, if_false] at this
      rw [fold_rep1] at this
      exact this
    · exact N' _ (.tail _ hp)

theorem a_addL {l b : Addr} {vs ws : List Value} {Q : Value → Shared → Prop} (H : At s₀ L m news s) (hl : s.heap.IsList l vs.toArray) (hb : s.heap.IsList b ws.toArray) (hsz : vs.length + ws.length ≤ 1000000)
    (h : ∀ c s', Off c news → At s₀ L m ((c, lob (vs ++ ws) 0) :: news) s' → Q (.ref c) s') : wpAny (model PR w) A (binaryOp .Add (.ref l) (.ref b)) Q E s :=
  add_lists (hsz := Nat.le_trans hsz (by decide)) H.F H.N hl hb fun h' F' N' => h _ _ H.off_size (H.of (k := s.toks) F' N')

theorem a_list1 {e : Expr} {pos : Pos} {Q : Value → Shared → Prop} (he : wpAny (model PR w) A (eval e env) (fun v s₁ => ∃ m news, At s₀ L m news s₁ ∧ ∀ c s', Off c news → At s₀ L m ((c, lob [v] 0) :: news) s' → Q (.ref c) s') E s)
    (hs : starEach [e] env = [(false, eval e env)] := by rfl) : wpAny (model PR w) A (eval (.List [e] pos) env) Q E s := by
  refine List_ ?_
  rw [hs]
  refine Calls.spliced_cons (wpAny_mono he (fun v s₁ h₁ => Calls.spliced_nil ?_) fun _ _ e => e)
  obtain ⟨m, news, H, h⟩ := h₁
  exact wpAny_newObj_type (h _ _ H.off_size (H.push _)) (by size_fits)

theorem a_slice_sn {value slice : Expr} {l : Addr} {vs : List Value} {ns : List Int} {i : Int} {ui : Tok} {Q : Value → Shared → Prop} (H : At s₀ L m news s) (hl : s.heap.IsList l vs.toArray) (hi : IntsAre vs ns) (h0 : 0 ≤ i) (hsz : vs.length ≤ 1000000)
    (h : ∀ c ws s', Off c news → At s₀ L m ((c, lob ws 0) :: news) s' → IntsAre ws (ns.drop i.toNat) → Q (.ref c) s')
    (hs : subscripted slice false (.ref l) (.ref s.heap.objs.size) = operate [.ref s.heap.objs.size, .ref l] (getItem (.ref l) (.ref s.heap.objs.size)) := by with_unfolding_all rfl)
    (ht : ∀ r, letTemporaryGo value (.ref l) r = pure () := by intro _; with_unfolding_all rfl) :
    wpAny (model PR w) A (subscriptTail value slice (.ref l) (.ref s.heap.objs.size)) Q E { s with heap := s.heap.push { cls := .type "slice", data := .fields #[.int i ui, .none, .none] } } := by
  refine kmk_slice H.F H.N hl (lo := some i) (hi := none) (.int ..) .none (fun D h' F' N' l1 => ?_) hs ht (by rw [List.size_toArray]; exact Nat.le_trans hsz (by decide))
  refine h D (slicePick vs.toArray (some i) none none).toList _ (fun p hp => Nat.ne_of_lt (l1 p hp)) (H.of (k := s.toks) F' ?_) (kmk_from hi h0)
  rw [lob, Array.toArray_toList]
  exact N'
theorem a_slice_nsL {value slice : Expr} {l : Addr} {vs : List Value} {ns : List Int} {i : Int} {ui : Tok} {Q : Value → Shared → Prop} (H : At s₀ L m news s) (hl : s.heap.IsList l vs.toArray) (hi : IntsAre vs ns) (h0 : 0 ≤ i) (hsz : vs.length ≤ 1000000)
    (h : ∀ c ws s', Off c news → At s₀ L m ((c, lob ws 0) :: news) s' → IntsAre ws (ns.take i.toNat) → Q (.ref c) s')
    (hs : subscripted slice false (.ref l) (.ref s.heap.objs.size) = operate [.ref s.heap.objs.size, .ref l] (getItem (.ref l) (.ref s.heap.objs.size)) := by with_unfolding_all rfl)
    (ht : ∀ r, letTemporaryGo value (.ref l) r = pure () := by intro _; with_unfolding_all rfl) :
    wpAny (model PR w) A (subscriptTail value slice (.ref l) (.ref s.heap.objs.size)) Q E { s with heap := s.heap.push { cls := .type "slice", data := .fields #[.none, .int i ui, .none] } } := by
  refine kmk_slice H.F H.N hl (lo := none) (hi := some i) .none (.int ..) (fun D h' F' N' l1 => ?_) hs ht (by rw [List.size_toArray]; exact Nat.le_trans hsz (by decide))
  refine h D (slicePick vs.toArray none (some i) none).toList _ (fun p hp => Nat.ne_of_lt (l1 p hp)) (H.of (k := s.toks) F' ?_) (kmk_upto hi h0)
  rw [lob, Array.toArray_toList]
  exact N'

theorem a_slice_ss {value slice : Expr} {l : List Nat} {i j : Int} {t ui uj : Tok} {Q : Value → Shared → Prop} (H : At s₀ L m news s) (hj : 0 ≤ i ∧ i ≤ j ∧ j ≤ l.length) (hl : l.length ≤ 100000) (h : ∀ t' s', At s₀ L m news s' → Q (.str (S ((l.drop i.toNat).take (j - i).toNat)) t') s')
    (hs : subscripted slice false (.str (S l) t) (.ref s.heap.objs.size) = operate [.ref s.heap.objs.size, .str (S l) t] (getItem (.str (S l) t) (.ref s.heap.objs.size)) := by with_unfolding_all rfl)
    (ht : ∀ r, letTemporaryGo value (.str (S l) t) r = pure () := by intro _; with_unfolding_all rfl) :
    wpAny (model PR w) A (subscriptTail value slice (.str (S l) t) (.ref s.heap.objs.size)) Q E { s with heap := s.heap.push { cls := .type "slice", data := .fields #[.int i ui, .int j uj, .none] } } :=
  slice_strN_ss H.F H.N (fun h' t' k F' N' => by rw [slice_S hj]; exact h _ _ (H.of F' N')) hs ht (by rw [S_len]; exact Nat.le_trans hl (by decide))

theorem a_split {l : List Nat} {c : Nat} {t u : Tok} {Q : Value → Shared → Prop} (H : At s₀ L m news s) (hl : l.length ≤ 100000)
    (h : ∀ a (ps : List (PySem.Str × Tok)) s', Off a news → At s₀ L m ((a, lob (strValues ps) 0) :: news) s' → ps.map (·.1) = Txt.split (S l) (S [c]) → Q (.ref a) s') :
    wpAny (model PR w) A (call (.builtin "str.split") [.str (S l) t, .str (S [c]) u]) Q E s :=
  splitN1 H.F H.N rfl (fun ps h' k hp F' N' => h _ ps _ H.off_size (H.of F' N') hp) (by rw [S_len]; exact Nat.le_trans (Nat.add_le_add_right hl 2) (by decide))

/-- e.split(c), e the text -/
theorem a_Split {o e : Expr} {apos pos : Pos} {Q : Value → Shared → Prop} 
    (he : wpAny (model PR w) A (eval o env) (fun v s₁ => ∃ l t, v = .str (S l) t ∧ wpAny (model PR w) A (eval e env) (fun v' s₂ => ∃ u m news, v' = .str (S [41]) u ∧ At s₀ L m news s₂ ∧ l.length ≤ 100000 ∧
      ∀ a (ps : List (PySem.Str × Tok)) s', Off a news → At s₀ L m ((a, lob (strValues ps) 0) :: news) s' → ps.map (·.1) = Txt.split (S l) (S [41]) → Q (.ref a) s') E s₁) E s) {pl : Sem Bool}
    (hm : eval (.Call (.Attribute o "split" apos) [e] [] pos) env = (do
      let ov ← eval o env
      standAt apos.atName
      let (f, first) ← holding [ov] (getMethod ov "split" pl)
      callWith pos f first (backTo pos (starEach [e] env)) []) := by rfl)
    (hs : starEach [e] env = [(false, eval e env)] := by rfl) :
    wpAny (model PR w) A (eval (.Call (.Attribute o "split" apos) [e] [] pos) env) Q E s := by
  refine MethodCall_ (pl := pl) (wpAny_mono he (fun v s₁ h₁ => ?_) fun _ _ e => e) hm
  obtain ⟨l, t, rfl, h₁⟩ := h₁
  refine getMethod_builtin (typeIs_str _ _ _) PySem.F.plainAttrs_str F.slot_str_split F.type_str_split (fun a e => by cases e) ?_
  show wpAny _ _ (callWith _ (.builtin "str.split") [.str (S l) t] (backTo pos (starEach [e] _)) []) _ _ _
  rw [hs]
  refine Calls.callWith_builtin rfl (Calls.evalArgs_plain (Calls.spliced_cons (wpAny_mono h₁ (fun v s₁ h₁ => Calls.spliced_nil ?_) fun _ _ e => e)))
  obtain ⟨u, m, news, rfl, H, hl, h⟩ := h₁
  exact a_split H hl h

/-- xs.extend(e) as a statement -/
theorem a_Extend {c : Addr} {vs : List Value} {k : Nat} {x : PySem.Str} {np apos pos pos' : Pos} {e : Expr} {Q : Flow → Shared → Prop} (H : At s₀ L m ((c, lob vs k) :: news) s) (hv : m x = some (.ref c))
    (he : wpAny (model PR w) A (eval e env) (fun v s₁ => ∃ b ws k' news', v = .ref b ∧ At s₀ L m ((c, lob vs k) :: news') s₁ ∧ (b, lob ws k') ∈ news' ∧ Off c news' ∧ vs.length + ws.length ≤ 1000000 ∧ ∀ s' k'', At s₀ L m ((c, lob (vs ++ ws) k'') :: news') s' → Q .next s') E s)
    (hL : env.locals = L := by rfl) (hk : env.scope.kind = .function := by rfl) (hl : env.kindOf x = some .local := by rfl) (hd : (x == ("__debug__" : PySem.Str)) = false := by decide)
    (hs : starEach [e] env = [(false, eval e env)] := by rfl)
    (hm : eval (.Call (.Attribute (.Name x np) "extend" apos) [e] [] pos) env = (do
      let ov ← eval (.Name x np) env
      standAt apos.atName
      let (f, first) ← holding [ov] (getMethod ov "extend" (do return (← importBound (.Name x np) env).getD true))
      callWith pos f first (backTo pos (starEach [e] env)) []) := by rfl)
    (hi : interactive env = false := by rfl) :
    wpAny (model PR w) A (exec (.Expr (.Call (.Attribute (.Name x np) "extend" apos) [e] [] pos) pos') env) Q E s := by
  refine wpAny_Expr (MethodCall_ (pl := do return (← importBound (.Name x np) env).getD true) (v_name H hv (getMethod_list_of F.slot_list_extend F.type_list_extend H.isList ⟨_, (H.N _ (.head _)).1, rfl⟩ ?_) hL hk hl hd) hm) hi
  show wpAny _ _ (callWith _ (.builtin "list.extend") [.ref c] (backTo pos (starEach [e] _)) []) _ _ _
  rw [hs]
  refine Calls.callWith_builtin rfl (Calls.evalArgs_plain (Calls.spliced_cons (wpAny_mono he (fun v s₁ h₁ => Calls.spliced_nil ?_) fun _ _ e => e)))
  obtain ⟨b, ws, k', news', rfl, H₁, hb, hoff, hsz, h⟩ := h₁
  refine extend_in (own := []) (ys := vs) (n := k) (n2 := k') (its2 := ws.toArray) H₁.F H₁.N (fun p hp => nomatch hp) hoff (H₁.N _ (.tail _ hb)).1 (fun h' n' F' N' => h _ n' (H₁.of (k := s₁.toks) F' ?_)) (by rw [List.size_toArray]; exact Nat.le_trans hsz (by decide))
  simpa using N'
end
end Mine
end

section
open PySem PySem.Spec PySem.Calls PyProof.Rows PySem.W PySem.W.X
open Sem (wp)
namespace Mine
local macro_rules | `(tactic| walk_at "m.look") => `(tactic| first | assumption | exact if_pos rfl | (refine (if_neg (by decide)).trans ?_; walk_at "m.look") | rfl)

section
variable {w : World} {A : Around} {E : Value → Shared → Prop} {s₀ s : Shared} {L : Addr} {m mg mb : PySem.Str → Option Value} {news : List (Addr × Obj)} {env : Env}
theorem c_type2 {x : PySem.Str} {np pos : Pos} {e e' : Expr} {Q : Value → Shared → Prop} {T : String} (hf : wpAny (model PR w) A (eval (.Name x np) env) (fun v s₁ => v = .type T ∧ s₁ = s) E s)
    (h : wpAny (model PR w) A (eval e env) (fun v s₁ => wpAny (model PR w) A (eval e' env) (fun v' s₂ => wpAny (model PR w) A (call (.type T) [v, v']) Q E s₂) E s₁) E s)
    (hs : starEach [e, e'] env = [(false, eval e env), (false, eval e' env)] := by rfl) : wpAny (model PR w) A (eval (.Call (.Name x np) [e, e'] [] pos) env) Q E s := by
  show wpAny (model PR w) A (do callWith pos (← eval (.Name x np) env) [] (backTo pos (starEach [e, e'] env)) (backToKw pos (keywordEach [] env))) Q E s
  rw [hs]
  refine wpAny_bind (wpAny_mono hf (fun v s₁ hv => ?_) fun _ _ e => e)
  obtain ⟨rfl, rfl⟩ := hv
  exact PyProof.Rows.callWith_type rfl (Calls.evalArgs_plain (Calls.spliced_cons (wpAny_mono h (fun v s₂ h₂ => Calls.spliced_cons (wpAny_mono h₂ (fun v' s₃ h₃ => Calls.spliced_nil h₃) fun _ _ e => e)) fun _ _ e => e)))
end

theorem zip_apart (n l c : Nat) (h1 : l < n) (h2 : c < n) : ZipApart (n + 4) (n + 2) (n + 3) n (n + 1) l c := by
  constructor <;> (show (_ : Nat) ≠ _) <;> omega
theorem zip_above (n b : Nat) (hb : b ∈ [n + 4, n + 3, n, n + 1]) : n ≤ b := by
  simp at hb; rcases hb with rfl | rfl | rfl | rfl <;> omega

def parts (l : List Nat) : List Nat := (Txt.split (S l) (S [41])).map (·.length)
def sizesOf (counts : List Int) : List Int := List.zipWith (· + ·) counts (counts.drop 1)

def bInner (lv : Int) : List Int → List Int → List Int → Option (List Int)
  | [], g, _ => some g
  | h :: r, g, b =>
    if 1000 < g.length then none
    else if h == lv - 1 then
      match b with
      | _ :: x :: b' => if 0 ≤ x ∧ x ≤ 1000 then bInner lv r (g ++ [h] ++ List.replicate x.toNat lv) (x :: b') else none
      | _ => none
    else bInner lv r (g ++ [h]) b

def bLoop (img : List Nat) : Nat → Nat → List Int → List Int → Option (List Int)
  | _, pl, [], hs => some (if pl = img.length then hs else [])
  | lv, pl, sz :: r, hs =>
    if 0 ≤ sz ∧ pl + sz.toNat ≤ img.length then
      match parts ((img.drop pl).take sz.toNat) with
      | [] => none
      | b0 :: b =>
        if (b0 :: b).length ≤ 1000 ∧ (b0 :: b).all (· ≤ 1000) = true ∧ hs.length ≤ 1000 then
          match bInner lv hs (if lv = 0 then List.replicate b0 0 else []) ((b0 :: b).map Int.ofNat) with
          | some g => bLoop img (lv + 1) (pl + sz.toNat) r g
          | none => none
        else none
    else none

theorem zip_ints {ns ms : List Int} {xs : List Value} (i : Nat) (hx : IntsAre xs ((List.zipWith (· + ·) ns ms).take i)) {t : Tok} {a b : Int} (ha : ns[i]? = some a) (hb : ms[i]? = some b) :
    IntsAre (xs ++ [.int (a + b) t]) ((List.zipWith (· + ·) ns ms).take (i + 1)) := by
  have e : (List.zipWith (· + ·) ns ms)[i]? = some (a + b) := by rw [List.getElem?_zipWith, ha, hb]
  rw [List.take_add_one, e]
  exact hx.append (.cons _ _ .nil)

theorem ints_at {vs : List Value} {ns : List Int} (hi : IntsAre vs ns) {i : Nat} {v : Value} (h : vs[i]? = some v) : ∃ n t, v = .int n t ∧ ns[i]? = some n := by
  have hlt : i < ns.length := by
    rw [← hi.length]
    rcases Nat.lt_or_ge i vs.length with h' | h'
    · exact h'
    · rw [List.getElem?_eq_none h'] at h; cases h
  obtain ⟨t, ht⟩ := hi.get i ns[i] (List.getElem?_eq_getElem hlt)
  rw [h] at ht
  exact ⟨ns[i], t, Option.some.inj ht, List.getElem?_eq_getElem hlt⟩

theorem cd_back {w : World} {mg mb : PySem.Str → Option Value} {h : Heap} (O : Ok w mg mb h) : h.CodeRec (.ref 74) "_law_back" := ⟨74, _, _, _, rfl, O.K 74 _ rfl, rfl, rfl⟩

theorem call_back {w : World} {mg mb : PySem.Str → Option Value} {A : Around} {R : Result → Shared → Prop} {s : Shared} {img : List Nat} {t₀ : Tok} {l : Addr} {vs : List Value} {c0 : Int} {cs : List Int} (O : Ok w mg mb s.heap) (hroom : A.depth + 3 < recursionLimit) (hh : A.handled = none)
    (hl : s.heap.IsList l vs.toArray) (hi : IntsAre vs (c0 :: cs)) (hlen : img.length ≤ 1000) (hcl : cs.length ≤ 900)
    (h0 : 0 ∉ c0 :: sizesOf (c0 :: cs)) (h127 : 127 ∉ c0 :: sizesOf (c0 :: cs)) {HS : List Int} (hb : bLoop img 0 0 (c0 :: sizesOf (c0 :: cs)) [] = some HS)
    (h : ∀ s' c ws k, Ret s s' → s'.heap.get? c = some (lob ws k) → s.heap.get? c = none → IntsAre ws HS → R (.ok (.ret (.ref c))) s') : codeAny (model PR w) A (.call (.ref 75) ⟨[.str (S img) t₀, .ref l], []⟩) R s := by
  refine call_plain_ret (a := 75) (cd := .ref 74) (binds := [("image", .str (S img) t₀), ("counts", .ref l)]) (by omega) (O.K 75 _ rfl) rfl O.lim (cd_back O) rfl (locs rfl) ?_
  intro h₁ F
  have H : At s s.heap.objs.size (fun x => List.lookup x [(Str.ofString "image", Value.str (S img) t₀), (Str.ofString "counts", Value.ref l)].reverse) [] { s with heap := h₁, toks := s.toks + [(Str.ofString "image", Value.str (S img) t₀), (Str.ofString "counts", Value.ref l)].length } := ⟨F, News.nil, ⟨F.keep, fun _ _ e => e, fun e => e, rfl⟩⟩
  generalize { s with heap := h₁, toks := s.toks + [(Str.ofString "image", Value.str (S img) t₀), (Str.ofString "counts", Value.ref l)].length } = s₁ at H
  have hm : (fun x => List.lookup x [(Str.ofString "image", Value.str (S img) t₀), (Str.ofString "counts", Value.ref l)].reverse) (Str.ofString "image") = some (Value.str (S img) t₀) := rfl
  have hm' : (fun x => List.lookup x [(Str.ofString "image", Value.str (S img) t₀), (Str.ofString "counts", Value.ref l)].reverse) (Str.ofString "counts") = some (Value.ref l) := rfl
  generalize (fun x => List.lookup x [(Str.ofString "image", Value.str (S img) t₀), (Str.ofString "counts", Value.ref l)].reverse) = m at H hm hm'
  have hLl : l ≠ s.heap.objs.size := by obtain ⟨o, ho, _⟩ := hl; exact Nat.ne_of_lt (Heap.lt_size ho)
  have hl0 : ∃ o, s.heap.get? l = some o := by obtain ⟨o, ho, _⟩ := hl; exact ⟨o, ho⟩
  have hLs : s.heap.objs.size = s.heap.objs.size := rfl
  generalize hLe : s.heap.objs.size = L at H hLl ⊢
  generalize hB : A.deeper _ = B
  have hhB : B.handled = none := by rw [← hB]; exact hh
  have hdB : B.depth + 2 < recursionLimit := by rw [← hB, depth_deeper]; omega
  have hvl : vs.length = cs.length + 1 := by have := hi.length; simpa using this
  -- sizes = [counts[0]] + [..]
  refine wpAny_execs_cons (wpAny_Assign_Name (wpAny_BinOp (a_list1 (Subscript_ (a_name H hm' (a_int H fun t₁ s₁ H => a_litem (H.F.lst hl) hi (by decide) (by decide) rfl fun t₂ => ⟨m, [], H, fun c1 s₂ hoff1 H => ?_⟩))))))
  refine a_ListComp (s₀ := s) (L := L) (c_type2 (T := "zip") (a_glb O H (gn_zip w) boot_zip ⟨rfl, rfl⟩) (a_name H hm' (Subscript_ (a_name H hm' (wpAny_Slice (evalPart_some_step (a_int H fun t₃ s₃ H => evalPart_none_step (evalPart_none_step (a_slice_sn H (H.F.lst hl) hi (by decide) (by omega) fun c2 ws s₄ hoff2 H hws => ?_)))))))))
  have hl1 := H.F.lst hl
  have hl2 : s₄.heap.IsList c2 ws.toArray := H.isList
  obtain ⟨o2, ho2, _⟩ := id hl2
  obtain ⟨o1, ho1, _⟩ := id hl1
  have lt1 : l < s₄.heap.objs.size := Heap.lt_size ho1
  have lt2 : c2 < s₄.heap.objs.size := Heap.lt_size ho2
  have ltL : L < s₄.heap.objs.size := H.F.ns.lt
  have ab : s.heap.objs.size ≤ s₄.heap.objs.size := Nat.le_trans H.F.above (Nat.le_of_lt ltL)
  have off4 : ∀ p ∈ [(c2, lob ws 0), (c1, lob [Value.int c0 t₂] 0)], p.1 < s₄.heap.objs.size := fun p hp => Heap.lt_size (H.N p hp).1
  refine call_zip_2 hl1 hl2 fun h' hz hTI hTO hit1 hit2 hsz hk => ?_
  have H := H.keep (k := s₄.toks) hk
  refine wpAny_pyIter_zip (s := { s₄ with heap := h' }) hz ?_
  have D := zip_apart _ _ _ lt1 lt2
  have wr0 := zip_above s₄.heap.objs.size
  have hnl : (min vs.toArray.size ws.toArray.size) = (sizesOf (c0 :: cs)).length := by
    have := hws.length
    simp only [List.size_toArray, sizesOf, List.length_zipWith]
    rw [hvl, this]; rfl
  refine compT (WalksT.zip2 hhB _ _ _ _ _ l c2 D vs.toArray ws.toArray) (fun i xs => IntsAre xs ((sizesOf (c0 :: cs)).take i)) H hhB ⟨hz, hTI, ⟨_, _, hTO⟩, hit1, hit2, hl1.at fun o e => hk _ _ e, hl2.at fun o e => hk _ _ e⟩ ?_ ?_ ?_ ?_ ?_ .nil ?_ ?_
  · intro b hb
    simp at hb
    rcases hb with rfl | rfl | rfl | rfl | rfl | rfl | rfl
    · exact ⟨_, hz⟩
    · exact ⟨_, hTI⟩
    · exact ⟨_, hTO⟩
    · obtain ⟨o, e, _⟩ := hit1; exact ⟨o, e⟩
    · obtain ⟨o, e, _⟩ := hit2; exact ⟨o, e⟩
    · exact ⟨_, hk _ _ ho1⟩
    · exact ⟨_, hk _ _ ho2⟩
  · exact fun hb => absurd (wr0 _ hb) (Nat.not_le.mpr ltL)
  · exact fun b hb => Heap.get?_none_of_le (Nat.le_trans ab (wr0 _ hb))
  · exact fun p hp hb => absurd (wr0 _ hb) (Nat.not_le.mpr (off4 p hp))
  · rw [hnl]; simp [sizesOf]; omega
  · rintro i vals xs hin ⟨x, y, hx, hy, rfl⟩ hP
    refine ⟨x, y, rfl, fun C mC newsC s₅ H₅ m1 m2 => ?_⟩
    obtain ⟨n1, t1, rfl, hn1⟩ := ints_at hi (i := i) (by simpa using hx)
    obtain ⟨n2, t2, rfl, hn2⟩ := ints_at hws (i := i) (by simpa using hy)
    refine wpAny_BinOp (v_name H₅ m1 (v_name H₅ m2 (P.add_int ⟨⟨_, rfl⟩, ?_⟩)))
    exact zip_ints (ns := c0 :: cs) (ms := (c0 :: cs).drop 1) i hP hn1 hn2
  · intro D2 xs hP hoffD s₅ H
    rw [hnl, List.take_length] at hP
    have hxl : xs.length ≤ 901 := by rw [hP.length]; simp [sizesOf]; omega
    have hS : IntsAre ([Value.int c0 t₂] ++ xs) (c0 :: sizesOf (c0 :: cs)) := .cons _ _ hP
    refine a_addL H ⟨_, (H.N (c1, _) (.tail _ (.tail _ (.head _)))).1, rfl, 0, rfl⟩ H.isList (by simp; omega) fun c3 s₆ hoff3 H => ?_
    generalize hSv : [Value.int c0 t₂] ++ xs = svs at H hS
    have hsl : svs.length ≤ 902 := by rw [← hSv]; simp; omega
    generalize c0 :: sizesOf (c0 :: cs) = sz0 at h0 h127 hb hS
    replace H : At s L m [(c3, lob svs 0)] s₆ := H.led (fun p hp => by rw [List.mem_singleton.mp hp]; exact .head _)
    refine a_store H fun s₇ H => ?_
    show wpAny _ _ (execs _ _) _ _ _
    refine wpAny_execs_cons (wpAny_Assign_Name (a_nil H fun hc s₇ hoffh H => a_store H fun s₇ H => ?_))
    refine wpAny_execs_cons (wpAny_Assign_Name (a_int H fun tp s₇ H => a_store H fun s₇ H => ?_))
    refine wpAny_execs_cons (wpAny_For (c_type1 (a_glb O H (gn_enumerate w) boot_enumerate ⟨rfl, rfl⟩) (c_fun1 (f := 21) rfl rfl (a_gl O H (gn_grouping w) ⟨rfl, rfl⟩) ?_)))
    refine wpAny_BinOp (a_name H (by walk_at "m.look") (a_list1 (a_int H fun t7 s₈ H => ⟨_, _, H, fun c4 s₈ hoff4 H => ?_⟩)))
    refine a_addL H ⟨_, (H.N (c3, _) (.tail _ (.tail _ (.head _)))).1, rfl, 0, rfl⟩ H.isList (by simp; omega) fun c5 s₉ hoff5 H => ?_
    refine ⟨(O.keeps H.F.keep).K, ?_⟩
    have off5 : Off c5 [(hc, lob [] 0)] := fun p hp => by rw [List.mem_singleton.mp hp]; exact hoff5 _ (.tail _ (.head _))
    replace H := H.led (news' := [(c5, lob (svs ++ [Value.int 127 t7]) 0), (hc, lob [] 0)]) (fun p hp => by
      rcases List.mem_cons.mp hp with rfl | hp
      · exact .head _
      · rw [List.mem_singleton.mp hp]; exact .tail _ (.tail _ (.head _)))
    refine call_group (A' := B.in1.in1) (L := L) (led := [(hc, lob [] 0)]) O H (by omega) hhB (hS.append (.cons _ _ .nil)) h0 h127 off5 fun a C g G s₁₀ ga oC mC gs X => ?_
    refine call_enumG (X.isGen _ (X.at'.N _ (.head _)).1) ?_
    have HE := X.at'.push { cls := .type "enumerate", data := .fields #[.none, .bool false, .ref a, rawInt 0, .none, .none] } (k := s₁₀.toks)
    have hoe := X.at'.off_size
    generalize s₁₀.heap.objs.size = e at HE hoe ⊢
    have he : IsEnum (s₁₀.heap.push { cls := .type "enumerate", data := .fields #[.none, .bool false, .ref a, rawInt 0, .none, .none] }) e a (0 : Nat) .none := (HE.N _ (.head _)).1
    refine wpAny_pyIter_enum he ?_
    obtain ⟨eo, heo⟩ : ∃ eo, eo = ({ cls := .type "enumerate", data := .fields #[.none, .bool false, .ref a, rawInt 0, .none, .none] } : Obj) := ⟨_, rfl⟩
    rw [← heo] at HE he ⊢
    have X₀ := X.relead (led' := [(e, eo), (hc, lob [] 0)]) (HE.led (fun p hp => by
      rcases List.mem_cons.mp hp with rfl | hp
      · exact .tail _ (.head _)
      · rcases List.mem_cons.mp hp with rfl | hp
        · exact .tail _ (.tail _ (.head _))
        · rcases List.mem_append.mp hp with hp | hp
          · exact .tail _ (.tail _ (.tail _ (List.mem_append_left _ hp)))
          · rcases List.mem_cons.mp hp with rfl | hp
            · exact .head _
            · exact .tail _ (.tail _ (.tail _ (List.mem_append_right _ hp))))) (fun q hq => by
      rcases List.mem_cons.mp hq with rfl | hq
      · exact .inr ⟨fun q => hoe _ (.head _) q.symm, fun q => hoe _ (.tail _ (.head _)) q.symm, fun p hp => hoe p (.tail _ (.tail _ (List.mem_append_left _ hp)))⟩
      · rw [List.mem_singleton.mp hq]; exact .inl ⟨_, .head _⟩)
    have hce : hc ≠ e := hoe (hc, lob [] 0) (.tail _ (.tail _ (List.mem_append_right _ (.head _))))
    refine codeAny_forLoop_any (fun k s' => ∃ lv pl rest hs hvs kk hc m G oC mC own gs oe old tp, k = rest.length ∧ Gn w B.in1.in1 s L m C a g (rest.map ispec) [(e, oe), (hc, lob hvs kk)] G s' ga oC mC own gs ∧ IsEnum s'.heap e a (lv : Nat) old ∧ hc ≠ e ∧ IntsAre hvs hs ∧ m "image" = some (.str (S img) t₀) ∧ m "heights" = some (.ref hc) ∧ m "place" = some (.int (pl : Nat) tp) ∧ pl ≤ img.length ∧ bLoop img lv pl rest hs = some HS)
      ?_ sz0.length ⟨0, 0, sz0, [], [], 0, hc, _, _, _, _, _, _, eo, _, tp, rfl, X₀, he, hce, .nil, by walk_at "m.look", by walk_at "m.look", by walk_at "m.look", Nat.zero_le _, hb⟩
    rintro k s₁₁ ⟨lv, pl, rest, hs, hvs, kk, hc, m, G, oC, mC, own, gs, oe, old, tp, rfl, X, he, hce, hI, hm1, hm2, hm3, hpl, hb⟩
    cases rest with
    | nil =>
      refine a_genEnumEnd O X hhB (by omega) he fun s₁₂ H => wpAny_execs_nil ?_
      show wpAny _ _ (execs _ _) _ _ _
      have hb : some (if pl = img.length then hs else []) = some HS := hb
      refine wpAny_execs_cons (wpAny_Return_some (IfExp_ (wpAny_isTrue_Compare1 (a_name H hm3 (c_builtin1 (a_glb O H (gn_len w) boot_len ⟨rfl, rfl⟩) (a_name H hm1 (a_lens H (by omega) fun t s₁₃ H => P.eq_int (wpAny_truthy_bool ?_))))))))
      by_cases c1 : pl = img.length
      · rw [if_pos c1] at hb
        rw [show ((pl : Int) == (img.length : Int)) = true by rw [c1]; exact beq_self_eq_true _]
        cases hb
        refine a_name H hm2 ?_
        have n := H.N (hc, _) (.tail _ (.head _))
        exact h _ hc hvs kk H.R n.1 n.2.2 hI
      · rw [if_neg c1] at hb
        rw [show ((pl : Int) == (img.length : Int)) = false from beq_eq_false_iff_ne.mpr (by omega)]
        cases hb
        refine a_nil H fun c₉ s₁₄ _ H => ?_
        have n := H.N _ (.head _)
        exact h _ c₉ [] 0 H.R n.1 n.2.2 .nil
    | cons sz r =>
      refine a_genEnumTurn (env := envOf (Str.ofString "_law_back") _ L 75 (.ref 74)) O X hhB (by omega) he (fun p hp => by rw [List.mem_singleton.mp hp]; exact hce) (fun k v ex oe' old' G' oC' mC' own' gs' s' hI' X' he' => ?_)
      obtain ⟨⟨ts, rfl⟩, rfl⟩ := hI'
      unfold bLoop at hb
      by_cases c1 : 0 ≤ sz ∧ pl + sz.toNat ≤ img.length
      · rw [if_pos c1] at hb
        cases hparts : parts ((img.drop pl).take sz.toNat) with
        | nil => rw [hparts] at hb; cases hb
        | cons b0 b =>
        rw [hparts] at hb
        dsimp only at hb
        by_cases c2 : (b0 :: b).length ≤ 1000 ∧ (b0 :: b).all (· ≤ 1000) = true ∧ hs.length ≤ 1000
        · rw [if_pos c2] at hb
          cases hin : bInner lv hs (if lv = 0 then List.replicate b0 0 else []) ((b0 :: b).map Int.ofNat) with
          | none => rw [hin] at hb; cases hb
          | some gf =>
          rw [hin] at hb
          dsimp only at hb
          have H := X'.at'
          have mhc : (hc, lob hvs kk) ∈ (a, ga) :: (C, oC') :: (own' ++ [(e, oe'), (hc, lob hvs kk)]) := .tail _ (.tail _ (List.mem_append_right _ (.tail _ (.head _))))
          have fin : ∀ gc gvs kg m' s'', At (mkG s G') L m' ((gc, lob gvs kg) :: ((a, ga) :: (C, oC') :: (own' ++ [(e, oe'), (hc, lob hvs kk)]))) s'' → Off gc ((a, ga) :: (C, oC') :: (own' ++ [(e, oe'), (hc, lob hvs kk)])) → IntsAre gvs gf → m' "image" = some (.str (S img) t₀) → m' "heights" = some (.ref gc) → (∃ tp', m' "place" = some (.int ((pl + sz.toNat : Nat) : Int) tp')) →
              ∃ mm, mm < (sz :: r).length ∧ ∃ lv pl rest hs hvs kk hc m G oC mC own gs oe old tp, mm = rest.length ∧ Gn w B.in1.in1 s L m C a g (rest.map ispec) [(e, oe), (hc, lob hvs kk)] G s'' ga oC mC own gs ∧ IsEnum s''.heap e a (lv : Nat) old ∧ hc ≠ e ∧ IntsAre hvs hs ∧ m "image" = some (.str (S img) t₀) ∧ m "heights" = some (.ref hc) ∧ m "place" = some (.int (pl : Nat) tp) ∧ pl ≤ img.length ∧ bLoop img lv pl rest hs = some HS := by
            rintro gc gvs kg m' s'' H'' offg hg i1 i2 ⟨tp', i3⟩
            have me : (e, oe') ∈ own' ++ [(e, oe'), (hc, lob hvs kk)] := List.mem_append_right _ (.head _)
            have eo' := (X'.at'.N _ (.tail _ (.tail _ me))).1
            have eo'' := (H''.N _ (.tail _ (.tail _ (.tail _ me)))).1
            have hen : IsEnum s''.heap e a ((lv + 1 : Nat) : Int) old' := by
              have q : oe' = _ := Option.some.inj (eo'.symm.trans he')
              rw [q] at eo''; exact eo''
            refine ⟨r.length, Nat.lt_succ_self _, lv + 1, pl + sz.toNat, r, gf, gvs, kg, gc, m', G', oC', mC', own', gs', oe', old', tp', rfl, X'.relead (led' := [(e, oe'), (gc, lob gvs kg)]) (H''.led fun p hp => ?_) (fun q hq => ?_), hen, ?_, hg, i1, i2, i3, c1.2, hb⟩
            · rcases List.mem_cons.mp hp with rfl | hp
              · exact .tail _ (.head _)
              · rcases List.mem_cons.mp hp with rfl | hp
                · exact .tail _ (.tail _ (.head _))
                · rcases List.mem_append.mp hp with hp | hp
                  · exact .tail _ (.tail _ (.tail _ (List.mem_append_left _ hp)))
                  · rcases List.mem_cons.mp hp with rfl | hp
                    · exact .tail _ (.tail _ (.tail _ me))
                    · rw [List.mem_singleton.mp hp]; exact .head _
            · rcases List.mem_cons.mp hq with rfl | hq
              · exact .inl ⟨_, .head _⟩
              · rw [List.mem_singleton.mp hq]
                exact .inr ⟨fun q => offg _ (.head _) q.symm, fun q => offg _ (.tail _ (.head _)) q.symm, fun p hp => offg p (.tail _ (.tail _ (List.mem_append_left _ hp)))⟩
            · exact fun q => offg _ (.tail _ (.tail _ me)) q.symm
          have n1 : upd (upd m (Str.ofString "level") (.int (lv : Int) k)) (Str.ofString "size") (.int sz ts) "image" = some (.str (S img) t₀) := by walk_at "m.look"
          have n2 : upd (upd m (Str.ofString "level") (.int (lv : Int) k)) (Str.ofString "size") (.int sz ts) "heights" = some (.ref hc) := by walk_at "m.look"
          have n3 : upd (upd m (Str.ofString "level") (.int (lv : Int) k)) (Str.ofString "size") (.int sz ts) "place" = some (.int (pl : Nat) tp) := by walk_at "m.look"
          have n4 : upd (upd m (Str.ofString "level") (.int (lv : Int) k)) (Str.ofString "size") (.int sz ts) "level" = some (.int (lv : Int) k) := by walk_at "m.look"
          have n5 : upd (upd m (Str.ofString "level") (.int (lv : Int) k)) (Str.ofString "size") (.int sz ts) "size" = some (.int sz ts) := by walk_at "m.look"
          generalize upd (upd m (Str.ofString "level") (.int (lv : Int) k)) (Str.ofString "size") (.int sz ts) = m at H n1 n2 n3 n4 n5
          generalize ((a, ga) :: (C, oC') :: (own' ++ [(e, oe'), (hc, lob hvs kk)])) = base at H mhc fin
          clear X X' hm1 hm2 hm3 he he'
          -- behind
          refine wpAny_execs_cons (a_AssignComp (s₀ := mkG s G') (L := L) (a_Split (s₀ := mkG s G') (L := L) (Subscript_ (a_name H n1 (wpAny_Slice (evalPart_some_step (a_name H n3 (evalPart_some_step (wpAny_BinOp (a_name H n3 (a_name H n5 (a_add H fun t s₁₂ H => evalPart_none_step (a_slice_ss H ⟨by omega, by omega, by omega⟩ (by omega) fun t s₁₃ H => ?_)))))))))))))
          rw [show ((pl : Int) + sz - (pl : Int)) = sz by omega, show ((pl : Nat) : Int).toNat = pl from rfl]
          have hsegl : ((img.drop pl).take sz.toNat).length ≤ 1000 := by rw [List.length_take, List.length_drop]; omega
          generalize (img.drop pl).take sz.toNat = seg at hparts hsegl ⊢
          refine ⟨seg, t, rfl, a_str H S_close fun u s₁₄ H => ⟨u, _, _, rfl, H, by omega, fun c1 ps s₁₅ offc1 H hps => ?_⟩⟩
          have hplen : ps.length = (b0 :: b).length := by
            rw [← hparts, parts, ← hps]; simp
          have hpi : ∀ (i : Nat) p, ps[i]? = some p → ((b0 :: b).map Int.ofNat)[i]? = some (p.1.length : Int) := fun i p hp => by
            rw [← hparts, parts, ← hps]; simp [hp]
          have hpb : ∀ (i : Nat) p, ps[i]? = some p → p.1.length ≤ 1000 := fun i p hp => by
            have : p.1.length ∈ b0 :: b := by
              rw [← hparts, parts, ← hps]
              simp only [List.map_map, List.mem_map]
              exact ⟨p, List.mem_of_getElem? hp, rfl⟩
            have := List.all_eq_true.mp c2.2.1 _ this
            simpa using this
          refine wpAny_pyIter_list H.isList ?_
          have HK := H.keep (h := s₁₅.heap.push { cls := .type "list_iterator", data := .fields #[.ref c1, .int 0 0] }) (k := s₁₅.toks) fun b o e => Heap.get?_push_of_some _ e
          have hIget : (s₁₅.heap.push { cls := .type "list_iterator", data := .fields #[.ref c1, .int 0 0] }).get? s₁₅.heap.objs.size = some { cls := .type "list_iterator", data := .fields #[.ref c1, .int 0 0] } := Heap.get?_push_size _ rfl
          have hIoff := H.off_size
          obtain ⟨hIL, hI0, _⟩ := H.newer (Nat.le_refl s₁₅.heap.objs.size)
          generalize s₁₅.heap.objs.size = I at hIget hIoff hIL hI0 ⊢
          refine compN (Walks.list hhB I c1 (hIoff _ (.head _)) (strValues ps).toArray) (fun i xs => IntsAre xs (((b0 :: b).map Int.ofNat).take i)) HK ⟨⟨_, hIget, rfl, rfl⟩, ⟨_, (HK.N _ (.head _)).1, rfl, 0, rfl⟩⟩ ?_ ?_ ?_ ?_ ?_ .nil ?_ ?_
          · intro b hb
            rcases List.mem_cons.mp hb with rfl | hb
            · exact ⟨_, hIget⟩
            · rw [List.mem_singleton.mp hb]; exact ⟨_, (HK.N _ (.head _)).1⟩
          · exact fun hb => hIL (List.mem_singleton.mp hb).symm
          · exact fun b hb => by rw [List.mem_singleton.mp hb]; exact hI0
          · exact fun p hp hb => hIoff p hp (List.mem_singleton.mp hb)
          · have := c2.1; rw [List.size_toArray, strValues, List.length_map, hplen]; exact this
          · rintro i v xs hlt hPv hP C₂ mC₂ newsC s₅ H₅ m1
            obtain ⟨p, hp, rfl⟩ : ∃ p, ps[i]? = some p ∧ Value.str p.1 p.2 = v := by simpa [strValues] using hPv
            refine c_builtin1 (v_glb (s₀ := mkG s G') O H₅ (gn_len w) boot_len ⟨rfl, rfl⟩) (v_name H₅ m1 (P.len_str (by have := hpb i p hp; omega) ⟨⟨_, rfl⟩, ?_⟩))
            rw [List.take_add_one, hpi i p hp]
            exact hP.append (.cons _ _ .nil)
          intro D xs hP offD s₁₆ H
          have hnn : (strValues ps).toArray.size = (b0 :: b).length := by rw [List.size_toArray, strValues, List.length_map, hplen]
          rw [hnn] at hP H
          rw [show (b0 :: b).length = ((b0 :: b).map Int.ofNat).length by simp, List.take_length] at hP
          generalize (b0 :: b).length = nn at H
          show wpAny _ _ (execs _ _) _ _ _
          have mD : (D, lob xs nn) ∈ (D, lob xs nn) :: (c1, lob (strValues ps) 0) :: base := .head _
          have mb : ∀ p ∈ base, p ∈ (D, lob xs nn) :: (c1, lob (strValues ps) 0) :: base := fun p hp => .tail _ (.tail _ hp)
          generalize (D, lob xs nn) :: (c1, lob (strValues ps) 0) :: base = led1 at H mD mb
          refine wpAny_execs_cons (wpAny_AugAssign_Name (a_load H (by walk_at "m.look") (a_name H (by walk_at "m.look") (a_iadd H fun t s₁₆ H => a_store H fun s₁₆ H => ?_))))
          rw [show (pl : Int) + sz = ((pl + sz.toNat : Nat) : Int) by omega] at H
          show wpAny _ _ (execs _ _) _ _ _
          refine wpAny_execs_cons (wpAny_mono (Q := fun f s₁₇ => f = .next ∧ ∃ gc gvs kg m', At (mkG s G') L m' ((gc, lob gvs kg) :: led1) s₁₇ ∧ Off gc led1 ∧ IntsAre gvs (if lv = 0 then List.replicate b0 0 else []) ∧
            m' "image" = some (.str (S img) t₀) ∧ m' "heights" = some (.ref hc) ∧ (∃ t, m' "place" = some (.int ((pl + sz.toNat : Nat) : Int) t)) ∧ m' "level" = some (.int (lv : Int) k) ∧ m' "behind" = some (.ref D) ∧ m' "grown" = some (.ref gc)) ?_ (fun f s₁₇ hq => ?_) fun _ _ e => e)
          · refine wpAny_Assign_Name (IfExp_ (wpAny_isTrue_Compare1 (a_name H (by walk_at "m.look") (a_int H fun t s₁₇ H => P.eq_int (wpAny_truthy_bool ?_)))))
            by_cases c3 : lv = 0
            · rw [show ((lv : Int) == 0) = true by rw [c3]; rfl, if_pos c3]
              refine wpAny_BinOp (a_list1 (a_int H fun t s₁₇ H => ⟨_, _, H, fun c7 s₁₇ off2 H => ?_⟩))
              refine Subscript_ (a_name H (by walk_at "m.look") (a_int H fun t5 s₁₇ H => a_litem (n := Int.ofNat b0) ⟨_, (H.N (D, lob xs nn) (.tail _ mD)).1, rfl, nn, rfl⟩ hP (by decide) (by decide) rfl fun t6 => ?_))
              have hb0 : b0 ≤ 1000 := by
                have := List.all_eq_true.mp c2.2.1 b0 (.head _)
                simpa using this
              refine a_mulL H (by show (-1000 : Int) ≤ (b0 : Int); omega) (by show (b0 : Int) ≤ 1000; omega) fun c3 s₁₇ off3 H => a_store H fun s₁₇ H => ⟨rfl, c3, List.replicate b0 (Value.int 0 t), 0, _, H.led (news' := (c3, lob (List.replicate b0 (Value.int 0 t)) 0) :: led1) fun p hp => ?_, fun p hp => off3 p (.tail _ hp), ints_rep _ _ _, by walk_at "m.look", by walk_at "m.look", ⟨_, by walk_at "m.look"⟩, by walk_at "m.look", by walk_at "m.look", by walk_at "m.look"⟩
              rcases List.mem_cons.mp hp with rfl | hp
              · exact .head _
              · exact .tail _ (.tail _ hp)
            · rw [show ((lv : Int) == 0) = false from beq_eq_false_iff_ne.mpr (by omega), if_neg c3]
              exact a_nil H fun c3 s₁₇ off3 H => a_store H fun s₁₇ H => ⟨rfl, c3, _, 0, _, H, off3, .nil, by walk_at "m.look", by walk_at "m.look", ⟨_, by walk_at "m.look"⟩, by walk_at "m.look", by walk_at "m.look", by walk_at "m.look"⟩
          obtain ⟨rfl, gc, gvs, kg, m', H, offg, hG, i1, i2, i3, i4, i5, i6⟩ := hq
          show wpAny _ _ (execs _ _) _ _ _
          refine wpAny_execs_cons (wpAny_For (a_name H i2 ?_))
          have hbl : ((b0 :: b).map Int.ofNat).length ≤ 1000 := by rw [List.length_map]; exact c2.1
          have m1hc : (hc, lob hvs kk) ∈ led1 := mb _ mhc
          clear hpi hpb hps hplen hnn
          generalize (b0 :: b).map Int.ofNat = bs at hP hin hbl
          refine forL H hhB hI (fun i m₁ news₁ => ∃ gc gvs kg g bc bvs kb b, ∃ rest : List (Addr × Obj), news₁ = (gc, lob gvs kg) :: rest ∧ (∀ p ∈ led1, p ∈ rest) ∧ Off gc rest ∧ (bc, lob bvs kb) ∈ rest ∧ IntsAre gvs g ∧ IntsAre bvs b ∧ b.length ≤ 1000 ∧
            m₁ "image" = some (.str (S img) t₀) ∧ m₁ "heights" = some (.ref hc) ∧ (∃ t, m₁ "place" = some (.int ((pl + sz.toNat : Nat) : Int) t)) ∧ m₁ "level" = some (.int (lv : Int) k) ∧ m₁ "behind" = some (.ref bc) ∧ m₁ "grown" = some (.ref gc) ∧ bInner lv (hs.drop i) g b = some gf)
            ⟨lob hvs kk, ⟨rfl, kk, rfl⟩, ?_⟩ ⟨gc, gvs, kg, _, D, xs, nn, bs, led1, rfl, fun p hp => hp, offg, mD, hG, hP, hbl, i1, i2, i3, i4, i5, i6, hin⟩ ?_ ?_
          · rintro i m₁ _ s₁ ⟨gc, gvs, kg, g, bc, bvs, kb, b, rest, rfl, hsub, _⟩ H
            exact (H.N (hc, lob hvs kk) (.tail _ (hsub _ m1hc))).1
          · rintro i n t m₁ _ I o s₁ hn ⟨gc, gvs, kg, g, bc, bvs, kb, b, rest, rfl, hsub, offg, mbc, hG, hbI, hbl, i1, i2, ⟨tp, i3⟩, i4, i5, i6, hin⟩ offI H
            have hil : i < hs.length := by
              rcases Nat.lt_or_ge i hs.length with h' | h'
              · exact h'
              · rw [List.getElem?_eq_none h'] at hn; cases hn
            have hdr : hs.drop i = n :: hs.drop (i + 1) := by
              rw [List.drop_eq_getElem_cons hil]
              rw [List.getElem?_eq_getElem hil] at hn
              rw [Option.some.inj hn]
            rw [hdr] at hin
            unfold bInner at hin
            by_cases c4 : 1000 < g.length
            · rw [if_pos c4] at hin; cases hin
            rw [if_neg c4] at hin
            have hgl := hG.length
            have hgI : gc ≠ I := offI _ (.head _)
            have hbI' : bc ≠ I := offI _ (.tail _ mbc)
            have Hs : At (mkG s G') L _ ((gc, lob gvs kg) :: (I, o) :: rest) s₁ := H.led fun p hp => by
              rcases List.mem_cons.mp hp with rfl | hp
              · exact .tail _ (.head _)
              · rcases List.mem_cons.mp hp with rfl | hp
                · exact .head _
                · exact .tail _ (.tail _ hp)
            have offg' : Off gc ((I, o) :: rest) := fun p hp => by
              rcases List.mem_cons.mp hp with rfl | hp
              · exact fun q => hgI q.symm
              · exact offg p hp
            refine wpAny_execs_cons (a_Append Hs offg' (by omega) (by walk_at "m.look") (a_name Hs (by walk_at "m.look") ⟨Hs, fun s₂ H => ?_⟩))
            show wpAny _ _ (execs _ _) _ _ _
            refine wpAny_execs_cons (wpAny_If (wpAny_isTrue_Compare1 (a_name H (by walk_at "m.look") (wpAny_BinOp (a_name H (by walk_at "m.look") (a_int H fun t9 s₂ H => a_sub H fun t9 s₂ H => P.eq_int (wpAny_truthy_bool ?_)))))))
            by_cases c5 : n = (lv : Int) - 1
            · rw [show (n == (lv : Int) - 1) = true by rw [c5]; exact beq_self_eq_true _] at hin ⊢
              simp only [if_true] at hin
              cases b with
              | nil => cases hin
              | cons y b =>
              cases b with
              | nil => cases hin
              | cons x b =>
              dsimp only at hin
              by_cases c6 : 0 ≤ x ∧ x ≤ 1000
              · rw [if_pos c6] at hin
                refine wpAny_execs_cons (wpAny_Assign_Name (Subscript_ (a_name H (by walk_at "m.look") (wpAny_Slice (evalPart_some_step (a_int H fun t9 s₃ H => evalPart_none_step (evalPart_none_step (a_slice_sn H ⟨_, (H.N (bc, lob bvs kb) (.tail _ (.tail _ mbc))).1, rfl, kb, rfl⟩ hbI (by decide) (by have := hbI.length; omega) fun c8 ws s₃ off8 H hws => a_store H fun s₃ H => ?_))))))))
                replace hws : IntsAre ws (x :: b) := hws
                show wpAny _ _ (execs _ _) _ _ _
                have Hs : At (mkG s G') L _ ((gc, lob (gvs ++ [Value.int n t]) (kg + 1)) :: (c8, lob ws 0) :: (I, o) :: rest) s₃ := H.led fun p hp => by
                  rcases List.mem_cons.mp hp with rfl | hp
                  · exact .tail _ (.head _)
                  · rcases List.mem_cons.mp hp with rfl | hp
                    · exact .head _
                    · exact .tail _ (.tail _ hp)
                have h8g : gc ≠ c8 := off8 (gc, lob (gvs ++ [Value.int n t]) (kg + 1)) (.head _)
                have h8I : I ≠ c8 := off8 (I, o) (.tail _ (.head _))
                refine wpAny_execs_cons (a_Extend Hs (by walk_at "m.look") (wpAny_BinOp (a_list1 (a_name Hs (by walk_at "m.look") ⟨_, _, Hs, fun c9 s₄ off9 H => ?_⟩))))
                refine Subscript_ (a_name H (by walk_at "m.look") (a_int H fun t9 s₄ H => a_litem (n := x) ⟨_, (H.N (c8, lob ws 0) (.tail _ (.tail _ (.head _)))).1, rfl, 0, rfl⟩ hws (by decide) (by decide) rfl fun t9 => ?_))
                refine a_mulL H (by omega) (by omega) fun c10 s₄ off10 H => ?_
                refine ⟨c10, List.replicate x.toNat (Value.int lv k), 0, (c10, lob (List.replicate x.toNat (Value.int lv k)) 0) :: (c8, lob ws 0) :: (I, o) :: rest, rfl, H.led fun p hp => ?_, .head _, fun p hp => ?_, ?_, fun s₅ kx H => ?_⟩
                · rcases List.mem_cons.mp hp with rfl | hp
                  · exact .tail _ (.tail _ (.head _))
                  · rcases List.mem_cons.mp hp with rfl | hp
                    · exact .head _
                    · exact .tail _ (.tail _ (.tail _ hp))
                · rcases List.mem_cons.mp hp with rfl | hp
                  · exact fun q => off10 _ (.tail _ (.head _)) q.symm
                  · rcases List.mem_cons.mp hp with rfl | hp
                    · exact fun q => h8g q.symm
                    · exact offg' p hp
                · simp; omega
                · show wpAny _ _ (execs _ _) _ _ _
                  refine wpAny_execs_nil (wpAny_execs_nil ⟨_, (gc, lob ((gvs ++ [Value.int n t]) ++ List.replicate x.toNat (Value.int lv k)) kx) :: (c8, lob ws 0) :: rest, H.led fun p hp => ?_, fun p hp => ?_,
                    gc, _, kx, _, c8, ws, 0, x :: b, (c8, lob ws 0) :: rest, rfl, fun p hp => .tail _ (hsub p hp), fun p hp => ?_, .head _, (hG.append (.cons _ _ .nil)).append (ints_rep _ _ _), hws, by simp at hbl ⊢; omega, by walk_at "m.look", by walk_at "m.look", ⟨tp, by walk_at "m.look"⟩, by walk_at "m.look", by walk_at "m.look", by walk_at "m.look", hin⟩)
                  · rcases List.mem_cons.mp hp with rfl | hp
                    · exact .tail _ (.tail _ (.tail _ (.head _)))
                    · rcases List.mem_cons.mp hp with rfl | hp
                      · exact .head _
                      · rcases List.mem_cons.mp hp with rfl | hp
                        · exact .tail _ (.tail _ (.head _))
                        · exact .tail _ (.tail _ (.tail _ (.tail _ hp)))
                  · rcases List.mem_cons.mp hp with rfl | hp
                    · exact hgI
                    · rcases List.mem_cons.mp hp with rfl | hp
                      · exact fun q => h8I q.symm
                      · exact offI p (.tail _ hp)
                  · rcases List.mem_cons.mp hp with rfl | hp
                    · exact fun q => h8g q.symm
                    · exact offg p hp
              · rw [if_neg c6] at hin; cases hin
            · rw [show (n == (lv : Int) - 1) = false from beq_eq_false_iff_ne.mpr c5] at hin ⊢
              simp only [Bool.false_eq_true, if_false] at hin
              refine wpAny_execs_nil (wpAny_execs_nil ⟨_, (gc, lob (gvs ++ [Value.int n t]) (kg + 1)) :: rest, H.led fun p hp => ?_, fun p hp => ?_,
                gc, _, kg + 1, _, bc, bvs, kb, b, rest, rfl, hsub, offg, mbc, hG.append (.cons _ _ .nil), hbI, hbl, by walk_at "m.look", by walk_at "m.look", ⟨tp, by walk_at "m.look"⟩, by walk_at "m.look", by walk_at "m.look", by walk_at "m.look", hin⟩)
              · rcases List.mem_cons.mp hp with rfl | hp
                · exact .tail _ (.head _)
                · rcases List.mem_cons.mp hp with rfl | hp
                  · exact .head _
                  · exact .tail _ (.tail _ hp)
              · rcases List.mem_cons.mp hp with rfl | hp
                · exact hgI
                · exact offI p (.tail _ hp)
          · rintro m₁ _ s₁ ⟨gc, gvs, kg, g, bc, bvs, kb, b, rest, rfl, hsub, offg, mbc, hG, hbI, hbl, i1, i2, ⟨tp, i3⟩, i4, i5, i6, hin⟩ H
            rw [List.drop_length] at hin
            have hin : some g = some gf := hin
            cases hin
            show wpAny _ _ (execs _ _) _ _ _
            refine wpAny_execs_cons (wpAny_Assign_Name (a_name H i6 (a_store H fun s₂ H => ?_)))
            refine wpAny_execs_nil (fin gc gvs kg _ _ (H.led fun p hp => ?_) (fun p hp => offg p (hsub p (mb p hp))) hG (by walk_at "m.look") (by walk_at "m.look") ⟨tp, by walk_at "m.look"⟩)
            rcases List.mem_cons.mp hp with rfl | hp
            · exact .head _
            · exact .tail _ (hsub p (mb p hp))
        · rw [if_neg c2] at hb; cases hb
      · rw [if_neg c1] at hb; cases hb
end Mine
end

section
open PySem PySem.Spec PySem.Calls PyProof.Rows PySem.W PySem.W.X
open Sem (wp)
namespace Mine

section
variable {w : World} {A : Around} {E : Value → Shared → Prop} {s₀ s : Shared} {L : Addr} {m mg mb : PySem.Str → Option Value} {news : List (Addr × Obj)} {env : Env}

theorem forWv {R : Result → Shared → Prop} {I : Addr} {fp : List Addr} {n : Nat} {P : Nat → Value → Prop} {St : Nat → Heap → Prop} {x : PySem.Str} {px : Pos} {body : List Stmt} {o : Obj}
    (W : Walks PR w A I fp [I] n P St) (hex : ∀ i h, St i h → ∃ o, h.get? I = some o) (J : Nat → (PySem.Str → Option Value) → List (Addr × Obj) → Prop)
    (hfix : ∀ b ∈ fp, b ≠ I → ∃ o, ∀ i m₁ news₁ s₁, J i m₁ news₁ → At s₀ L m₁ news₁ s₁ → s₁.heap.get? b = some o)
    (H : At s₀ L m ((I, o) :: news) s) (hoff : Off I news) (hst : St 0 s.heap) (hj : J 0 m news)
    (turn : ∀ i v m₁ news₁ o s₁, i < n → P i v → J i m₁ news₁ → Off I news₁ → At s₀ L (upd m₁ x v) ((I, o) :: news₁) s₁ →
      wpAny (model PR w) A (execs body env) (fun f s₂ => match f with
        | .next | .cont => ∃ m₂ news₂, At s₀ L m₂ ((I, o) :: news₂) s₂ ∧ Off I news₂ ∧ J (i + 1) m₂ news₂
        | .brk => R (.ok .next) s₂
        | .ret v => R (.ok (.ret v)) s₂) (fun _ _ => False) s₁)
    (done : ∀ m₁ news₁ s₁, J n m₁ news₁ → At s₀ L m₁ news₁ s₁ → R (.ok .next) s₁)
    (hLe : env.locals = L := by rfl) (hl : env.kindOf x = some .local := by rfl) (hp : (env.scope.kind == .class || (env.scope.kind == .module && env.locals != env.globals)) = false := by rfl) :
    codeAny (model PR w) A (.forLoop (.Name x px) (.ref I) body [] env) R s := by
  refine loopW W (fun i s => ∃ m₁ news₁ o, At s₀ L m₁ ((I, o) :: news₁) s ∧ Off I news₁ ∧ St i s.heap ∧ J i m₁ news₁) ⟨m, news, o, H, hoff, hst, hj⟩ (fun i s h => h.choose_spec.choose_spec.choose_spec.2.2.1) ?_ ?_
  · rintro i v s h' tk hi ⟨m₁, news₁, o₁, H₁, hoff₁, hst₁, hj₁⟩ hP hst' hkp
    obtain ⟨o', ho'⟩ := hex _ _ hst'
    have H₂ : At s₀ L m₁ ((I, o') :: news₁) { s with heap := h', toks := tk } := H₁.step hoff₁ hkp ho'
    refine v_store H₂ (fun s₂ H₃ => ?_) hLe hl hp
    refine wpAny_mono (turn i v m₁ news₁ o' s₂ hi hP hj₁ hoff₁ H₃) (fun f s₃ hf => ?_) fun _ _ e => e
    have key : (∃ m₂ news₂, At s₀ L m₂ ((I, o') :: news₂) s₃ ∧ Off I news₂ ∧ J (i + 1) m₂ news₂) → (∃ m₁ news₁ o, At s₀ L m₁ ((I, o) :: news₁) s₃ ∧ Off I news₁ ∧ St (i + 1) s₃.heap ∧ J (i + 1) m₁ news₁) := by
      rintro ⟨m₂, news₂, H₄, hoff₂, hj₂⟩
      refine ⟨m₂, news₂, o', H₄, hoff₂, W.frame _ _ _ hst' fun b hb ob e => ?_, hj₂⟩
      by_cases hbI : b = I
      · subst hbI
        have : ob = o' := Option.some.inj (e.symm.trans ho')
        subst this
        exact (H₄.N _ (.head _)).1
      · obtain ⟨oc, hc⟩ := hfix b hb hbI
        have e1 := hc i m₁ news₁ _ hj₁ H₂.drop
        have e2 := hc (i + 1) m₂ news₂ _ hj₂ H₄.drop
        have : ob = oc := Option.some.inj (e.symm.trans e1)
        subst this
        exact e2
    cases f with
    | next => exact key hf
    | cont => exact key hf
    | brk => exact hf
    | ret v => exact hf
  · rintro s h' tk ⟨m₁, news₁, o₁, H₁, hoff₁, hst₁, hj₁⟩ hkp
    refine done m₁ news₁ _ hj₁ ⟨?_, ?_, ?_⟩
    · have nI := H₁.N (I, o₁) (.head _)
      exact ⟨H₁.F.ns.at fun x e => hkp L x (by simp; exact fun e => nI.2.1 e.symm) e, fun b x e => hkp b x (by simp; rintro rfl; exact absurd (nI.2.2.symm.trans e) (by simp)) (H₁.F.keep b x e), H₁.F.above⟩
    · intro p hp
      have np := H₁.N p (.tail _ hp)
      exact ⟨hkp _ _ (by simpa using hoff₁ p hp) np.1, np.2⟩
    · have nI := H₁.N (I, o₁) (.head _)
      exact ⟨fun b x e => hkp b x (by simp; rintro rfl; exact absurd (nI.2.2.symm.trans e) (by simp)) (H₁.F.keep b x e), H₁.R.gens, H₁.R.bare, H₁.R.os⟩

/-- for x in l, a list of ints that stays -/
theorem forLv {Q : Flow → Shared → Prop} {l : Addr} {vs : List Value} {ns : List Int} {x : PySem.Str} {px : Pos} {body : List Stmt}
    (H : At s₀ L m news s) (hh : A.handled = none) (hi : IntsAre vs ns) (J : Nat → (PySem.Str → Option Value) → List (Addr × Obj) → Prop)
    (hl : ∃ ol : Obj, (ol.cls = .type "list" ∧ ∃ n, ol.data = .seq vs.toArray n) ∧ ∀ i m₁ news₁ s₁, J i m₁ news₁ → At s₀ L m₁ news₁ s₁ → s₁.heap.get? l = some ol)
    (hj : J 0 m news)
    (turn : ∀ i n t m₁ news₁ I o s₁, ns[i]? = some n → J i m₁ news₁ → Off I news₁ → At s₀ L (upd m₁ x (.int n t)) ((I, o) :: news₁) s₁ →
      wpAny (model PR w) A (execs body env) (fun f s₂ => match f with
        | .next | .cont => ∃ m₂ news₂, At s₀ L m₂ ((I, o) :: news₂) s₂ ∧ Off I news₂ ∧ J (i + 1) m₂ news₂
        | .brk => Q .next s₂
        | .ret v => Q (.ret v) s₂) (fun _ _ => False) s₁)
    (done : ∀ m₁ news₁ s₁, J ns.length m₁ news₁ → At s₀ L m₁ news₁ s₁ → Q .next s₁)
    (hLe : env.locals = L := by rfl) (hlx : env.kindOf x = some .local := by rfl) (hp : (env.scope.kind == .class || (env.scope.kind == .module && env.locals != env.globals)) = false := by rfl) :
    wpAny (model PR w) A (pyIter (.ref l)) (fun it s₂ => codeAny (model PR w) A (.forLoop (.Name x px) it body [] env) (fun r s' => match r with | .ok f => Q f s' | .error e => cameBackBy (model PR w) A env E e s') s₂) E s := by
  obtain ⟨ol, ⟨hc, nn, hdat⟩, hfx⟩ := hl
  have ho := hfx 0 m news s hj H
  have hL : s.heap.IsList l vs.toArray := ⟨ol, ho, hc, nn, hdat⟩
  refine wpAny_pyIter_list hL ?_
  have hne : l ≠ s.heap.objs.size := Nat.ne_of_lt (Heap.lt_size ho)
  have W := Walks.list (prog := PR) (w := w) hh s.heap.objs.size l hne vs.toArray
  have hlen : vs.toArray.size = ns.length := by simp [hi.length]
  rw [hlen] at W
  -- the walk writes its own iterator alone
  refine forWv W (fun i h st => let ⟨⟨o, ho, _⟩, _⟩ := st; ⟨o, ho⟩) J ?_ (H.push _ (k := s.toks)) H.off_size ⟨⟨_, Heap.get?_push_size _ rfl, rfl, rfl⟩, hL.push _⟩ hj ?_ ?_ hLe hlx hp
  · intro b hb hbI
    rcases List.mem_cons.mp hb with rfl | hb
    · exact absurd rfl hbI
    · have : b = l := by simpa using hb
      subst this
      exact ⟨ol, hfx⟩
  · intro i v m₁ news₁ o s₁ hi' hP hj₁ hoff₁ H₁
    obtain ⟨t, hx⟩ := hi.get i ns[i] (by simp [hi'])
    have hv : v = .int ns[i] t := by
      have hP' : vs[i]? = some v := by simpa using hP
      rw [hx] at hP'; exact (Option.some.inj hP').symm
    subst hv
    exact turn i ns[i] t m₁ news₁ _ o s₁ (by simp [hi']) hj₁ hoff₁ H₁
  · exact done


theorem v_cell {x : PySem.Str} {pos : Pos} {c : Addr} {co : Obj} {v : Value} {Q : Value → Shared → Prop} (H : At s₀ L m news s) (hc : (c, co) ∈ news) (hd : co.data = .cell (some v)) (h : Q v s)
    (hk : env.scope.kind = .function := by rfl) (hl : env.kindOf x = some .cell := by rfl) (hcl : env.cells.lookup x = some c := by rfl) (hdd : (x == ("__debug__" : PySem.Str)) = false := by decide) :
    wpAny (model PR w) A (eval (.Name x pos) env) Q E s := wpAny_Name (wpAny_loadName_cell hk hl hcl ⟨co, (H.N _ hc).1, hd⟩ h) hdd
theorem v_storeCell {x : PySem.Str} {c : Addr} {co : Obj} {v₀ : Option Value} {v : Value} {Q : Unit → Shared → Prop} (H : At s₀ L m ((c, co) :: news) s) (hoff : Off c news) (hd : co.data = .cell v₀)
    (h : ∀ co' s', At s₀ L m ((c, co') :: news) s' → co'.data = .cell (some v) → Q () s')
    (hk : env.scope.kind = .function := by rfl) (hl : env.kindOf x = some .cell := by rfl) (hcl : env.cells.lookup x = some c := by rfl) :
    wpAny (model PR w) A (storeName env x v) Q E s :=
  wpAny_storeName_cell hk hl hcl ⟨co, (H.N _ (.head _)).1, hd⟩ fun h' hc hs => by
    obtain ⟨co', hco', hd'⟩ := hc
    exact h co' _ (H.step (h := h') (k := s.toks) hoff (fun b o hb e => hs.extBut b o (by simpa using hb) e) hco') hd'

/-- xs.append(e) as a statement, the list at the head of the ledger, the name however it is kept -/
theorem v_Append {c : Addr} {vs : List Value} {k : Nat} {x : PySem.Str} {np apos pos pos' : Pos} {e : Expr} {Q : Flow → Shared → Prop} (H : At s₀ L m ((c, lob vs k) :: news) s) (hoff : Off c news) (hsz : vs.length ≤ 1000000)
    (hv : wpAny (model PR w) A (eval (.Name x np) env) (fun v s₁ => v = .ref c ∧ s₁ = s) E s)
    (he : wpAny (model PR w) A (eval e env) (fun v s₁ => At s₀ L m ((c, lob vs k) :: news) s₁ ∧ ∀ s', At s₀ L m ((c, lob (vs ++ [v]) (k + 1)) :: news) s' → Q .next s') E s)
    (hs : starEach [e] env = [(false, eval e env)] := by rfl)
    (hm : eval (.Call (.Attribute (.Name x np) "append" apos) [e] [] pos) env = (do
      let ov ← eval (.Name x np) env
      standAt apos.atName
      let (f, first) ← holding [ov] (getMethod ov "append" (do return (← importBound (.Name x np) env).getD true))
      callWith pos f first (backTo pos (starEach [e] env)) []) := by rfl)
    (hi : interactive env = false := by rfl) :
    wpAny (model PR w) A (exec (.Expr (.Call (.Attribute (.Name x np) "append" apos) [e] [] pos) pos') env) Q E s := by
  refine wpAny_Expr (MethodCall_ (pl := do return (← importBound (.Name x np) env).getD true) (wpAny_mono hv (fun v s₁ hv => ?_) fun _ _ e => e) hm) hi
  obtain ⟨rfl, rfl⟩ := hv
  refine Calls.getMethod_list_append (H.N _ (.head _)).1 rfl rfl ?_
  show wpAny _ _ (callWith _ (.builtin "list.append") [.ref c] (backTo pos (starEach [e] _)) []) _ _ _
  rw [hs]
  refine Calls.callWith_builtin rfl (Calls.evalArgs_plain (Calls.spliced_cons (wpAny_mono he (fun v s₁ h₁ => Calls.spliced_nil ?_) fun _ _ e => e)))
  exact a_append h₁.1 hoff hsz h₁.2

theorem a_sum {l : Addr} {vs : List Value} {ns : List Int} {Q : Value → Shared → Prop} (H : At s₀ L m news s) (hh : A.handled = none) (hl : s.heap.IsList l vs.toArray) (hi : IntsAre vs ns) (h : ∀ t s', At s₀ L m news s' → Q (.int ns.sum t) s') :
    wpAny (model PR w) A (call (.builtin "sum") [.ref l]) Q E s :=
  sumK hh H.F H.N hl hi fun h' tk t' F' N' => h t' _ (H.of F' N')
theorem a_mod {a b : Int} {t u : Tok} {Q : Value → Shared → Prop} (H : At s₀ L m news s) (hb : b ≠ 0) (h : ∀ t s', At s₀ L m news s' → Q (.int (a.fmod b) t) s') : wpAny (model PR w) A (binaryOp .Mod (.int a t) (.int b u)) Q E s := mod_int' hb (h _ _ H.toks)
theorem a_mul {a b : Int} {t u : Tok} {Q : Value → Shared → Prop} (H : At s₀ L m news s) (hm : IntMulOk a b) (h : ∀ t s', At s₀ L m news s' → Q (.int (a * b) t) s') : wpAny (model PR w) A (binaryOp .Mult (.int a t) (.int b u)) Q E s := P.mul_int (h _ _ H.toks) hm

/-- row.count(c) -/
theorem v_Count {x : PySem.Str} {np apos pos : Pos} {e : Expr} {l : List Nat} {t : Tok} {c : Nat} {Q : Value → Shared → Prop} (hv : wpAny (model PR w) A (eval (.Name x np) env) (fun v s₁ => v = .str (S l) t ∧ s₁ = s) E s)
    (he : wpAny (model PR w) A (eval e env) (fun v s₁ => ∃ u m news, v = .str (S [c]) u ∧ At s₀ L m news s₁ ∧ ∀ t' s', At s₀ L m news s' → Q (.int (Txt.count (S l) (S [c])) t') s') E s) {pl : Sem Bool}
    (hm : eval (.Call (.Attribute (.Name x np) "count" apos) [e] [] pos) env = (do
      let ov ← eval (.Name x np) env
      standAt apos.atName
      let (f, first) ← holding [ov] (getMethod ov "count" pl)
      callWith pos f first (backTo pos (starEach [e] env)) []) := by rfl)
    (hs : starEach [e] env = [(false, eval e env)] := by rfl) :
    wpAny (model PR w) A (eval (.Call (.Attribute (.Name x np) "count" apos) [e] [] pos) env) Q E s := by
  refine MethodCall_ (pl := pl) (wpAny_mono hv (fun v s₁ hv => ?_) fun _ _ e => e) hm
  obtain ⟨rfl, rfl⟩ := hv
  refine getMethod_builtin (typeIs_str _ _ _) PySem.F.plainAttrs_str F.slot_str_count F.type_str_count (fun a e => by cases e) ?_
  show wpAny _ _ (callWith _ (.builtin "str.count") [.str (S l) t] (backTo pos (starEach [e] _)) []) _ _ _
  rw [hs]
  refine Calls.callWith_builtin rfl (Calls.evalArgs_plain (Calls.spliced_cons (wpAny_mono he (fun v s₁ h₁ => Calls.spliced_nil ?_) fun _ _ e => e)))
  obtain ⟨u, m, news, rfl, H, h⟩ := h₁
  exact call_gives F.slot_str_count (typeIs_str _ _ _) F.entry_str_count (F.args_str_count_2 _ _) (gives_str_count _ _ t u) (h _ _ H.toks)

theorem rev_S (l : List Nat) (u : Tok) : Txt.sliceBy (S l) none none (-1, u) = S l.reverse := by
  have h := step_rev_list (S l) u
  have h2 : (Txt.sliceBy (S l) none none (-1, u)).cps = l.reverse.toArray := by
    apply Array.toList_inj.mp
    rw [h]
    apply List.ext_getElem
    · simp [Str.length]
    · intro i h1 h2
      simp [Str.length] at h1
      simp only [List.getElem_map, List.getElem_range, List.getElem_reverse]
      simp [Str.length, Array.getD, show l.length - 1 - i < l.length by omega]
  generalize Txt.sliceBy (S l) none none (-1, u) = z at h2
  obtain ⟨c⟩ := z
  simp only at h2
  rw [h2]

theorem a_slice_rev {value slice : Expr} {l : List Nat} {t ui : Tok} {Q : Value → Shared → Prop} (H : At s₀ L m news s) (hl : l.length ≤ 100000) (h : ∀ t' s', At s₀ L m news s' → Q (.str (S l.reverse) t') s')
    (hs : subscripted slice false (.str (S l) t) (.ref s.heap.objs.size) = operate [.ref s.heap.objs.size, .str (S l) t] (getItem (.str (S l) t) (.ref s.heap.objs.size)) := by with_unfolding_all rfl)
    (ht : ∀ r, letTemporaryGo value (.str (S l) t) r = pure () := by intro _; with_unfolding_all rfl) :
    wpAny (model PR w) A (subscriptTail value slice (.str (S l) t) (.ref s.heap.objs.size)) Q E { s with heap := s.heap.push { cls := .type "slice", data := .fields #[.none, .none, .int (-1) ui] } } :=
  slice_strK_nn H.F H.N rfl (fun h' t' k F' N' => by rw [rev_S]; exact h _ _ (H.of F' N')) hs ht (by rw [S_len]; exact Nat.le_trans hl (by decide))

theorem compStart1 {elt target iter target' iter' : Expr} {ifs ifs' : List Expr} {rest : List Comprehension} {scope : Scope} {pos : Pos} {it acc : Value} {R : Result → Shared → Prop}
    (h0 : codeAny (model PR w) A (.compLoop (.ListComp elt (⟨target, iter, ifs, 0⟩ :: ⟨target', iter', ifs', 0⟩ :: rest) scope pos) 1 it acc env) R s)
    (h : wpAny (model PR w) A (pyIter it) (fun it' s' => codeAny (model PR w) A (.compLoop (.ListComp elt (⟨target, iter, ifs, 0⟩ :: ⟨target', iter', ifs', 0⟩ :: rest) scope pos) 1 it' acc env) R s') NoE s) :
    codeAny (model PR w) A (.compStart (.ListComp elt (⟨target, iter, ifs, 0⟩ :: ⟨target', iter', ifs', 0⟩ :: rest) scope pos) 1 it acc env) R s := by
  refine codeAny_of_tree ?_
  show wpAny _ _ ((compStart (.ListComp elt (⟨target, iter, ifs, 0⟩ :: ⟨target', iter', ifs', 0⟩ :: rest) scope pos) 1 it acc env).onRaise (fun x => do noteFrame x env; standAt theWindowsPlace)) _ _ s
  refine wpAny_notedAt ?_
  unfold compStart
  show wpAny _ _ (ask >>= _) _ _ s
  refine wpAny_bind (wpAny_askSetting (wpAny_ite ?_))
  split
  · first
      | exact wpAny_bind (wpAny_pure (wpAny_pure (And.intro rfl h0)))
      | exact wpAny_pure (And.intro rfl h0)
  · refine wpAny_bind (wpAny_rule ?_)
    show wpAny _ _ (standAt iter'.pos >>= _) _ _ s
    exact wpAny_bind (wpAny_standAt (wpAny_bind (wpAny_mono h (fun it' s' h' => wpAny_pure (And.intro rfl h')) fun _ _ x => x.elim)))

theorem turn0 (elt t0 i0 t1 i1 c : Expr) (scope : Scope) (pos : Pos) (it acc : Value) (env : Env) :
    compTurn (.ListComp elt [⟨t0, i0, [], 0⟩, ⟨t1, i1, [c], 0⟩] scope pos) 0 it acc env = (standAt i0.pos >>= fun _ => pyNext it >>= fun r => match r with
      | none => pure (.done .next)
      | some v => letOwnedTupleGo t0 it v >>= fun _ => assign t0 env v >>= fun _ => eval i1 env >>= fun x => standAt i1.pos >>= fun _ => foldedSetIterable i1 env x >>= fun x => holding [x] (pyIter x) >>= fun it' =>
        runOwn (.compStart (.ListComp elt [⟨t0, i0, [], 0⟩, ⟨t1, i1, [c], 0⟩] scope pos) 1 it' acc env) env >>= fun _ => again (.compLoop (.ListComp elt [⟨t0, i0, [], 0⟩, ⟨t1, i1, [c], 0⟩] scope pos) 0 it acc env)) := by rfl

theorem turn1 (elt t0 i0 t1 i1 c : Expr) (scope : Scope) (pos : Pos) (it acc : Value) (env : Env) :
    compTurn (.ListComp elt [⟨t0, i0, [], 0⟩, ⟨t1, i1, [c], 0⟩] scope pos) 1 it acc env = (do
      standAt i1.pos
      match ← pyNext it with
      | none => pure (.done .next)
      | some v =>
        letOwnedTupleGo t1 it v
        assign t1 env v
        let mut ok := true
        for c in [c] do
          if ok then ok ← isTrue c env (eval c env)
        if ok then
          (do let _ ← call (.builtin "list.append") [acc, ← eval elt env])
        again (.compLoop (.ListComp elt [⟨t0, i0, [], 0⟩, ⟨t1, i1, [c], 0⟩] scope pos) 1 it acc env)) := by rfl

theorem compL1 {elt t0 i0 t1 i1 c : Expr} {scope : Scope} {pos : Pos} {it acc : Value} {R : Result → Shared → Prop} (I : Nat → Shared → Prop)
    (turn : ∀ n s, I n s → wpAny (model PR w) A (pyNext it) (fun r s₁ => match r with
      | none => R (.ok .next) s₁
      | some v => wpAny (model PR w) A (letOwnedTupleGo t1 it v) (fun _ s₁' => wpAny (model PR w) A (assign t1 env v) (fun _ s₂ => wpAny (model PR w) A (isTrue c env (eval c env)) (fun ok s₃ =>
          if ok = true then wpAny (model PR w) A (eval elt env) (fun x s₄ => wpAny (model PR w) A (call (.builtin "list.append") [acc, x]) (fun _ s₅ => ∃ m, m < n ∧ I m s₅) NoE s₄) NoE s₃
          else ∃ m, m < n ∧ I m s₃) NoE s₂) NoE s₁') NoE s₁) NoE s)
    (n : Nat) (h : I n s) : codeAny (model PR w) A (.compLoop (.ListComp elt [⟨t0, i0, [], 0⟩, ⟨t1, i1, [c], 0⟩] scope pos) 1 it acc env) R s := by
  refine codeAny_loop rfl I (fun n s hI => ?_) n h
  show wpAny _ A ((compTurn (.ListComp elt [⟨t0, i0, [], 0⟩, ⟨t1, i1, [c], 0⟩] scope pos) 1 it acc env).onRaise (fun x => do noteFrame x env; theTreesLotGoes x)) _ _ s
  refine wpAny_noted ?_
  rw [turn1]
  refine wpAny_bind (wpAny_standAt (wpAny_bind (wpAny_mono (turn n s hI) (fun r s₁ h₁ => ?_) fun _ _ h' => h'.elim)))
  cases r with
  | none => exact wpAny_pure h₁
  | some v =>
    refine wpAny_bind (wpAny_mono h₁ (fun _ s₂ h₂ => wpAny_bind (wpAny_mono h₂ (fun _ s₂ h₂ => wpAny_bind (wpAny_tests_one (wpAny_mono h₂ (fun ok s₃ h₃ => ?_) fun _ _ h' => h'.elim))) fun _ _ h' => h'.elim)) fun _ _ h' => h'.elim)
    cases ok with
    | false => exact wpAny_pure ⟨rfl, h₃⟩
    | true =>
      exact wpAny_bind (wpAny_bind (wpAny_mono h₃ (fun x s₄ h₄ => wpAny_bind (wpAny_mono h₄ (fun _ s₅ h₅ => wpAny_pure (wpAny_pure ⟨rfl, h₅⟩)) fun _ _ h' => h'.elim)) fun _ _ h' => h'.elim))

theorem compL0 {elt t0 i0 t1 i1 c : Expr} {scope : Scope} {pos : Pos} {it acc : Value} {R : Result → Shared → Prop} (I : Nat → Shared → Prop)
    (turn : ∀ n s, I n s → wpAny (model PR w) A (pyNext it) (fun r s₁ => match r with
      | none => R (.ok .next) s₁
      | some v => wpAny (model PR w) A (letOwnedTupleGo t0 it v) (fun _ s₁' => wpAny (model PR w) A (assign t0 env v) (fun _ s₂ => wpAny (model PR w) A (eval i1 env) (fun x s₃ => wpAny (model PR w) A (pyIter x) (fun it' s₄ =>
          codeAny (model PR w) (A.mark none) (.compStart (.ListComp elt [⟨t0, i0, [], 0⟩, ⟨t1, i1, [c], 0⟩] scope pos) 1 it' acc env) (fun r s₅ => r = .ok .next ∧ ∃ m, m < n ∧ I m s₅) s₄) NoE s₃) NoE s₂) NoE s₁') NoE s₁) NoE s)
    (n : Nat) (h : I n s) (hs : ∀ x, foldedSetIterable i1 env x = pure x := by intro _; rfl) : codeAny (model PR w) A (.compLoop (.ListComp elt [⟨t0, i0, [], 0⟩, ⟨t1, i1, [c], 0⟩] scope pos) 0 it acc env) R s := by
  refine codeAny_loop rfl I (fun n s hI => ?_) n h
  show wpAny _ A ((compTurn (.ListComp elt [⟨t0, i0, [], 0⟩, ⟨t1, i1, [c], 0⟩] scope pos) 0 it acc env).onRaise (fun x => do noteFrame x env; theTreesLotGoes x)) _ _ s
  refine wpAny_noted ?_
  rw [turn0]
  refine wpAny_bind (wpAny_standAt (wpAny_bind (wpAny_mono (turn n s hI) (fun r s₁ h₁ => ?_) fun _ _ h' => h'.elim)))
  cases r with
  | none => exact wpAny_pure h₁
  | some v =>
    refine wpAny_bind (wpAny_mono h₁ (fun _ s₂ h₂ => wpAny_bind (wpAny_mono h₂ (fun _ s₂ h₂ => wpAny_bind (wpAny_mono h₂ (fun x s₃ h₃ => ?_) fun _ _ h' => h'.elim)) fun _ _ h' => h'.elim)) fun _ _ h' => h'.elim)
    refine wpAny_bind (wpAny_standAt ?_)
    rw [hs x]
    refine wpAny_bind (wpAny_pure (wpAny_bind (wpAny_holding (wpAny_mono h₃ (fun it' s₄ h₄ => ?_) fun _ _ h' => h'.elim))))
    refine wpAny_bind (wpAny_runOwn (codeAny_mono h₄ fun r s₅ h₅ => ?_))
    obtain ⟨rfl, h₅⟩ := h₅
    exact wpAny_pure ⟨rfl, h₅⟩
end
end Mine
end

section
open PySem PySem.Spec PySem.Calls PyProof.Rows PySem.W
namespace Mine

def rowStep (st : List Nat × List Int) (b : Bool) : List Nat × List Int :=
  if (Txt.count (S st.1) (S [40]) : Int) < 5 ∧ ((2 * (Txt.count (S st.1) (S [40]) : Int) - (st.1.length : Int)) = 0 ∨ b = true) then (st.1 ++ [40], st.2 ++ [2 * (Txt.count (S st.1) (S [40]) : Int) - (st.1.length : Int)]) else (st.1 ++ [41], st.2)
def rowOf (bs : List Bool) : List Nat × List Int := bs.foldl rowStep ([], [])

def isPair (hs : List Int) (i j : Nat) : Bool := match hs[i]?, hs[j]? with
  | some a, some b => (a - b == 0) || (a - b == 1)
  | _, _ => false
def innerRem (hs : List Int) (i : Nat) : Nat → Nat
  | 0 => 0
  | k + 1 => (if isPair hs i (5 - (k + 1)) then 1 else 0) + innerRem hs i k
def outerRem (hs : List Int) : Nat → Nat
  | 0 => 0
  | k + 1 => innerRem hs (5 - (k + 1)) k + outerRem hs k
def weighed (cs : List Int) : List Int := (List.range cs.length).map fun (i : Nat) => (i : Int) * (cs[i]?).getD 0

def lawOK (r : List Nat × List Int) : Bool :=
  decide (r.1.length ≤ 100) && !r.1.contains 34 && !r.1.contains 92 && r.2.length == 5 && decide (heightsOf r.1 = r.2) &&
  match r.2.max? with
  | none => false
  | some M => decide (-2 ≤ M ∧ M ≤ 900) && decide ((imgOf r.2 M).length ≤ 100) && !(imgOf r.2 M).contains 34 && !(imgOf r.2 M).contains 92 && bal (imgOf r.2 M) 0 && !bal (imgOf r.2 M).reverse 0 &&
    decide ((heightsOf (imgOf r.2 M)).sum = (outerRem r.2 5 : Int)) &&
    match bOut (imgOf r.2 M).length 300 (imgOf r.2 M) 0 [] with
    | some (c0 :: cs) => decide (cs.length ≤ 900) && decide ((weighed (c0 :: cs)).sum = r.2.sum) && !(c0 :: sizesOf (c0 :: cs)).contains 0 && !(c0 :: sizesOf (c0 :: cs)).contains 127 && decide (bLoop (imgOf r.2 M) 0 0 (c0 :: sizesOf (c0 :: cs)) [] = some r.2) &&
        (c0 :: cs).all fun n => decide (-1000 ≤ n ∧ n ≤ 1000)
    | _ => false

def stageA : List (List Nat × List Int) := [
  ([], [])]
def stageB : List (List Nat × List Int) := [
  ([40], [0])]
def stageC : List (List Nat × List Int) := [
  ([40, 40], [0, 1]),
  ([40, 41], [0])]
def stageD : List (List Nat × List Int) := [
  ([40, 40, 40], [0, 1, 2]),
  ([40, 40, 41], [0, 1]),
  ([40, 41, 40], [0, 0])]
def stageE : List (List Nat × List Int) := [
  ([40, 40, 40, 40], [0, 1, 2, 3]),
  ([40, 40, 40, 41], [0, 1, 2]),
  ([40, 40, 41, 40], [0, 1, 1]),
  ([40, 40, 41, 41], [0, 1]),
  ([40, 41, 40, 40], [0, 0, 1]),
  ([40, 41, 40, 41], [0, 0])]
def stageF : List (List Nat × List Int) := [
  ([40, 40, 40, 40, 40], [0, 1, 2, 3, 4]),
  ([40, 40, 40, 40, 41], [0, 1, 2, 3]),
  ([40, 40, 40, 41, 40], [0, 1, 2, 2]),
  ([40, 40, 40, 41, 41], [0, 1, 2]),
  ([40, 40, 41, 40, 40], [0, 1, 1, 2]),
  ([40, 40, 41, 40, 41], [0, 1, 1]),
  ([40, 40, 41, 41, 40], [0, 1, 0]),
  ([40, 41, 40, 40, 40], [0, 0, 1, 2]),
  ([40, 41, 40, 40, 41], [0, 0, 1]),
  ([40, 41, 40, 41, 40], [0, 0, 0])]
def stageG : List (List Nat × List Int) := [
  ([40, 40, 40, 40, 40, 41], [0, 1, 2, 3, 4]),
  ([40, 40, 40, 40, 41, 40], [0, 1, 2, 3, 3]),
  ([40, 40, 40, 40, 41, 41], [0, 1, 2, 3]),
  ([40, 40, 40, 41, 40, 40], [0, 1, 2, 2, 3]),
  ([40, 40, 40, 41, 40, 41], [0, 1, 2, 2]),
  ([40, 40, 40, 41, 41, 40], [0, 1, 2, 1]),
  ([40, 40, 40, 41, 41, 41], [0, 1, 2]),
  ([40, 40, 41, 40, 40, 40], [0, 1, 1, 2, 3]),
  ([40, 40, 41, 40, 40, 41], [0, 1, 1, 2]),
  ([40, 40, 41, 40, 41, 40], [0, 1, 1, 1]),
  ([40, 40, 41, 40, 41, 41], [0, 1, 1]),
  ([40, 40, 41, 41, 40, 40], [0, 1, 0, 1]),
  ([40, 40, 41, 41, 40, 41], [0, 1, 0]),
  ([40, 41, 40, 40, 40, 40], [0, 0, 1, 2, 3]),
  ([40, 41, 40, 40, 40, 41], [0, 0, 1, 2]),
  ([40, 41, 40, 40, 41, 40], [0, 0, 1, 1]),
  ([40, 41, 40, 40, 41, 41], [0, 0, 1]),
  ([40, 41, 40, 41, 40, 40], [0, 0, 0, 1]),
  ([40, 41, 40, 41, 40, 41], [0, 0, 0])]
def stageH : List (List Nat × List Int) := [
  ([40, 40, 40, 40, 40, 41, 41], [0, 1, 2, 3, 4]),
  ([40, 40, 40, 40, 41, 40, 41], [0, 1, 2, 3, 3]),
  ([40, 40, 40, 40, 41, 41, 40], [0, 1, 2, 3, 2]),
  ([40, 40, 40, 40, 41, 41, 41], [0, 1, 2, 3]),
  ([40, 40, 40, 41, 40, 40, 41], [0, 1, 2, 2, 3]),
  ([40, 40, 40, 41, 40, 41, 40], [0, 1, 2, 2, 2]),
  ([40, 40, 40, 41, 40, 41, 41], [0, 1, 2, 2]),
  ([40, 40, 40, 41, 41, 40, 40], [0, 1, 2, 1, 2]),
  ([40, 40, 40, 41, 41, 40, 41], [0, 1, 2, 1]),
  ([40, 40, 40, 41, 41, 41, 40], [0, 1, 2, 0]),
  ([40, 40, 41, 40, 40, 40, 41], [0, 1, 1, 2, 3]),
  ([40, 40, 41, 40, 40, 41, 40], [0, 1, 1, 2, 2]),
  ([40, 40, 41, 40, 40, 41, 41], [0, 1, 1, 2]),
  ([40, 40, 41, 40, 41, 40, 40], [0, 1, 1, 1, 2]),
  ([40, 40, 41, 40, 41, 40, 41], [0, 1, 1, 1]),
  ([40, 40, 41, 40, 41, 41, 40], [0, 1, 1, 0]),
  ([40, 40, 41, 41, 40, 40, 40], [0, 1, 0, 1, 2]),
  ([40, 40, 41, 41, 40, 40, 41], [0, 1, 0, 1]),
  ([40, 40, 41, 41, 40, 41, 40], [0, 1, 0, 0]),
  ([40, 41, 40, 40, 40, 40, 41], [0, 0, 1, 2, 3]),
  ([40, 41, 40, 40, 40, 41, 40], [0, 0, 1, 2, 2]),
  ([40, 41, 40, 40, 40, 41, 41], [0, 0, 1, 2]),
  ([40, 41, 40, 40, 41, 40, 40], [0, 0, 1, 1, 2]),
  ([40, 41, 40, 40, 41, 40, 41], [0, 0, 1, 1]),
  ([40, 41, 40, 40, 41, 41, 40], [0, 0, 1, 0]),
  ([40, 41, 40, 41, 40, 40, 40], [0, 0, 0, 1, 2]),
  ([40, 41, 40, 41, 40, 40, 41], [0, 0, 0, 1]),
  ([40, 41, 40, 41, 40, 41, 40], [0, 0, 0, 0])]
def stageI : List (List Nat × List Int) := [
  ([40, 40, 40, 40, 40, 41, 41, 41], [0, 1, 2, 3, 4]),
  ([40, 40, 40, 40, 41, 40, 41, 41], [0, 1, 2, 3, 3]),
  ([40, 40, 40, 40, 41, 41, 40, 41], [0, 1, 2, 3, 2]),
  ([40, 40, 40, 40, 41, 41, 41, 40], [0, 1, 2, 3, 1]),
  ([40, 40, 40, 40, 41, 41, 41, 41], [0, 1, 2, 3]),
  ([40, 40, 40, 41, 40, 40, 41, 41], [0, 1, 2, 2, 3]),
  ([40, 40, 40, 41, 40, 41, 40, 41], [0, 1, 2, 2, 2]),
  ([40, 40, 40, 41, 40, 41, 41, 40], [0, 1, 2, 2, 1]),
  ([40, 40, 40, 41, 40, 41, 41, 41], [0, 1, 2, 2]),
  ([40, 40, 40, 41, 41, 40, 40, 41], [0, 1, 2, 1, 2]),
  ([40, 40, 40, 41, 41, 40, 41, 40], [0, 1, 2, 1, 1]),
  ([40, 40, 40, 41, 41, 40, 41, 41], [0, 1, 2, 1]),
  ([40, 40, 40, 41, 41, 41, 40, 40], [0, 1, 2, 0, 1]),
  ([40, 40, 40, 41, 41, 41, 40, 41], [0, 1, 2, 0]),
  ([40, 40, 41, 40, 40, 40, 41, 41], [0, 1, 1, 2, 3]),
  ([40, 40, 41, 40, 40, 41, 40, 41], [0, 1, 1, 2, 2]),
  ([40, 40, 41, 40, 40, 41, 41, 40], [0, 1, 1, 2, 1]),
  ([40, 40, 41, 40, 40, 41, 41, 41], [0, 1, 1, 2]),
  ([40, 40, 41, 40, 41, 40, 40, 41], [0, 1, 1, 1, 2]),
  ([40, 40, 41, 40, 41, 40, 41, 40], [0, 1, 1, 1, 1]),
  ([40, 40, 41, 40, 41, 40, 41, 41], [0, 1, 1, 1]),
  ([40, 40, 41, 40, 41, 41, 40, 40], [0, 1, 1, 0, 1]),
  ([40, 40, 41, 40, 41, 41, 40, 41], [0, 1, 1, 0]),
  ([40, 40, 41, 41, 40, 40, 40, 41], [0, 1, 0, 1, 2]),
  ([40, 40, 41, 41, 40, 40, 41, 40], [0, 1, 0, 1, 1]),
  ([40, 40, 41, 41, 40, 40, 41, 41], [0, 1, 0, 1]),
  ([40, 40, 41, 41, 40, 41, 40, 40], [0, 1, 0, 0, 1]),
  ([40, 40, 41, 41, 40, 41, 40, 41], [0, 1, 0, 0]),
  ([40, 41, 40, 40, 40, 40, 41, 41], [0, 0, 1, 2, 3]),
  ([40, 41, 40, 40, 40, 41, 40, 41], [0, 0, 1, 2, 2]),
  ([40, 41, 40, 40, 40, 41, 41, 40], [0, 0, 1, 2, 1]),
  ([40, 41, 40, 40, 40, 41, 41, 41], [0, 0, 1, 2]),
  ([40, 41, 40, 40, 41, 40, 40, 41], [0, 0, 1, 1, 2]),
  ([40, 41, 40, 40, 41, 40, 41, 40], [0, 0, 1, 1, 1]),
  ([40, 41, 40, 40, 41, 40, 41, 41], [0, 0, 1, 1]),
  ([40, 41, 40, 40, 41, 41, 40, 40], [0, 0, 1, 0, 1]),
  ([40, 41, 40, 40, 41, 41, 40, 41], [0, 0, 1, 0]),
  ([40, 41, 40, 41, 40, 40, 40, 41], [0, 0, 0, 1, 2]),
  ([40, 41, 40, 41, 40, 40, 41, 40], [0, 0, 0, 1, 1]),
  ([40, 41, 40, 41, 40, 40, 41, 41], [0, 0, 0, 1]),
  ([40, 41, 40, 41, 40, 41, 40, 40], [0, 0, 0, 0, 1]),
  ([40, 41, 40, 41, 40, 41, 40, 41], [0, 0, 0, 0])]
def stageJ : List (List Nat × List Int) := [
  ([40, 40, 40, 40, 40, 41, 41, 41, 41], [0, 1, 2, 3, 4]),
  ([40, 40, 40, 40, 41, 40, 41, 41, 41], [0, 1, 2, 3, 3]),
  ([40, 40, 40, 40, 41, 41, 40, 41, 41], [0, 1, 2, 3, 2]),
  ([40, 40, 40, 40, 41, 41, 41, 40, 41], [0, 1, 2, 3, 1]),
  ([40, 40, 40, 40, 41, 41, 41, 41, 40], [0, 1, 2, 3, 0]),
  ([40, 40, 40, 41, 40, 40, 41, 41, 41], [0, 1, 2, 2, 3]),
  ([40, 40, 40, 41, 40, 41, 40, 41, 41], [0, 1, 2, 2, 2]),
  ([40, 40, 40, 41, 40, 41, 41, 40, 41], [0, 1, 2, 2, 1]),
  ([40, 40, 40, 41, 40, 41, 41, 41, 40], [0, 1, 2, 2, 0]),
  ([40, 40, 40, 41, 41, 40, 40, 41, 41], [0, 1, 2, 1, 2]),
  ([40, 40, 40, 41, 41, 40, 41, 40, 41], [0, 1, 2, 1, 1]),
  ([40, 40, 40, 41, 41, 40, 41, 41, 40], [0, 1, 2, 1, 0]),
  ([40, 40, 40, 41, 41, 41, 40, 40, 41], [0, 1, 2, 0, 1]),
  ([40, 40, 40, 41, 41, 41, 40, 41, 40], [0, 1, 2, 0, 0]),
  ([40, 40, 41, 40, 40, 40, 41, 41, 41], [0, 1, 1, 2, 3]),
  ([40, 40, 41, 40, 40, 41, 40, 41, 41], [0, 1, 1, 2, 2]),
  ([40, 40, 41, 40, 40, 41, 41, 40, 41], [0, 1, 1, 2, 1]),
  ([40, 40, 41, 40, 40, 41, 41, 41, 40], [0, 1, 1, 2, 0]),
  ([40, 40, 41, 40, 41, 40, 40, 41, 41], [0, 1, 1, 1, 2]),
  ([40, 40, 41, 40, 41, 40, 41, 40, 41], [0, 1, 1, 1, 1]),
  ([40, 40, 41, 40, 41, 40, 41, 41, 40], [0, 1, 1, 1, 0]),
  ([40, 40, 41, 40, 41, 41, 40, 40, 41], [0, 1, 1, 0, 1]),
  ([40, 40, 41, 40, 41, 41, 40, 41, 40], [0, 1, 1, 0, 0]),
  ([40, 40, 41, 41, 40, 40, 40, 41, 41], [0, 1, 0, 1, 2]),
  ([40, 40, 41, 41, 40, 40, 41, 40, 41], [0, 1, 0, 1, 1]),
  ([40, 40, 41, 41, 40, 40, 41, 41, 40], [0, 1, 0, 1, 0]),
  ([40, 40, 41, 41, 40, 41, 40, 40, 41], [0, 1, 0, 0, 1]),
  ([40, 40, 41, 41, 40, 41, 40, 41, 40], [0, 1, 0, 0, 0]),
  ([40, 41, 40, 40, 40, 40, 41, 41, 41], [0, 0, 1, 2, 3]),
  ([40, 41, 40, 40, 40, 41, 40, 41, 41], [0, 0, 1, 2, 2]),
  ([40, 41, 40, 40, 40, 41, 41, 40, 41], [0, 0, 1, 2, 1]),
  ([40, 41, 40, 40, 40, 41, 41, 41, 40], [0, 0, 1, 2, 0]),
  ([40, 41, 40, 40, 41, 40, 40, 41, 41], [0, 0, 1, 1, 2]),
  ([40, 41, 40, 40, 41, 40, 41, 40, 41], [0, 0, 1, 1, 1]),
  ([40, 41, 40, 40, 41, 40, 41, 41, 40], [0, 0, 1, 1, 0]),
  ([40, 41, 40, 40, 41, 41, 40, 40, 41], [0, 0, 1, 0, 1]),
  ([40, 41, 40, 40, 41, 41, 40, 41, 40], [0, 0, 1, 0, 0]),
  ([40, 41, 40, 41, 40, 40, 40, 41, 41], [0, 0, 0, 1, 2]),
  ([40, 41, 40, 41, 40, 40, 41, 40, 41], [0, 0, 0, 1, 1]),
  ([40, 41, 40, 41, 40, 40, 41, 41, 40], [0, 0, 0, 1, 0]),
  ([40, 41, 40, 41, 40, 41, 40, 40, 41], [0, 0, 0, 0, 1]),
  ([40, 41, 40, 41, 40, 41, 40, 41, 40], [0, 0, 0, 0, 0])]
def stageK : List (List Nat × List Int) := [
  ([40, 40, 40, 40, 40, 41, 41, 41, 41, 41], [0, 1, 2, 3, 4]),
  ([40, 40, 40, 40, 41, 40, 41, 41, 41, 41], [0, 1, 2, 3, 3]),
  ([40, 40, 40, 40, 41, 41, 40, 41, 41, 41], [0, 1, 2, 3, 2]),
  ([40, 40, 40, 40, 41, 41, 41, 40, 41, 41], [0, 1, 2, 3, 1]),
  ([40, 40, 40, 40, 41, 41, 41, 41, 40, 41], [0, 1, 2, 3, 0]),
  ([40, 40, 40, 41, 40, 40, 41, 41, 41, 41], [0, 1, 2, 2, 3]),
  ([40, 40, 40, 41, 40, 41, 40, 41, 41, 41], [0, 1, 2, 2, 2]),
  ([40, 40, 40, 41, 40, 41, 41, 40, 41, 41], [0, 1, 2, 2, 1]),
  ([40, 40, 40, 41, 40, 41, 41, 41, 40, 41], [0, 1, 2, 2, 0]),
  ([40, 40, 40, 41, 41, 40, 40, 41, 41, 41], [0, 1, 2, 1, 2]),
  ([40, 40, 40, 41, 41, 40, 41, 40, 41, 41], [0, 1, 2, 1, 1]),
  ([40, 40, 40, 41, 41, 40, 41, 41, 40, 41], [0, 1, 2, 1, 0]),
  ([40, 40, 40, 41, 41, 41, 40, 40, 41, 41], [0, 1, 2, 0, 1]),
  ([40, 40, 40, 41, 41, 41, 40, 41, 40, 41], [0, 1, 2, 0, 0]),
  ([40, 40, 41, 40, 40, 40, 41, 41, 41, 41], [0, 1, 1, 2, 3]),
  ([40, 40, 41, 40, 40, 41, 40, 41, 41, 41], [0, 1, 1, 2, 2]),
  ([40, 40, 41, 40, 40, 41, 41, 40, 41, 41], [0, 1, 1, 2, 1]),
  ([40, 40, 41, 40, 40, 41, 41, 41, 40, 41], [0, 1, 1, 2, 0]),
  ([40, 40, 41, 40, 41, 40, 40, 41, 41, 41], [0, 1, 1, 1, 2]),
  ([40, 40, 41, 40, 41, 40, 41, 40, 41, 41], [0, 1, 1, 1, 1]),
  ([40, 40, 41, 40, 41, 40, 41, 41, 40, 41], [0, 1, 1, 1, 0]),
  ([40, 40, 41, 40, 41, 41, 40, 40, 41, 41], [0, 1, 1, 0, 1]),
  ([40, 40, 41, 40, 41, 41, 40, 41, 40, 41], [0, 1, 1, 0, 0]),
  ([40, 40, 41, 41, 40, 40, 40, 41, 41, 41], [0, 1, 0, 1, 2]),
  ([40, 40, 41, 41, 40, 40, 41, 40, 41, 41], [0, 1, 0, 1, 1]),
  ([40, 40, 41, 41, 40, 40, 41, 41, 40, 41], [0, 1, 0, 1, 0]),
  ([40, 40, 41, 41, 40, 41, 40, 40, 41, 41], [0, 1, 0, 0, 1]),
  ([40, 40, 41, 41, 40, 41, 40, 41, 40, 41], [0, 1, 0, 0, 0]),
  ([40, 41, 40, 40, 40, 40, 41, 41, 41, 41], [0, 0, 1, 2, 3]),
  ([40, 41, 40, 40, 40, 41, 40, 41, 41, 41], [0, 0, 1, 2, 2]),
  ([40, 41, 40, 40, 40, 41, 41, 40, 41, 41], [0, 0, 1, 2, 1]),
  ([40, 41, 40, 40, 40, 41, 41, 41, 40, 41], [0, 0, 1, 2, 0]),
  ([40, 41, 40, 40, 41, 40, 40, 41, 41, 41], [0, 0, 1, 1, 2]),
  ([40, 41, 40, 40, 41, 40, 41, 40, 41, 41], [0, 0, 1, 1, 1]),
  ([40, 41, 40, 40, 41, 40, 41, 41, 40, 41], [0, 0, 1, 1, 0]),
  ([40, 41, 40, 40, 41, 41, 40, 40, 41, 41], [0, 0, 1, 0, 1]),
  ([40, 41, 40, 40, 41, 41, 40, 41, 40, 41], [0, 0, 1, 0, 0]),
  ([40, 41, 40, 41, 40, 40, 40, 41, 41, 41], [0, 0, 0, 1, 2]),
  ([40, 41, 40, 41, 40, 40, 41, 40, 41, 41], [0, 0, 0, 1, 1]),
  ([40, 41, 40, 41, 40, 40, 41, 41, 40, 41], [0, 0, 0, 1, 0]),
  ([40, 41, 40, 41, 40, 41, 40, 40, 41, 41], [0, 0, 0, 0, 1]),
  ([40, 41, 40, 41, 40, 41, 40, 41, 40, 41], [0, 0, 0, 0, 0])]
theorem rows_ok : stageK.all lawOK = true := by decide +kernel
theorem stepA : (stageA.all fun st => stageB.contains (rowStep st true) && stageB.contains (rowStep st false)) = true := by decide +kernel
theorem stepB : (stageB.all fun st => stageC.contains (rowStep st true) && stageC.contains (rowStep st false)) = true := by decide +kernel
theorem stepC : (stageC.all fun st => stageD.contains (rowStep st true) && stageD.contains (rowStep st false)) = true := by decide +kernel
theorem stepD : (stageD.all fun st => stageE.contains (rowStep st true) && stageE.contains (rowStep st false)) = true := by decide +kernel
theorem stepE : (stageE.all fun st => stageF.contains (rowStep st true) && stageF.contains (rowStep st false)) = true := by decide +kernel
theorem stepF : (stageF.all fun st => stageG.contains (rowStep st true) && stageG.contains (rowStep st false)) = true := by decide +kernel
theorem stepG : (stageG.all fun st => stageH.contains (rowStep st true) && stageH.contains (rowStep st false)) = true := by decide +kernel
theorem stepH : (stageH.all fun st => stageI.contains (rowStep st true) && stageI.contains (rowStep st false)) = true := by decide +kernel
theorem stepI : (stageI.all fun st => stageJ.contains (rowStep st true) && stageJ.contains (rowStep st false)) = true := by decide +kernel
theorem stepJ : (stageJ.all fun st => stageK.contains (rowStep st true) && stageK.contains (rowStep st false)) = true := by decide +kernel
theorem step_in {P Q : List (List Nat × List Int)} (h : (P.all fun st => Q.contains (rowStep st true) && Q.contains (rowStep st false)) = true) {st : List Nat × List Int} (hs : st ∈ P) (b : Bool) : rowStep st b ∈ Q := by
  have h1 := List.all_eq_true.mp h st hs
  simp only [Bool.and_eq_true, List.contains_iff_mem] at h1
  cases b
  · exact h1.2
  · exact h1.1
theorem row_ok (bs : List Bool) (h : bs.length = 10) : lawOK (rowOf bs) = true := by
  match bs, h with
  | [b0, b1, b2, b3, b4, b5, b6, b7, b8, b9], _ =>
    refine List.all_eq_true.mp rows_ok _ ?_
    exact (step_in stepJ (step_in stepI (step_in stepH (step_in stepG (step_in stepF (step_in stepE (step_in stepD (step_in stepC (step_in stepB (step_in stepA (List.mem_singleton.mpr rfl) b0) b1) b2) b3) b4) b5) b6) b7) b8) b9)
end Mine
end

section
open PySem PySem.Spec PySem.Calls PyProof.Rows PySem.W
namespace Mine
def constsOf : List Expr → List (Int × Nat × Pos)
  | [] => []
  | .Constant (.int i) k p :: r => (i, k, p) :: constsOf r
  | _ :: r => constsOf r
section
variable {w : World} {A : Around} {E : Value → Shared → Prop} {s₀ s : Shared} {L : Addr} {m mg mb : PySem.Str → Option Value} {news : List (Addr × Obj)} {env : Env}
theorem sp_const {k : Nat} {pos p : Pos} {i : Int} {rest : List Expr} {Q : List Value → Shared → Prop} (h : wpAny (model PR w) A (eval (.Constant (.int i) k p) env) (fun v s₁ => wpAny (model PR w) A (spliced (backTo pos (starEach rest env))) (fun vs s₂ => Q (v :: vs) s₂) E s₁) E s) :
    wpAny (model PR w) A (spliced (backTo pos (starEach (.Constant (.int i) k p :: rest) env))) Q E s := Calls.spliced_cons h
theorem sp_consts {pos : Pos} : ∀ (cs : List (Int × Nat × Pos)) {s : Shared} {Q : List Value → Shared → Prop} (H : At s₀ L m news s) (h : ∀ vs s', At s₀ L m news s' → IntsAre vs (cs.map (·.1)) → Q vs s'),
    wpAny (model PR w) A (spliced (backTo pos (starEach (cs.map fun c => .Constant (.int c.1) c.2.1 c.2.2) env))) Q E s
  | [], _, _, H, h => wpAny_items_nil (h [] _ H .nil)
  | c :: r, _, _, H, h => sp_const (a_int H fun t s' H' => sp_consts r H' fun vs s'' H'' hi => h _ _ H'' (.cons _ _ hi))
theorem size10 {vs : List Value} (h : vs.length = 10) : sizeOk (.seq vs.toArray 0) := by
  show vs.toArray.size ≤ sizeLine
  rw [List.size_toArray, h]
  exact Nat.le_trans (show 10 ≤ 1000000 by decide) (by decide)
theorem a_newList {vs : List Value} {Q : Value → Shared → Prop} (H : At s₀ L m news s) (hv : vs.length = 10) (h : ∀ c s', Off c news → At s₀ L m ((c, lob vs 0) :: news) s' → Q (.ref c) s') :
    wpAny (model PR w) A (newList vs) Q E s :=
  wpAny_newObj_type (h _ _ H.off_size (H.push (lob vs 0) (k := s.toks))) (size10 hv)
theorem a_listK {es : List Expr} {pos : Pos} {Q : Value → Shared → Prop} (H : At s₀ L m news s) (hes : es = (constsOf es).map fun c => .Constant (.int c.1) c.2.1 c.2.2) (hl : (constsOf es).length = 10)
    (h : ∀ c vs s', Off c news → At s₀ L m ((c, lob vs 0) :: news) s' → IntsAre vs ((constsOf es).map (·.1)) → Q (.ref c) s') :
    wpAny (model PR w) A (eval (.List es pos) env) Q E s := by
  refine List_ ?_
  rw [hes]
  refine sp_consts (constsOf es) H fun vs s' H' hi => ?_
  exact a_newList H' (hi.length.trans (by rw [List.length_map]; exact hl)) fun c s'' hc H'' => h c vs s'' hc H'' hi
theorem a_listC {es : List Expr} {pos : Pos} {Q : Value → Shared → Prop} (cs : List (Int × Nat × Pos)) (is : List Int) (H : At s₀ L m news s) (hes : es = cs.map fun c => .Constant (.int c.1) c.2.1 c.2.2) (hl : cs.length = 10) (hi : cs.map (·.1) = is)
    (h : ∀ c vs s', Off c news → At s₀ L m ((c, lob vs 0) :: news) s' → IntsAre vs is → Q (.ref c) s') :
    wpAny (model PR w) A (eval (.List es pos) env) Q E s := by
  subst hi
  refine List_ ?_
  rw [hes]
  refine sp_consts cs H fun vs s' H' hi => ?_
  exact a_newList H' (hi.length.trans (by rw [List.length_map]; exact hl)) fun c s'' hc H'' => h c vs s'' hc H'' hi
theorem tailR {value slice : Expr} {o i : Value} {T id : String} {ops : List Value} {Q : Value → Shared → Prop} (hT : s.TypeIs o T)
    (hl : typeLookup (.type T) "__getitem__" = pure (some (.builtin id))) (h : wpAny (model PR w) A (getItem o i) Q E s) (hs : subscripted slice false o i = operate ops (getItem o i)) :
    wpAny (model PR w) A (subscriptTail value slice o i) Q E s := by
  unfold subscriptTail
  refine wpAny_bind ?_
  rw [getitemInPython_of_ne hT.not_modules]
  refine wpAny_bind (wpAny_specialOf hT hl ?_)
  have fin : wpAny (model PR w) A (subscripted slice false o i) (fun r s₃ => wpAny (model PR w) A (letTemporaryGo value o r >>= fun _ => pure r) Q E s₃) E s := by
    rw [hs]
    exact wpAny_operating (wpAny_mono h (fun r s₃ h₃ => wpAny_bind (wpAny_letTemporaryGo (wpAny_pure h₃))) fun _ _ x => x)
  first
    | exact wpAny_pure (wpAny_bind fin)
    | exact wpAny_bind (wpAny_pure (wpAny_bind fin))
    | exact wpAny_bind fin
theorem a_slice_snR {value slice : Expr} {l : Addr} {vs : List Value} {ns : List Int} {i : Int} {ui : Tok} {Q : Value → Shared → Prop} (H : At s₀ L m news s) (hl : s.heap.IsList l vs.toArray) (hi : IntsAre vs ns) (h0 : 0 ≤ i) (hsz : vs.length ≤ 1000000)
    (h : ∀ c ws s', Off c news → At s₀ L m ((c, lob ws 0) :: news) s' → IntsAre ws (ns.drop i.toNat) → Q (.ref c) s')
    (hs : subscripted slice false (.ref l) (.ref s.heap.objs.size) = operate [.ref s.heap.objs.size, .ref l] (getItem (.ref l) (.ref s.heap.objs.size)) := by with_unfolding_all rfl) :
    wpAny (model PR w) A (subscriptTail value slice (.ref l) (.ref s.heap.objs.size)) Q E { s with heap := s.heap.push { cls := .type "slice", data := .fields #[.int i ui, .none, .none] } } := by
  refine tailR (Heap.IsList.typeIs (s := { s with heap := s.heap.push { cls := .type "slice", data := .fields #[.int i ui, .none, .none] } }) (hl.push _)) list_getitem_lookup
    (wpAny_getItem_list_slice (lo := some i) (hl.push _) (Heap.IsSliceOf.new ..) (.int ..) .none .none (by simp) ?_ (by rw [List.size_toArray]; exact Nat.le_trans hsz (by decide))) hs
  have H1 := H.keep (h := s.heap.push { cls := .type "slice", data := .fields #[.int i ui, .none, .none] }) (k := s.toks) fun b o e => Heap.get?_push_of_some _ e
  have e : lob (slicePick vs.toArray (some i) none none).toList 0 = { cls := .type "list", data := .seq (slicePick vs.toArray (some i) none none) } := by rw [lob, Array.toArray_toList]
  have H2 := H1.push (lob (slicePick vs.toArray (some i) none none).toList 0) (k := s.toks)
  refine h _ (slicePick vs.toArray (some i) none none).toList _ H1.off_size ?_ (kmk_from hi h0)
  rw [e] at H2 ⊢
  exact H2
end
end Mine
end

section
open PySem PySem.Spec PySem.Calls PyProof.Rows PySem.W
namespace Mine
theorem lawOK_facts {row : List Nat} {hs : List Int} (h : lawOK (row, hs) = true) : row.length ≤ 100 ∧ 34 ∉ row ∧ 92 ∉ row ∧ hs.length = 5 ∧ heightsOf row = hs ∧
    ∃ M, hs.max? = some M ∧ -2 ≤ M ∧ M ≤ 900 ∧ (imgOf hs M).length ≤ 100 ∧ 34 ∉ imgOf hs M ∧ 92 ∉ imgOf hs M ∧ bal (imgOf hs M) 0 = true ∧ bal (imgOf hs M).reverse 0 = false ∧ (heightsOf (imgOf hs M)).sum = (outerRem hs 5 : Int) ∧
    ∃ c0 cs, bOut (imgOf hs M).length 300 (imgOf hs M) 0 [] = some (c0 :: cs) ∧ cs.length ≤ 900 ∧ (weighed (c0 :: cs)).sum = hs.sum ∧ 0 ∉ c0 :: sizesOf (c0 :: cs) ∧ 127 ∉ c0 :: sizesOf (c0 :: cs) ∧ bLoop (imgOf hs M) 0 0 (c0 :: sizesOf (c0 :: cs)) [] = some hs ∧
      ∀ n ∈ c0 :: cs, -1000 ≤ n ∧ n ≤ 1000 := by
  unfold lawOK at h
  dsimp only at h
  cases hM : hs.max? with
  | none => rw [hM] at h; simp at h
  | some M =>
  rw [hM] at h
  dsimp only at h
  cases hbo : bOut (imgOf hs M).length 300 (imgOf hs M) 0 [] with
  | none => rw [hbo] at h; simp at h
  | some l =>
  cases l with
  | nil => rw [hbo] at h; simp at h
  | cons c0 cs =>
  rw [hbo] at h
  dsimp only at h
  generalize e0 : imgOf hs M = img at h hbo
  generalize e1 : outerRem hs 5 = oo at h
  generalize e2 : heightsOf img = hi at h
  generalize e3 : heightsOf row = hr at h
  generalize e4 : bLoop img 0 0 (c0 :: sizesOf (c0 :: cs)) [] = bl at h
  generalize e5 : (weighed (c0 :: cs)).sum = ww at h
  generalize e6 : c0 :: sizesOf (c0 :: cs) = ss at h
  simp only [Bool.and_eq_true, decide_eq_true_eq, Bool.not_eq_true', beq_iff_eq, List.contains_eq_mem, decide_eq_false_iff_not, List.all_eq_true] at h
  obtain ⟨⟨⟨⟨⟨a1, a2⟩, a3⟩, a4⟩, a5⟩, ⟨⟨⟨⟨⟨⟨⟨b1, b1'⟩, b2⟩, b3⟩, b4⟩, b5⟩, b6⟩, b7⟩, ⟨⟨⟨⟨d1, d2⟩, d3⟩, d4⟩, d5⟩, d6⟩ := h
  subst e6 e5 e4 e3 e2 e1 e0
  exact ⟨a1, a2, a3, a4, a5, M, rfl, b1, b1', b2, b3, b4, b5, b6, b7, c0, cs, hbo, d1, d2, d3, d4, d5, d6⟩

theorem At.consNew {s₀ s s' : Shared} {L c : Addr} {m : PySem.Str → Option Value} {news : List (Addr × Obj)} {o : Obj} (H : At s₀ L m news s) (r : Ret s s') (hf : s.heap.get? c = none) (hg : s'.heap.get? c = some o) : At s₀ L m ((c, o) :: news) s' ∧ Off c news := by
  have hL : c ≠ L := by
    rintro rfl
    obtain ⟨o', _, _, ho', _⟩ := H.F.ns
    rw [hf] at ho'; cases ho'
  have h0 : s₀.heap.get? c = none := by
    cases e : s₀.heap.get? c with
    | none => rfl
    | some o' => rw [H.F.keep _ _ e] at hf; cases hf
  refine ⟨(H.ret r).cons hL h0 hg, fun p hp e => ?_⟩
  have := (H.N p hp).1
  rw [e, hf] at this; cases this
end Mine
end

section
open PySem PySem.Spec PySem.Calls PyProof.Rows PySem.W
namespace Mine
abbrev rit (x left : Int) : Obj := { cls := .type "range_iterator", data := .fields #[rawInt x, rawInt left, rawInt 1] }
section
variable {w : World} {A : Around} {E : Value → Shared → Prop} {s₀ s : Shared} {L I : Addr} {m : PySem.Str → Option Value} {news : List (Addr × Obj)} {env : Env}
theorem rangeTurn {x left : Int} {Q : Option Value → Shared → Prop} (H : At s₀ L m ((I, rit x left) :: news) s) (hh : A.handled = none) (hoff : Off I news) (hpos : 0 < left)
    (h : ∀ t s', At s₀ L m ((I, rit (x + 1) (left - 1)) :: news) s' → Q (some (.int x t)) s') : wpAny (model PR w) A (pyNext (.ref I)) Q E s := by
  have W := Walks.range (prog := PR) (w := w) hh I x 1 left.toNat
  have hI : s.heap.get? I = some (rit x left) := (H.N _ (.head _)).1
  have e : ((left.toNat : Nat) : Int) = left := by omega
  refine W.item 0 s _ _ (by omega) ?_ fun v h' tk hP hst hk => ?_
  · show s.heap.get? I = some (rit (x + ((0 : Nat) : Int) * 1) ((left.toNat : Int) - ((0 : Nat) : Int)))
    rw [e, show x + ((0 : Nat) : Int) * 1 = x by omega, show left - ((0 : Nat) : Int) = left by omega]
    exact hI
  · obtain ⟨t, rfl⟩ := hP
    have hst' : h'.get? I = some (rit (x + 1) (left - 1)) := by
      have : h'.get? I = some (rit (x + ((0 + 1 : Nat) : Int) * 1) ((left.toNat : Int) - ((0 + 1 : Nat) : Int))) := hst
      rw [e, show x + ((0 + 1 : Nat) : Int) * 1 = x + 1 by omega, show left - ((0 + 1 : Nat) : Int) = left - 1 by omega] at this
      exact this
    have := h t _ (H.step (h := h') (k := tk) hoff hk hst')
    rw [show x + ((0 : Nat) : Int) * 1 = x by omega]
    exact this
theorem rangeEnd {x left : Int} {Q : Option Value → Shared → Prop} (H : At s₀ L m ((I, rit x left) :: news) s) (hh : A.handled = none) (hoff : Off I news) (hz : left = 0)
    (h : ∀ s', At s₀ L m news s' → Q none s') : wpAny (model PR w) A (pyNext (.ref I)) Q E s := by
  have W := Walks.range (prog := PR) (w := w) hh I x 1 0
  have hI : s.heap.get? I = some (rit x left) := (H.N _ (.head _)).1
  refine W.done s _ _ ?_ fun h' tk hk => ?_
  · show s.heap.get? I = some (rit (x + ((0 : Nat) : Int) * 1) (((0 : Nat) : Int) - ((0 : Nat) : Int)))
    rw [show x + ((0 : Nat) : Int) * 1 = x by omega, show (((0 : Nat) : Int) - ((0 : Nat) : Int)) = left by omega]
    exact hI
  · have nI := H.N _ (.head _)
    exact h _ (H.drop.walk (wr := [I]) hk (fun hb => nI.2.1 (List.mem_singleton.mp hb).symm) (fun p hp hb => hoff p hp (List.mem_singleton.mp hb)) fun b hb => by rw [List.mem_singleton.mp hb]; exact nI.2.2)

theorem a_rangeIter {a b : Int} {t u v : Tok} {r : Addr} {n : Int} {Q : Value → Shared → Prop} (H : At s₀ L m news s) (hr : IsRange s.heap r a b 1 t u v) (ha : -1000 ≤ a ∧ a ≤ 1000) (hb : -1000 ≤ b ∧ b ≤ 1000) (hn : n = if a < b then b - a else 0)
    (h : ∀ I s', Off I news → At s₀ L m ((I, rit a n) :: news) s' → Q (.ref I) s') : wpAny (model PR w) A (pyIter (.ref r)) Q E s := by
  refine wpAny_pyIter_range hr (small_one (by omega) (by omega) (by omega) (by omega)) ?_
  have hsz : Builtin.Range.rangeSize a b 1 = n := by rw [rangeSize_one, hn]
  rw [hsz]
  exact h _ _ H.off_size (H.push (rit a n) (k := s.toks))
end
theorem compStartR {w : World} {A : Around} {s : Shared} {env : Env} {J : Addr} {x left : Int} {elt target iter target' iter' : Expr} {ifs ifs' : List Expr} {rest : List Comprehension} {scope : Scope} {pos : Pos} {acc : Value} {R : Result → Shared → Prop} (hg : s.heap.get? J = some (rit x left))
    (h : codeAny (model PR w) A (.compLoop (.ListComp elt (⟨target, iter, ifs, 0⟩ :: ⟨target', iter', ifs', 0⟩ :: rest) scope pos) 1 (.ref J) acc env) R s) :
    codeAny (model PR w) A (.compStart (.ListComp elt (⟨target, iter, ifs, 0⟩ :: ⟨target', iter', ifs', 0⟩ :: rest) scope pos) 1 (.ref J) acc env) R s := compStart1 h (wpAny_pyIter_rangeiter hg h)
def isV (d : Int) : Value → Bool
  | .int z _ => z == d
  | _ => false
theorem pair_any {hs : List Int} {i j : Nat} {a b : Int} {u0 u1 : Tok} (ha : hs[i]? = some a) (hb : hs[j]? = some b) :
    (#[Value.int 0 u0, Value.int 1 u1] : Array Value).any (isV (a - b)) = isPair hs i j := by
  unfold isPair
  rw [ha, hb]
  simp only [List.any_toArray, List.any_cons, List.any_nil, Bool.or_false, isV]
  rw [Bool.eq_iff_iff]
  simp only [Bool.or_eq_true, beq_iff_eq]
  omega
theorem c_fun2 {w : World} {A : Around} {E : Value → Shared → Prop} {s : Shared} {env : Env} {x : PySem.Str} {np pos : Pos} {e e' : Expr} {Q : Value → Shared → Prop} {f : Addr} {o : Obj} {fd : FuncData} (ho : (KH w).lookup f = some o) (hfd : o.data = .func fd) (hf : wpAny (model PR w) A (eval (.Name x np) env) (fun v s₁ => v = .ref f ∧ s₁ = s) E s)
    (h : wpAny (model PR w) A (eval e env) (fun v s₁ => wpAny (model PR w) A (eval e' env) (fun v' s₂ => (KH w).In s₂.heap ∧ codeAny (model PR w) A (.call (.ref f) ⟨[v, v'], []⟩) (fun r s' => match r with | .ok (.ret v) => Q v s' | .ok _ => False | .error e => E e s') s₂) E s₁) E s)
    (hs : starEach [e, e'] env = [(false, eval e env), (false, eval e' env)] := by rfl) : wpAny (model PR w) A (eval (.Call (.Name x np) [e, e'] [] pos) env) Q E s := by
  show wpAny (model PR w) A (do callWith pos (← eval (.Name x np) env) [] (backTo pos (starEach [e, e'] env)) (backToKw pos (keywordEach [] env))) Q E s
  rw [hs]
  refine wpAny_bind (wpAny_mono hf (fun v s₁ hv => ?_) fun _ _ e => e)
  obtain ⟨rfl, rfl⟩ := hv
  refine callWith_function (o := o) (fd := fd) (Calls.evalArgs_plain (Calls.spliced_cons (wpAny_mono h (fun v s₂ h₂ => Calls.spliced_cons (wpAny_mono h₂ (fun v' s₃ h₃ => Calls.spliced_nil ?_) fun _ _ e => e)) fun _ _ e => e)))
  exact ⟨⟨h₃.1 _ _ ho, hfd⟩, wpAny_call h₃.2⟩
theorem replicate_succ_snoc (n : Nat) : List.replicate n (1 : Int) ++ [1] = List.replicate (n + 1) 1 := by rw [List.replicate_succ']
end Mine
end

section
open PySem PySem.Spec PySem.Calls PyProof.Rows PySem.W
namespace Mine
local macro_rules | `(tactic| walk_at "m.look") => `(tactic| first | assumption | exact if_pos rfl | (refine (if_neg (by decide)).trans ?_; walk_at "m.look") | rfl)
set_option maxHeartbeats 8000000 in
theorem law_holds : PySem.Challenge.rw_wc0002_01.Holds := hd (by
  k_fill
  intro w s₀ s mg mb G Y fa o pm cd doc dV kV ho hd hcd hD hmg hg args vals as hpre hlay hrd hwl hlo
  have KX := kIn_of Y
  refine Ground.open G ?_
  intro T B D TE TW
  try (refine guard_noD D (by decide +kernel) ?_; clear D)
  clear hmg
  wrow_args hpre hlay hrd hwl hlo
  all_goals (
    first | refine callC_kw (enter_call ?_) | refine enter_call ?_
    w_top on
    have K0 := below_caller (Top.heap T)
    w_call any ho hd hcd hD T F)
  rename_i ns hs hlay0 hLay hr' hl2 w5 w4 l vs w1 hl ra w1' r0 hi hr hc1 hc2 h₁ tk oc hoc N X
  have hlen : ns.length ≤ 63 := by omega
  have O : Ok w mg mb s.heap := ⟨KX, T.g, T.b, T.builtins⟩
  have H := At.mk (s := { heap := h₁, gens := s.gens, drawn := s.drawn, toks := tk, os := s.os }) F N ⟨F.keep, fun _ _ e => e, fun e => e, rfl⟩
  have hb : AllBare s.gens := by rw [hg]; exact AllBare.empty
  replace hoc : oc.data = .cell none := hoc
  clear X
  generalize hm0 : bindL _ _ _ = m at H
  have hm : m "script" = some (.ref l) := by rw [← hm0]; rfl
  clear hm0 F N
  refine wpAny_mono (Q := fun f s' => f = .ret (.bool true) ∧ Ret s s') (E := NoE) ?_ (fun f s' hf => ?_) (fun _ _ e => e.elim)
  rotate_left
  · obtain ⟨rfl, R⟩ := hf
    exact ⟨.inl ⟨_, _, [], rfl, fun _ => rfl, ReadsW.bool _, by first | rfl | wrow_post | kernel_rfl, fun _ => ⟨List.nodup_nil, fun _ hm => (nomatch hm)⟩⟩, OldK.of_keep R.heap, R.os, R.bare hb⟩
  try clear hr
  try clear hc1
  try clear hc2
  try clear r0
  try clear w1'
  try clear ra
  try clear hl2
  try clear hr'
  try clear hLay
  try clear hlay0
  try clear hs
  try clear K0
  try clear hD
  try clear hcd
  try clear ho
  try clear TW
  try clear TE
  try clear B
  try clear T
  try clear Y
  try clear G
  try clear hb
  try clear hg
  try clear KX
  try clear hd
  try clear w5
  try clear w4
  try clear w1
  try clear V
  try clear X
  try clear M
  generalize hBB : callerA.deeper _ = B
  have hhB : B.handled = none := by rw [← hBB]; rfl
  have hdB : B.depth + 5 < recursionLimit := by rw [← hBB, depth_deeper]; decide +kernel
  have huB : B.units + 64 < cLine := by rw [← hBB]; show callerA.units + 3 + 64 < cLine; decide +kernel
  clear hBB
  generalize ({ heap := h₁, gens := s.gens, drawn := s.drawn, toks := tk, os := s.os } : Shared) = s₁ at H ⊢
  generalize s.heap.objs.size = L at H ⊢
  dsimp only
  -- numbers
  have hvl : vs.length ≤ 63 := by rw [hi.length]; exact hlen
  refine wpAny_execs_cons (wpAny_Assign_Name (wpAny_BinOp (Subscript_ (v_name H hm (wpAny_Slice (evalPart_none_step (evalPart_some_step (a_int H fun t1 s₁ H => evalPart_none_step (a_slice_nsL H (H.F.lst hl) hi (by decide) (by omega) fun c1 ws s₁ off1 H hws => ?_)))))))))
  refine Subscript_ ?_
  refine @a_listK _ _ _ _ _ _ _ _ _ _ _ _ H (by simp only [constsOf, List.map_cons, List.map_nil]) (by simp only [constsOf, List.length_cons, List.length_nil]) (fun c3 ts s₁ off3 H hts => ?_)
  simp only [constsOf, List.map_cons, List.map_nil] at hts
  refine wpAny_Slice (evalPart_some_step (c_builtin1 (v_glb O H (gn_len w) boot_len ⟨rfl, rfl⟩) (Subscript_ (v_name H hm (wpAny_Slice (evalPart_none_step (evalPart_some_step (a_int H fun t1 s₁ H => evalPart_none_step (a_slice_nsL H (H.F.lst hl) hi (by decide) (by omega) fun c2 ws2 s₁ off2 H hws2 => ?_)))))))))
  have hw2 : ws2.length = (ns.take 10).length := hws2.length
  refine a_lenl H H.isList (by rw [hw2, List.length_take]; omega) fun t2 s₁ H => evalPart_none_step (evalPart_none_step ?_)
  refine a_slice_snR H ⟨_, (H.N (c3, lob ts 0) (.tail _ (.head _))).1, rfl, 0, rfl⟩ hts (by omega) (by have : ts.length = 10 := hts.length; omega) fun c4 zs s₁ off4 H hzs => ?_
  have hz4 : zs.length ≤ 10 := by have := hzs.length; simp at this; omega
  refine a_addL H ⟨_, (H.N (c1, lob ws 0) (.tail _ (.tail _ (.tail _ (.head _))))).1, rfl, 0, rfl⟩ H.isList (by have := hws.length; rw [List.length_take] at this; omega) fun nc s₁ offn H => ?_
  have hnv : IntsAre (ws ++ zs) (ns.take 10 ++ [0, 0, 0, 1, 1, 0, 1, 1, 0, 1].drop (ns.take 10).length) := by
    have := hws.append hzs
    rw [Int.toNat_natCast, hw2] at this
    exact this
  have h10 : (ns.take 10 ++ [0, 0, 0, 1, 1, 0, 1, 1, 0, 1].drop (ns.take 10).length : List Int).length = 10 := by simp; omega
  generalize (ns.take 10 ++ [0, 0, 0, 1, 1, 0, 1, 1, 0, 1].drop (ns.take 10).length : List Int) = nums at hnv h10
  generalize ws ++ zs = nvs at H hnv
  replace H : At s L m [(nc, lob nvs 0), (L + 1, oc)] s₁ := H.led fun p hp => by
    rcases List.mem_cons.mp hp with rfl | hp
    · exact .head _
    · rw [List.mem_singleton.mp hp]; exact .tail _ (.tail _ (.tail _ (.tail _ (.tail _ (.head _)))))
  have offn : nc ≠ L + 1 := fun e => offn _ (.tail _ (.tail _ (.tail _ (.tail _ (.head _))))) e.symm
  refine v_store H fun s₁ H => ?_
  show wpAny _ _ (execs _ _) _ _ _
  refine wpAny_execs_cons (wpAny_Assign_Name (a_str H S_nil fun t s₁ H => v_store H fun s₁ H => ?_))
  show wpAny _ _ (execs _ _) _ _ _
  refine wpAny_execs_cons (wpAny_Assign_Name (a_nil H fun hc s₁ offh H => ?_))
  have offhn : nc ≠ hc := offh _ (.head _)
  have offhc : (L + 1 : Nat) ≠ hc := offh (L + 1, oc) (.tail _ (.head _))
  replace H := H.led (news' := [(L + 1, oc), (hc, lob [] 0), (nc, lob nvs 0)]) fun p hp => by
    rcases List.mem_cons.mp hp with rfl | hp
    · exact .tail _ (.tail _ (.head _))
    · rcases List.mem_cons.mp hp with rfl | hp
      · exact .head _
      · rw [List.mem_singleton.mp hp]; exact .tail _ (.head _)
  refine v_storeCell H (fun p hp => by
    rcases List.mem_cons.mp hp with rfl | hp
    · exact fun e => offhc e.symm
    · rw [List.mem_singleton.mp hp]; exact offn) hoc fun co s₁ H hco => ?_
  show wpAny _ _ (execs _ _) _ _ _
  refine wpAny_execs_cons (wpAny_For (v_name H (by walk_at "m.look") ?_))
  generalize hbs : nums.map (fun v => v.fmod 2 == 0) = bs
  have hbl : bs.length = 10 := by rw [← hbs, List.length_map]; exact h10
  refine forLv H hhB hnv (fun i m₁ news₁ => ∃ hvs k t, news₁ = [(L + 1, co), (hc, lob hvs k), (nc, lob nvs 0)] ∧ m₁ "row" = some (.str (S (rowOf (bs.take i)).1) t) ∧ IntsAre hvs (rowOf (bs.take i)).2 ∧ (rowOf (bs.take i)).1.length ≤ i ∧ (rowOf (bs.take i)).2.length ≤ i)
    ⟨lob nvs 0, ⟨rfl, 0, rfl⟩, ?_⟩ ⟨[], 0, t, rfl, by walk_at "m.look", .nil, Nat.le_refl _, Nat.le_refl _⟩ ?_ ?_
  · rintro i m₁ _ s₁ ⟨hvs, k, t, rfl, _⟩ H
    exact (H.N (nc, lob nvs 0) (.tail _ (.tail _ (.head _)))).1
  · rintro i n tn m₁ _ I o s₁ hn ⟨hvs, k, tr, rfl, hrow, hI, hl1, hl2⟩ offI H
    have hlt : i < 10 := by
      rw [← h10]
      rcases Nat.lt_or_ge i nums.length with h' | h'
      · exact h'
      · rw [List.getElem?_eq_none h'] at hn; cases hn
    have hbi : bs[i]? = some (n.fmod 2 == 0) := by rw [← hbs, List.getElem?_map, hn]; rfl
    have hstep : rowOf (bs.take (i + 1)) = rowStep (rowOf (bs.take i)) (n.fmod 2 == 0) := foldl_take_succ rowStep ([], []) bs i _ hbi
    generalize rowOf (bs.take i) = r at hrow hI hl1 hl2 hstep
    obtain ⟨row, hs⟩ := r
    dsimp only at hrow hI hl1 hl2
    have hr0 : upd m₁ (Str.ofString "v") (.int n tn) "row" = some (.str (S row) tr) := by walk_at "m.look"
    refine wpAny_execs_cons (wpAny_Assign_Name (v_Count (v_name H hr0 ⟨rfl, rfl⟩) (a_str H S_open fun u s₁ H => ⟨u, _, _, rfl, H, fun t s₁ H => v_store H fun s₁ H => ?_⟩)))
    show wpAny _ _ (execs _ _) _ _ _
    refine wpAny_execs_cons (wpAny_Assign_Name (wpAny_BinOp (wpAny_BinOp (a_int H fun t2 s₁ H => v_name H (by walk_at "m.look") (a_mul H (.of_left (by decide)) fun t3 s₁ H => c_builtin1 (v_glb O H (gn_len w) boot_len ⟨rfl, rfl⟩) (v_name H (by walk_at "m.look") (a_lens H (by omega) fun t4 s₁ H => a_sub H fun t5 s₁ H => v_store H fun s₁ H => ?_)))))))
    show wpAny _ _ (execs _ _) _ _ _
    have hrs : rowStep (row, hs) (n.fmod 2 == 0) = if Txt.count (S row) (S [40]) < 5 ∧ (2 * Txt.count (S row) (S [40]) - (row.length : Int) = 0 ∨ (n.fmod 2 == 0) = true) then (row ++ [40], hs ++ [2 * Txt.count (S row) (S [40]) - (row.length : Int)]) else (row ++ [41], hs) := rfl
    rw [hrs] at hstep
    clear hrs
    generalize Txt.count (S row) (S [40]) = cnt at H hstep
    generalize hdeep : 2 * cnt - (row.length : Int) = deep at H hstep
    have HH : ∃ m2, At s L m2 [(I, o), (L + 1, co), (hc, lob hvs k), (nc, lob nvs 0)] s₁ ∧ m2 "row" = some (.str (S row) tr) ∧ (∃ t, m2 "opened" = some (.int cnt t)) ∧ (∃ t, m2 "deep" = some (.int deep t)) ∧ m2 "v" = some (.int n tn) :=
      ⟨_, H, by walk_at "m.look", ⟨_, by walk_at "m.look"⟩, ⟨_, by walk_at "m.look"⟩, by walk_at "m.look"⟩
    obtain ⟨m2, H, e1, ⟨to, e2⟩, ⟨td, e3⟩, e4⟩ := HH
    refine wpAny_execs_cons (wpAny_If (wpAny_mono (Q := fun b s' => b = decide (cnt < 5 ∧ (deep = 0 ∨ (n.fmod 2 == 0) = true)) ∧ At s L m2 [(I, o), (L + 1, co), (hc, lob hvs k), (nc, lob nvs 0)] s') ?_ (fun b s' hb => ?_) fun _ _ e => e))
    · refine isTrue_and (wpAny_isTrue_Compare1 (v_name H e2 (a_int H fun t s₁ H => P.lt_int (wpAny_truthy_bool ?_))))
      by_cases c1 : cnt < 5
      · rw [show decide (cnt < 5) = true by simpa using c1]
        refine isTrue_and (isTrue_or (wpAny_isTrue_Compare1 (v_name H e3 (a_int H fun t s₁ H => P.eq_int (wpAny_truthy_bool ?_)))))
        by_cases c2 : deep = 0
        · rw [show (deep == 0) = true by simpa using c2]
          exact isTrue_and_nil ⟨by simp [c1, c2], H⟩
        · rw [show (deep == 0) = false by simpa using c2]
          refine isTrue_or (wpAny_isTrue_Compare1 (wpAny_BinOp (v_name H e4 (a_int H fun t s₁ H => a_mod H (by decide) fun t s₁ H => a_int H fun t s₁ H => P.eq_int (wpAny_truthy_bool ?_)))))
          cases hbb : (n.fmod 2 == 0) with
          | true => exact isTrue_and_nil ⟨by simp [c1], H⟩
          | false => exact isTrue_or_nil ⟨by simp [c2], H⟩
      · rw [show decide (cnt < 5) = false by simpa using c1]
        exact ⟨by simp [c1], H⟩
    · obtain ⟨hB, H⟩ := hb
      cases b with
      | true =>
        have hcc := of_decide_eq_true hB.symm
        rw [if_pos hcc] at hstep
        refine wpAny_execs_cons (wpAny_AugAssign_Name (v_load H e1 (a_str H S_open fun t s₁ H => a_iadds H (by simp; omega) fun t7 s₁ H => v_store H fun s₁ H => ?_)))
        show wpAny _ _ (execs _ _) _ _ _
        have o1 : hc ≠ I := offI (hc, lob hvs k) (.tail _ (.head _))
        have Hs := H.led (news' := [(hc, lob hvs k), (I, o), (L + 1, co), (nc, lob nvs 0)]) fun p hp => by
          rcases List.mem_cons.mp hp with rfl | hp
          · exact .tail _ (.tail _ (.head _))
          · rcases List.mem_cons.mp hp with rfl | hp
            · exact .head _
            · rcases List.mem_cons.mp hp with rfl | hp
              · exact .tail _ (.head _)
              · rw [List.mem_singleton.mp hp]; exact .tail _ (.tail _ (.tail _ (.head _)))
        refine wpAny_execs_cons (v_Append Hs (fun p hp => ?_) (by have : hvs.length = hs.length := hI.length; omega) (v_cell Hs (.tail _ (.tail _ (.head _))) hco ⟨rfl, rfl⟩) (v_name Hs (by walk_at "m.look") ⟨Hs, fun s₁ H => ?_⟩))
        · rcases List.mem_cons.mp hp with rfl | hp
          · exact fun e => o1 e.symm
          · rcases List.mem_cons.mp hp with rfl | hp
            · exact offhc
            · rw [List.mem_singleton.mp hp]; exact offhn
        · refine wpAny_execs_nil (wpAny_execs_nil ⟨_, [(L + 1, co), (hc, lob (hvs ++ [Value.int deep td]) (k + 1)), (nc, lob nvs 0)], H.led fun p hp => ?_, fun p hp => ?_, _, _, t7, rfl, ?_⟩)
          · rcases List.mem_cons.mp hp with rfl | hp
            · exact .tail _ (.head _)
            · rcases List.mem_cons.mp hp with rfl | hp
              · exact .tail _ (.tail _ (.head _))
              · rcases List.mem_cons.mp hp with rfl | hp
                · exact .head _
                · rw [List.mem_singleton.mp hp]; exact .tail _ (.tail _ (.tail _ (.head _)))
          · rcases List.mem_cons.mp hp with rfl | hp
            · exact offI (L + 1, co) (.head _)
            · rcases List.mem_cons.mp hp with rfl | hp
              · exact o1
              · rw [List.mem_singleton.mp hp]; exact offI (nc, lob nvs 0) (.tail _ (.tail _ (.head _)))
          · rw [hstep]
            exact ⟨by walk_at "m.look", hI.append (.cons _ _ .nil), by simp; omega, by simp; omega⟩
      | false =>
        have hcc := of_decide_eq_false hB.symm
        rw [if_neg hcc] at hstep
        refine wpAny_execs_cons (wpAny_AugAssign_Name (v_load H e1 (a_str H S_close fun t s₁ H => a_iadds H (by simp; omega) fun t7 s₁ H => v_store H fun s₁ H => ?_)))
        refine wpAny_execs_nil (wpAny_execs_nil ⟨_, _, H, offI, _, _, t7, rfl, ?_⟩)
        rw [hstep]
        exact ⟨by walk_at "m.look", hI, by simp; omega, by show hs.length ≤ i + 1; omega⟩
  · rintro m₁ _ s₁ ⟨hvs, k, t, rfl, hrow, hI, hl1, hl2⟩ H
    have hok := row_ok bs hbl
    rw [show nums.length = bs.length by rw [h10, hbl], List.take_length] at hrow hI
    generalize rowOf bs = rr at hrow hI hok
    obtain ⟨row, hs⟩ := rr
    dsimp only at hrow hI
    clear hl1 hl2 hnv hbs hbl h10
    obtain ⟨f1, f34, f92, f5, fh, M, hM, fM0, fM1, fi, fi34, fi92, fb, fbr, fsum, c0, cs, hbo, fcl, fw, fs0, fs127, fback, fcs⟩ := lawOK_facts hok
    clear hok
    show wpAny _ _ (execs _ _) _ _ _
    refine wpAny_execs_cons (wpAny_Assign_Name (c_fun1 (f := 63) rfl rfl (v_gl O H (gn_image w) ⟨rfl, rfl⟩) (c_fun1 (f := 56) rfl rfl (v_gl O H (gn_heights w) ⟨rfl, rfl⟩) (v_name H hrow ⟨(O.keeps H.F.keep).K, ?_⟩))))
    refine call_heights (O.keeps H.F.keep) (by omega) hhB f1 f34 f92 fun s₂ c1 vs1 k1 r1 get1 _ ints1 => ⟨(O.keeps (H.ret r1).F.keep).K, ?_⟩
    rw [fh] at ints1
    replace H := H.ret r1
    refine call_image (O.keeps H.F.keep) (by omega) hhB ⟨_, get1, rfl, k1, rfl⟩ ints1 hM fM1 fM0 (by omega) fun s₃ ti r2 => ?_
    replace H := H.ret r2
    generalize imgOf hs M = img at H fi fi34 fi92 fb fbr fsum hbo fback ⊢
    refine v_store H fun s₁ H => ?_
    show wpAny _ _ (execs _ _) _ _ _
    refine wpAny_execs_cons (wpAny_Assign_Name (c_fun1 (f := 70) rfl rfl (v_gl O H (gn_bounces w) ⟨rfl, rfl⟩) (v_name H (by walk_at "m.look") ⟨(O.keeps H.F.keep).K, ?_⟩)))
    refine call_bounces (O.keeps H.F.keep) (by omega) hhB (by omega) hbo fun s₄ cc cvs ck r3 get3 fresh3 cints => ?_
    obtain ⟨H, offcc⟩ := H.consNew r3 fresh3 get3
    refine v_store H fun s₁ H => ?_
    have HH : ∃ m2, At s L m2 [(cc, lob cvs ck), (L + 1, co), (hc, lob hvs k), (nc, lob nvs 0)] s₁ ∧ m2 "row" = some (.str (S row) t) ∧ m2 "image" = some (.str (S img) ti) ∧ m2 "counts" = some (.ref cc) :=
      ⟨_, H, by walk_at "m.look", by walk_at "m.look", by walk_at "m.look"⟩
    obtain ⟨m2, H, e1, e2, e3⟩ := HH
    show wpAny _ _ (execs _ _) _ _ _
    refine wpAny_execs_cons (a_AssignComp (s₀ := s) (L := L) (c_type1 (v_glb O H (gn_range w) boot_range ⟨rfl, rfl⟩) (a_int H fun t5 s₁ H => call_range_1 ?_)))
    have HR := H.push { cls := .type "range", data := .fields #[.int 0 s₁.toks, .int 5 t5, .int 1 (s₁.toks + 1)] } (k := s₁.toks + 1 + 1)
    refine a_rangeIter HR.drop (IsRange.new s₁.heap 0 5 1 s₁.toks t5 (s₁.toks + 1)) (by omega) (by omega) (n := 5) (by rfl) fun I s₁ offI H => ?_
    have hIg := (H.N _ (.head _)).1
    have hIL := (H.N _ (.head _)).2.1
    refine ⟨m2, _, H, fun s' Q' E' hk hq => wpAny_pyIter_rangeiter (hk _ _ hIg) hq, fun C D oL s₃ hLC hLn H₃ hoD hk₃ hC0 hD0 => ?_⟩
    have hDI : I ≠ D := hoD (I, rit 0 5) (.tail _ (.head _))
    have mco : (L + 1, co) ∈ [(cc, lob cvs ck), (L + 1, co), (hc, lob hvs k), (nc, lob nvs 0)] := .tail _ (.head _)
    have mcc : (cc, lob cvs ck) ∈ [(cc, lob cvs ck), (L + 1, co), (hc, lob hvs k), (nc, lob nvs 0)] := .head _
    have mhc : (hc, lob hvs k) ∈ [(cc, lob cvs ck), (L + 1, co), (hc, lob hvs k), (nc, lob nvs 0)] := .tail _ (.tail _ (.head _))
    have offL : Off L [(cc, lob cvs ck), (L + 1, co), (hc, lob hvs k), (nc, lob nvs 0)] := fun p hp => (H.N p (.tail _ hp)).2.1
    have offD : Off D ((L, oL) :: [(cc, lob cvs ck), (L + 1, co), (hc, lob hvs k), (nc, lob nvs 0)]) := fun p hp => by
      rcases List.mem_cons.mp hp with rfl | hp
      · exact hoD _ (.head _)
      · exact hoD p (.tail _ (.tail _ hp))
    generalize [(cc, lob cvs ck), (L + 1, co), (hc, lob hvs k), (nc, lob nvs 0)] = led at H H₃ hoD offI mco mhc mcc offL offD
    refine compL0 (fun kk s' => ∃ (j : Nat) (x left : Int) (mC : PySem.Str → Option Value) (nD : Nat) (vsD : List Value), kk = 5 - j ∧ j ≤ 5 ∧ x = j ∧ left = 5 - (j : Int) ∧ IntsAre vsD (List.replicate nD 1) ∧ nD + outerRem hs (5 - j) = outerRem hs 5 ∧ nD ≤ 5 * j ∧
      At s C mC ((I, rit x left) :: (D, lob vsD nD) :: (L, oL) :: led) s') ?_ 5 ⟨0, 0, 5, _, 0, [], rfl, Nat.zero_le _, rfl, rfl, .nil, Nat.zero_add _, Nat.zero_le _, H₃.led fun p hp => ?_⟩
    rotate_left
    · rcases List.mem_cons.mp hp with rfl | hp
      · exact .tail _ (.tail _ (.head _))
      · rcases List.mem_cons.mp hp with rfl | hp
        · exact .head _
        · rcases List.mem_cons.mp hp with rfl | hp
          · exact .tail _ (.head _)
          · exact .tail _ (.tail _ (.tail _ hp))
    rintro kk s₄ ⟨j, x, left, mC, nD, vsD, rfl, hj, hx, hle, hv, hcnt, hnb, H₄⟩
    have offI4 : Off I ((D, lob vsD nD) :: (L, oL) :: led) := fun p hp => by
      rcases List.mem_cons.mp hp with rfl | hp
      · exact fun e => hDI e.symm
      · rcases List.mem_cons.mp hp with rfl | hp
        · exact fun e => hIL e.symm
        · exact offI p hp
    by_cases c : j < 5
    · refine rangeTurn H₄ hhB offI4 (by omega) fun ti s₅ H₅ => ?_
      refine wpAny_of_eq (a := ()) rfl ?_
      refine wpAny_assign_Name (v_store H₅ (fun s₅ H₅ => ?_))
      refine c_type2 (T := "range") (v_glb O H₅ (gn_range w) boot_range ⟨rfl, rfl⟩) (wpAny_BinOp (v_name H₅ (by exact if_pos rfl) (a_int H₅ fun t7 s₅ H₅ => a_add H₅ fun t8 s₅ H₅ => a_int H₅ fun t6 s₅ H₅ => call_range_2 ?_)))
      have HR := H₅.push { cls := .type "range", data := .fields #[.int (x + 1) t8, .int 5 t6, .int 1 s₅.toks] } (k := s₅.toks + 1)
      refine a_rangeIter HR.drop (IsRange.new s₅.heap (x + 1) 5 1 t8 t6 s₅.toks) (by omega) (by omega) (n := 4 - (j : Int)) (by split <;> omega) fun J s₆ offJ H₆ => ?_
      refine compStartR (H₆.N _ (.head _)).1 ?_
      have hJ6 := H₆.off_size
      refine compL1 (A := B.mark none) (fun kk s' => ∃ (p : Nat) (y lf : Int) (mC : PySem.Str → Option Value) (n2 : Nat) (vs2 : List Value), kk = 4 - j - p ∧ p ≤ 4 - j ∧ y = j + 1 + p ∧ lf = 4 - (j : Int) - p ∧ IntsAre vs2 (List.replicate n2 1) ∧ n2 + innerRem hs j (4 - j - p) = nD + innerRem hs j (4 - j) ∧ n2 ≤ nD + p ∧ mC "i" = some (.int x ti) ∧
          At s C mC ((J, rit y lf) :: (I, rit (x + 1) (left - 1)) :: (D, lob vs2 n2) :: (L, oL) :: led) s') ?_ (4 - j) ⟨0, x + 1, 4 - (j : Int), _, nD, vsD, rfl, Nat.zero_le _, by omega, by omega, hv, rfl, Nat.le_refl _, by exact if_pos rfl, H₆⟩
      rintro kk s₇ ⟨p, y, lf, mC, n2, vs2, rfl, hp, hy, hlf, hv2, hc2, hn2, hi1, H₇⟩
      have offJ7 : Off J ((I, rit (x + 1) (left - 1)) :: (D, lob vs2 n2) :: (L, oL) :: led) := fun q hq => by
        rcases List.mem_cons.mp hq with rfl | hq
        · exact offJ _ (.head _)
        · rcases List.mem_cons.mp hq with rfl | hq
          · exact offJ (D, lob vsD nD) (.tail _ (.head _))
          · exact offJ q (.tail _ (.tail _ hq))
      by_cases c3 : p < 4 - j
      · refine rangeTurn H₇ (by first | exact hhB | simpa using hhB) offJ7 (by omega) fun tj s₈ H₈ => ?_
        refine wpAny_of_eq (a := ()) rfl ?_
        refine wpAny_assign_Name (v_store H₈ (fun s₈ H₈ => ?_))
        have haj : hs[j]? = some hs[j] := List.getElem?_eq_getElem (by omega)
        have hbj : hs[j + 1 + p]? = some hs[j + 1 + p] := List.getElem?_eq_getElem (by omega)
        generalize hs[j] = aj at haj
        generalize hs[j + 1 + p] = bj at hbj
        have mco' : (L + 1, co) ∈ (J, rit (y + 1) (lf - 1)) :: (I, rit (x + 1) (left - 1)) :: (D, lob vs2 n2) :: (L, oL) :: led := .tail _ (.tail _ (.tail _ (.tail _ mco)))
        have mhc' : (hc, lob hvs k) ∈ (J, rit (y + 1) (lf - 1)) :: (I, rit (x + 1) (left - 1)) :: (D, lob vs2 n2) :: (L, oL) :: led := .tail _ (.tail _ (.tail _ (.tail _ mhc)))
        refine wpAny_isTrue_Compare1 (wpAny_BinOp (Subscript_ (v_cell H₈ mco' hco (v_name H₈ (by walk_at "m.look") (a_litem (n := aj) ⟨_, (H₈.N _ mhc').1, rfl, k, rfl⟩ hI (by omega) (by omega) (by rw [hx]; exact haj) fun ta => ?_)))))
        refine Subscript_ (v_cell H₈ mco' hco (v_name H₈ (by walk_at "m.look") (a_litem (n := bj) ⟨_, (H₈.N _ mhc').1, rfl, k, rfl⟩ hI (by omega) (by omega) (by rw [hy, show ((j : Int) + 1 + p).toNat = j + 1 + p by omega]; exact hbj) fun tb => a_sub H₈ fun td s₈ H₈ => ?_)))
        refine Tuple_ ?_
        refine sp_const (a_int H₈ fun u0 s₈ H₈ => ?_)
        refine sp_const (a_int H₈ fun u1 s₈ H₈ => ?_)
        refine wpAny_items_nil (wpAny_newObj_type ?_ (by size_fits))
        have HT := H₈.push { cls := .type "tuple", data := .seq #[.int 0 u0, .int 1 u1] } (k := s₈.toks)
        refine SeqAt.in_tupleAt (isV (aj - bj)) ⟨_, (HT.N _ (.head _)).1, rfl, 0, rfl⟩ (fun z hz => ?_) (wpAny_truthy_bool ?_)
        · simp at hz
          rcases hz with rfl | rfl
          · exact SeqAt.EqAt.int_int _ _ _ _
          · exact SeqAt.EqAt.int_int _ _ _ _
        rw [pair_any haj hbj]
        have HT := HT.drop
        have hir : innerRem hs j (4 - j - p) = (if isPair hs j (j + 1 + p) then 1 else 0) + innerRem hs j (4 - j - (p + 1)) := by
          have e : 4 - j - p = (4 - j - (p + 1)) + 1 := by omega
          rw [e, innerRem, show 5 - (4 - j - (p + 1) + 1) = j + 1 + p by omega]
        cases hP : isPair hs j (j + 1 + p) with
        | true =>
          rw [hP] at hir
          simp only [if_true] at hir ⊢
          have hDJ : D ≠ J := fun e => offJ (D, lob vsD nD) (.tail _ (.head _)) e
          have HD := HT.led (news' := (D, lob vs2 n2) :: (J, rit (y + 1) (lf - 1)) :: (I, rit (x + 1) (left - 1)) :: (L, oL) :: led) fun q hq => by
            rcases List.mem_cons.mp hq with rfl | hq
            · exact .tail _ (.tail _ (.head _))
            · rcases List.mem_cons.mp hq with rfl | hq
              · exact .head _
              · rcases List.mem_cons.mp hq with rfl | hq
                · exact .tail _ (.head _)
                · exact .tail _ (.tail _ (.tail _ hq))
          have offD2 : Off D ((J, rit (y + 1) (lf - 1)) :: (I, rit (x + 1) (left - 1)) :: (L, oL) :: led) := fun q hq => by
            rcases List.mem_cons.mp hq with rfl | hq
            · exact fun e => hDJ e.symm
            · rcases List.mem_cons.mp hq with rfl | hq
              · exact hDI
              · exact offD q hq
          refine a_int HD fun t9 s₈ H₈ => a_append H₈ offD2 (by have := hv2.length; rw [List.length_replicate] at this; omega) fun s₈ H₈ => ?_
          refine ⟨4 - j - (p + 1), by omega, p + 1, y + 1, lf - 1, _, n2 + 1, vs2 ++ [Value.int 1 t9], rfl, by omega, by omega, by omega, ?_, by omega, by omega, by walk_at "m.look", H₈.led fun q hq => ?_⟩
          · rw [← replicate_succ_snoc]
            exact hv2.append (.cons _ _ .nil)
          · rcases List.mem_cons.mp hq with rfl | hq
            · exact .tail _ (.head _)
            · rcases List.mem_cons.mp hq with rfl | hq
              · exact .tail _ (.tail _ (.head _))
              · rcases List.mem_cons.mp hq with rfl | hq
                · exact .head _
                · exact .tail _ (.tail _ (.tail _ hq))
        | false =>
          rw [hP] at hir
          simp only [Bool.false_eq_true, if_false] at hir ⊢
          exact ⟨4 - j - (p + 1), by omega, p + 1, y + 1, lf - 1, _, n2, vs2, rfl, by omega, by omega, by omega, hv2, by omega, by omega, by walk_at "m.look", HT⟩
      · refine rangeEnd H₇ (by first | exact hhB | simpa using hhB) offJ7 (by omega) fun s₈ H₈ => ?_
        have e0 : 4 - j - p = 0 := by omega
        rw [e0] at hc2
        have hc2 : n2 = nD + innerRem hs j (4 - j) := hc2
        have ho : outerRem hs (5 - j) = innerRem hs j (4 - j) + outerRem hs (5 - (j + 1)) := by
          rw [show 5 - j = (4 - j) + 1 by omega, outerRem, show 5 - (4 - j + 1) = j by omega, show 5 - (j + 1) = 4 - j by omega]
        exact ⟨rfl, 5 - (j + 1), by omega, j + 1, x + 1, left - 1, mC, n2, vs2, rfl, by omega, by omega, by omega, hv2, by omega, by omega, H₈⟩
    · refine rangeEnd H₄ hhB offI4 (by omega) fun s₅ H₅ => ?_
      have : 5 - j = 0 := by omega
      rw [this] at hcnt
      have hcnt : nD = outerRem hs 5 := hcnt
      refine ⟨rfl, mC, (D, lob vsD nD) :: led, H₅.led fun p hp => ?_, fun p hp => ?_, fun s₆ H => ?_⟩
      · rcases List.mem_cons.mp hp with rfl | hp
        · exact .tail _ (.head _)
        · rcases List.mem_cons.mp hp with rfl | hp
          · exact .head _
          · exact .tail _ (.tail _ hp)
      · rcases List.mem_cons.mp hp with rfl | hp
        · exact fun e => offD (L, oL) (.head _) e.symm
        · exact offL p hp
      · subst hcnt
        show wpAny _ _ (execs _ _) _ _ _
        have HH : ∃ m3, At s L m3 ((D, lob vsD (outerRem hs 5)) :: led) s₆ ∧ m3 "row" = some (.str (S row) t) ∧ m3 "image" = some (.str (S img) ti) ∧ m3 "counts" = some (.ref cc) ∧ m3 "pairs" = some (.ref D) :=
          ⟨_, H, by walk_at "m.look", by walk_at "m.look", by walk_at "m.look", by walk_at "m.look"⟩
        obtain ⟨m3, H, e1, e2, e3, e4⟩ := HH
        have mD : (D, lob vsD (outerRem hs 5)) ∈ (D, lob vsD (outerRem hs 5)) :: led := .head _
        have mco : (L + 1, co) ∈ (D, lob vsD (outerRem hs 5)) :: led := .tail _ mco
        have mhc : (hc, lob hvs k) ∈ (D, lob vsD (outerRem hs 5)) :: led := .tail _ mhc
        have mcc : (cc, lob cvs ck) ∈ (D, lob vsD (outerRem hs 5)) :: led := .tail _ mcc
        generalize (D, lob vsD (outerRem hs 5)) :: led = led at H mD mco mhc mcc
        refine wpAny_execs_cons (wpAny_If (isTrue_or (wpAny_isTrue_Compare1 (c_fun1 (f := 56) rfl rfl (v_gl O H (gn_heights w) ⟨rfl, rfl⟩) (v_name H e1 ⟨(O.keeps H.F.keep).K, ?_⟩)))))
        refine call_heights (O.keeps H.F.keep) (by omega) hhB f1 f34 f92 fun s₂ c1 vs1 k1 r1 get1 _ ints1 => ?_
        rw [fh] at ints1
        replace H := H.ret r1
        refine v_cell H mco hco (ne_intsK ⟨_, get1, rfl, k1, rfl⟩ ints1 ⟨_, (H.N _ mhc).1, rfl, k, rfl⟩ hI huB (wpAny_truthy_bool ?_))
        rw [show (!decide (hs = hs)) = false by simp]
        refine isTrue_or (isTrue_not (isTrue_plain (c_fun1 (f := 42) rfl rfl (v_gl O H (gn_check w) ⟨rfl, rfl⟩) (v_name H e2 ⟨(O.keeps H.F.keep).K, call_check (O.keeps H.F.keep) (by omega) hhB fi34 fi92 fun s₃ r2 => wpAny_truthy_bool ?_⟩))))
        rw [fb]
        replace H := H.ret r2
        refine isTrue_or (isTrue_plain (c_fun1 (f := 42) rfl rfl (v_gl O H (gn_check w) ⟨rfl, rfl⟩) ?_))
        refine Subscript_ (v_name H e2 (wpAny_Slice (evalPart_none_step (evalPart_none_step (evalPart_some_step (wpAny_UnaryOp (a_int H fun u1 s₄ H => a_neg H fun u2 s₄ H => a_slice_rev H (by omega) fun u3 s₄ H => ?_)))))))
        refine ⟨(O.keeps H.F.keep).K, call_check (O.keeps H.F.keep) (by omega) hhB (by simpa using fi34) (by simpa using fi92) fun s₅ r3 => wpAny_truthy_bool ?_⟩
        rw [fbr]
        replace H := H.ret r3
        refine isTrue_or_nil (wpAny_execs_nil ?_)
        show wpAny _ _ (execs _ _) _ _ _
        -- sum(_law_heights(image)) != len(pairs)
        refine wpAny_execs_cons (wpAny_If (wpAny_isTrue_Compare1 (c_builtin1 (v_glb O H (gn_sum w) boot_sum ⟨rfl, rfl⟩) (c_fun1 (f := 56) rfl rfl (v_gl O H (gn_heights w) ⟨rfl, rfl⟩) (v_name H e2 ⟨(O.keeps H.F.keep).K, ?_⟩)))))
        refine call_heights (O.keeps H.F.keep) (by omega) hhB fi fi34 fi92 fun s₆ c2 vs2 k2 r4 get2 _ ints2 => ?_
        replace H := H.ret r4
        refine a_sum H hhB ⟨_, get2, rfl, k2, rfl⟩ ints2 fun u4 s₇ H => ?_
        refine c_builtin1 (v_glb O H (gn_len w) boot_len ⟨rfl, rfl⟩) (v_name H e4 (a_lenl H ⟨_, (H.N _ mD).1, rfl, _, rfl⟩ (by have := hv.length; rw [List.length_replicate] at this; omega) fun u5 s₇ H => P.ne_int (wpAny_truthy_bool ?_)))
        rw [show ((heightsOf img).sum != (vsD.length : Int)) = false by
          have := hv.length
          rw [List.length_replicate] at this
          rw [fsum, this]; simp]
        refine wpAny_execs_nil ?_
        show wpAny _ _ (execs _ _) _ _ _
        refine wpAny_execs_cons (wpAny_If (wpAny_isTrue_Compare1 (c_builtin1 (v_glb O H (gn_sum w) boot_sum ⟨rfl, rfl⟩) ?_)))
        have hcl : s₇.heap.IsList cc cvs.toArray := ⟨_, (H.N _ mcc).1, rfl, ck, rfl⟩
        have hccne : cc ≠ s₇.heap.objs.size := Nat.ne_of_lt (Heap.lt_size (H.N _ mcc).1)
        have hccne1 : cc ≠ s₇.heap.objs.size + 1 := Nat.ne_of_lt (Nat.lt_succ_of_lt (Heap.lt_size (H.N _ mcc).1))
        have hge : ∀ b ∈ [s₇.heap.objs.size + 1, s₇.heap.objs.size], s₇.heap.objs.size ≤ b := fun b hb => by
          rcases List.mem_cons.mp hb with rfl | hb
          · exact Nat.le_succ _
          · rw [List.mem_singleton.mp hb]; exact Nat.le_refl _
        have hLlt : L < s₇.heap.objs.size := H.F.ns.lt
        have hsL : s.heap.objs.size ≤ L := H.F.above
        have hled : ∀ p ∈ led, p.1 < s₇.heap.objs.size := fun p hp => Heap.lt_size (H.N p hp).1
        refine a_ListComp (s₀ := s) (L := L) (c_type1 (v_glb O H (gn_enumerate w) boot_enumerate ⟨rfl, rfl⟩) (v_name H e3 (call_enumerate_list hcl fun h' he hit hsz hk => ?_)))
        have H := H.keep (k := s₇.toks) hk
        refine wpAny_pyIter_enum (s := { s₇ with heap := h' }) he ?_
        obtain ⟨oit, hoit, _⟩ := id hit
        refine compT (WalksT.enumerateD (Draws.list (A := B.in1) hhB s₇.heap.objs.size cc hccne cvs.toArray) (s₇.heap.objs.size + 1) (Nat.succ_ne_self _) (fun hb => ?_) (.head _)) (fun i xs => IntsAre xs ((weighed (c0 :: cs)).take i)) H hhB ⟨⟨_, he⟩, hit, ⟨_, hk _ _ (hcl.choose_spec.1), hcl.choose_spec.2⟩⟩ ?_ ?_ ?_ ?_ ?_ .nil ?_ ?_
        · rcases List.mem_cons.mp hb with e | hb
          · exact Nat.succ_ne_self _ e
          · exact hccne1 (List.mem_singleton.mp hb).symm
        · intro b hb
          rcases List.mem_cons.mp hb with rfl | hb
          · exact ⟨_, he⟩
          · rcases List.mem_cons.mp hb with rfl | hb
            · exact ⟨_, hoit⟩
            · rw [List.mem_singleton.mp hb]; exact ⟨_, hk _ _ (hcl.choose_spec.1)⟩
        · exact fun hb => absurd (hge _ hb) (Nat.not_le.mpr hLlt)
        · exact fun b hb => Heap.get?_none_of_le (Nat.le_trans (Nat.le_trans hsL (Nat.le_of_lt hLlt)) (hge _ hb))
        · exact fun p hp hb => absurd (hge _ hb) (Nat.not_le.mpr (hled p hp))
        · have := cints.length; simp at this ⊢; omega
        · rintro i vals xs hin ⟨tt, x, hx, rfl⟩ hP
          refine ⟨.int (i : Nat) tt, x, rfl, fun C mC newsC s₅ H₅ a1 a2 => ?_⟩
          obtain ⟨n1, t1, rfl, hn1⟩ := ints_at cints (i := i) (by simpa using hx)
          have hnb := fcs n1 (List.mem_of_getElem? hn1)
          refine wpAny_BinOp (v_name H₅ a1 (v_name H₅ a2 (P.mul_int ⟨⟨_, rfl⟩, ?_⟩ (.of_right (intBits_le_64 (by omega) (by omega))))))
          have hlt : i < (c0 :: cs).length := by
            rcases Nat.lt_or_ge i (c0 :: cs).length with h' | h'
            · exact h'
            · rw [List.getElem?_eq_none h'] at hn1; cases hn1
          have e : (weighed (c0 :: cs))[i]? = some ((i : Int) * n1) := by
            unfold weighed
            rw [List.getElem?_map, List.getElem?_range hlt]
            simp only [Option.map_some, hn1, Option.getD_some]
          rw [List.take_add_one, e]
          exact hP.append (.cons _ _ .nil)
        · intro D2 xs hP offD2 s₈ H
          have hwl : cvs.toArray.size = (weighed (c0 :: cs)).length := by
            have := cints.length
            unfold weighed
            rw [List.size_toArray, this, List.length_map, List.length_range]
          rw [hwl, List.take_length] at hP
          refine a_sum H hhB H.isList hP fun u6 s₈ H => ?_
          refine c_builtin1 (v_glb O H (gn_sum w) boot_sum ⟨rfl, rfl⟩) (v_cell H (.tail _ mco) hco (a_sum H hhB ⟨_, (H.N _ (.tail _ mhc)).1, rfl, k, rfl⟩ hI fun u7 s₈ H => P.ne_int (wpAny_truthy_bool ?_)))
          rw [show ((weighed (c0 :: cs)).sum != hs.sum) = false by rw [fw]; simp]
          refine wpAny_execs_nil ?_
          show wpAny _ _ (execs _ _) _ _ _
          refine wpAny_execs_cons (wpAny_Return_some (wpAny_Compare1 (c_fun2 (f := 75) rfl rfl (v_gl O H (gn_back w) ⟨rfl, rfl⟩) (v_name H e2 (v_name H e3 ⟨(O.keeps H.F.keep).K, ?_⟩)))))
          refine call_back (O.keeps H.F.keep) (by omega) hhB ⟨_, (H.N _ (.tail _ mcc)).1, rfl, ck, rfl⟩ cints (by omega) fcl fs0 fs127 fback fun s₉ c9 ws9 k9 r9 get9 _ ints9 => ?_
          replace H := H.ret r9
          refine v_cell H (.tail _ mco) hco (eq_intsK ⟨_, get9, rfl, k9, rfl⟩ ints9 ⟨_, (H.N _ (.tail _ mhc)).1, rfl, k, rfl⟩ hI huB ?_)
          rw [show decide (hs = hs) = true by simp]
          exact ⟨rfl, H.R⟩)
end Mine
end

theorem PySem.Challenge.cw_wc0002_01_holds : PySem.Challenge.rw_wc0002_01.Holds :=
  Mine.law_holds
