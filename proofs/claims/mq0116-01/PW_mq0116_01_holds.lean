import PyProof.Rows.All
import Wide.All
import OpenK.AllK
import Wide.FinOn
import PySem.Challenge.RW_mq0116_01
open PySem PySem.W PyProof.Rows PySem.Calls
set_option Elab.async false
set_option maxRecDepth 100000
set_option maxHeartbeats 8000000
namespace Mine
open_top top for PySem.Challenge.rw_mq0116_01
theorem cutQ {α : Type} {M : Model} {A : Around} {t : Sem α} {Q : α → Shared → Prop} {E : Value → Shared → Prop} {s : Shared} (h : ∀ R, R = Q → wpAny M A t R E s) : wpAny M A t Q E s := h Q rfl
theorem anyTk {α : Type} {M : Model} {A : Around} {t : Sem α} {Q : α → Shared → Prop} {E : Value → Shared → Prop} {h : Heap} {g : Array GenState} {d : Drawn} {k : Nat} {o : OsState} (H : ∀ tk, wpAny M A t Q E ⟨h, g, d, tk, o⟩) : wpAny M A t Q E ⟨h, g, d, k, o⟩ := H k
theorem stTk {P : Shared → Prop} {h : Heap} {g : Array GenState} {d : Drawn} {k : Nat} {o : OsState} (H : ∀ tk, P ⟨h, g, d, tk, o⟩) : P ⟨h, g, d, k, o⟩ := H k
theorem monoQ {α : Type} {M : Model} {A : Around} {t : Sem α} {Q Q' : α → Shared → Prop} {E : Value → Shared → Prop} {s : Shared} (h : wpAny M A t Q E s) (hQ : ∀ a s, Q a s → Q' a s) : wpAny M A t Q' E s := wpAny_mono h hQ fun _ _ x => x

section
variable {prog : Program} {w : World} {A : Around} {E : Value → Shared → Prop} {Q : Flow → Shared → Prop} {s : Shared} {env : Env} {h₀ : Heap} {L : Addr}
/-- a while with an else: the invariant's rule -/
theorem whileElse {test : Expr} {body orelse : List Stmt} {pos : Pos} {m : Str → Option Value} {news : List (Addr × Obj)} (J : Nat → (Str → Option Value) → List (Addr × Obj) → Prop) {n₀ : Nat}
    (F : Fr h₀ L s.heap m) (N : News h₀ L s.heap news) (hJ : J n₀ m news)
    (turn : ∀ n m₁ news₁ h₁ tk₁, Fr h₀ L h₁ m₁ → News h₀ L h₁ news₁ → J n m₁ news₁ →
      wpAny (model prog w) A (isTrue test env (eval test env)) (fun b s₂ =>
        if b = true then wpAny (model prog w) A (execs body env) (WhileStep2 h₀ L s J Q n) E s₂ else wpAny (model prog w) A (execs orelse env) Q E s₂) E { s with heap := h₁, toks := tk₁ })
    (hE : PassesOwn (model prog w) A env E := by passes_own) :
    wpAny (model prog w) A (exec (.While test body orelse pos) env) Q E s := by
  refine wpAny_While (codeAny_whileLoop (fun n s' => ∃ h₁ tk₁ m₁ news₁, s' = { s with heap := h₁, toks := tk₁ } ∧ Fr h₀ L h₁ m₁ ∧ News h₀ L h₁ news₁ ∧ J n m₁ news₁) ?_ n₀ ⟨s.heap, s.toks, m, news, rfl, F, N, hJ⟩)
  rintro n s' ⟨h₁, tk₁, m₁, news₁, rfl, F₁, N₁, J₁⟩
  refine wpAny_mono (turn n m₁ news₁ h₁ tk₁ F₁ N₁ J₁) (fun b s₂ h₂ => ?_) hE
  cases b with
  | false =>
    simp only [Bool.false_eq_true, if_false] at h₂ ⊢
    exact wpAny_mono h₂ (fun _ _ x => x) hE
  | true =>
    simp only [if_true] at h₂ ⊢
    refine wpAny_mono h₂ (fun f s₃ h₃ => ?_) hE
    cases f with
    | next =>
      obtain ⟨h', tk, m₂, news₂, n', rfl, F₂, N₂, hn, J₂⟩ := h₃
      exact ⟨n', hn, h', tk, m₂, news₂, rfl, F₂, N₂, J₂⟩
    | cont =>
      obtain ⟨h', tk, m₂, news₂, n', rfl, F₂, N₂, hn, J₂⟩ := h₃
      exact ⟨n', hn, h', tk, m₂, news₂, rfl, F₂, N₂, J₂⟩
    | brk => exact h₃
    | ret v => exact h₃

theorem whileElse2 {σ : Type} {test : Expr} {body orelse : List Stmt} {pos : Pos} {m₀ : Str → Option Value} (Led : σ → List (Addr × Obj)) (ps : σ → List (Str × Value)) (Facts : σ → Prop) (stored : List Str) (P : σ → Prop) (μ : σ → Nat) (c₀ : σ)
    (F : Fr h₀ L s.heap m₀) (N : News h₀ L s.heap (Led c₀)) (hf : Facts c₀) (hk : ∀ p ∈ ps c₀, m₀ p.1 = some p.2) (hp : P c₀)
    (turn : ∀ (c : σ) (u : Str → Option Value) h tk, Facts c → P c → Fr h₀ L h (kstB (fun z => if stored.contains z then u z else m₀ z) (ps c)) → News h₀ L h (Led c) →
      wpAny (model prog w) A (isTrue test env (eval test env)) (fun b s₂ =>
        if b = true then wpAny (model prog w) A (execs body env) (KswPost h₀ L s Led ps Facts stored m₀ P μ Q c) E s₂ else wpAny (model prog w) A (execs orelse env) Q E s₂) E { s with heap := h, toks := tk })
    (hE : PassesOwn (model prog w) A env E := by passes_own) :
    wpAny (model prog w) A (exec (.While test body orelse pos) env) Q E s := by
  refine whileElse (fun n m nx => ∃ c : σ, nx = Led c ∧ μ c = n ∧ Facts c ∧ (∀ p ∈ ps c, m p.1 = some p.2) ∧ (∀ z, (∀ p ∈ ps c, z ≠ p.1) → stored.contains z = false → m z = m₀ z) ∧ P c) F N ⟨c₀, rfl, rfl, hf, hk, fun _ _ _ => rfl, hp⟩ ?_ hE
  rintro n m₁ nx h tk F₁ N₁ ⟨c, hnx, hsz, hf', h1, h2, hp'⟩
  rw [hnx] at N₁
  rw [← hsz]
  refine wpAny_mono (turn c m₁ h tk hf' hp' (ksw_fr h1 h2 F₁) N₁) (fun b s₂ p => ?_) fun _ _ x => x
  cases b with
  | false => simpa using p
  | true =>
    simp only [if_true] at p ⊢
    refine wpAny_mono p (fun f s₃ q => ?_) fun _ _ x => x
    cases f with
    | ret v => exact q
    | brk => exact q
    | next =>
      obtain ⟨c', h', tk', m', news', rfl, F', N', hn, hf9, hk9, hr9, hp9, hm9⟩ := q
      exact ⟨h', tk', m', Led c', μ c', rfl, F', fun p hp => N' p (hn p hp), hm9, c', rfl, rfl, hf9, hk9, hr9, hp9⟩
    | cont =>
      obtain ⟨c', h', tk', m', news', rfl, F', N', hn, hf9, hk9, hr9, hp9, hm9⟩ := q
      exact ⟨h', tk', m', Led c', μ c', rfl, F', fun p hp => N' p (hn p hp), hm9, c', rfl, rfl, hf9, hk9, hr9, hp9⟩
end

/-! `_generate_overlap_table` -/
def gdn (p : Str) (i : Int) (tbl : List Int) : Nat → Int → Int
  | 0, _ => 0
  | f + 1, idx => if (Txt.item p i != Txt.item p idx) = true then (if idx = 0 then 0 else gdn p i tbl f (tbl.getD (idx - 1).toNat 0)) else idx + 1
def stepT (p : Str) (tbl : List Int) (i : Int) : List Int := tbl.set i.toNat (gdn p i tbl (p.length + 1) (tbl.getD (i - 1).toNat 0))
def foldT (p : Str) (is : List Int) : List Int := is.foldl (stepT p) (List.replicate p.length 0)
def tabF (p : Str) : List Int := foldT p (rangeKs 1 (p.length - 1))

theorem ints_rep {x : Int} {t : Tok} : ∀ n : Nat, IntsAre (List.replicate n (Value.int x t)) (List.replicate n x)
  | 0 => .nil
  | n + 1 => .cons _ _ (ints_rep n)
def Tame (tbl : List Int) : Prop := ∀ j : Nat, j < tbl.length → 0 ≤ tbl.getD j 0 ∧ tbl.getD j 0 ≤ j
theorem tame_rep (n : Nat) : Tame (List.replicate n 0) := by
  intro j hj
  rw [List.length_replicate] at hj
  have e : (List.replicate n (0 : Int)).getD j 0 = 0 := by simp [List.getD, hj]
  rw [e]; omega
theorem tame_set {tbl : List Int} {n : Nat} {v : Int} (q : Tame tbl) (h0 : 0 ≤ v) (h1 : v ≤ n) : Tame (tbl.set n v) := by
  intro j hj
  rw [List.length_set] at hj
  by_cases e : n = j
  · subst e
    have e : (tbl.set n v).getD n 0 = v := by simp [List.getD, hj]
    rw [e]; exact ⟨h0, h1⟩
  · have e : (tbl.set n v).getD j 0 = tbl.getD j 0 := by simp [List.getD, e]
    rw [e]; exact q j hj
theorem foldT_snoc (p : Str) (pre : List Int) (i : Int) : foldT p (pre ++ [i]) = stepT p (foldT p pre) i := by simp [foldT, List.foldl_append]
theorem gen_call {w : World} {mean : ExcName → Option Value} {mg mb : Str → Option Value} {dp un : Nat} {gd : Option (List Code)} {cn : Str} {cs : Scope} {a : Addr} {ccd : Value} {cl : List (Str × Addr)} {outer : List Env} {A₀ : Around} {base h₀ : Heap} {L : Addr} {m : Str → Option Value} {s : Shared} {Q E : Value → Shared → Prop}
  {rest : List (Addr × Obj)} {word : Str} {tw : Tok}
  (B : Below A₀ base outer h₀) (F : Fr h₀ L s.heap m) (X : (top.heap_39 w.params).In h₀) (N : News h₀ L s.heap rest) (T : Top top.view_39 (looseW top.view_39 []) mean mg mb h₀) (hk : cs.kind = .function)
  (hw0 : 0 < word.length) (hw1 : word.length < 2 ^ 20)
  (hdp : dp + 1 < recursionLimit) (hu : un + 8 < cLine)
  (ret : ∀ (l : Addr) (ws : List Value) (k : Nat) (h' : Heap) (tk' : Nat), Fr h₀ L h' m → News h₀ L h' ((l, listOf ws.toArray k) :: rest) → IntsAre ws (tabF word) → (tabF word).length = word.length → Tame (tabF word) → AllLt l rest → Q (.ref l) { s with heap := h', toks := tk' }) :
  wpAny (model PySem.Challenge.rw_mq0116_01.row.prog w) (ktrTop dp un gd cn cs L a ccd cl outer) (call (.ref 21) [.str word tw]) Q E s := by
  refine wpAny_call ?_
  k_dflt cell_enter
  rename_i g' L' h' FG' F' N' B' X' T'
  have F2 : Fr g' L' h' (fun y => List.lookup y [(Str.ofString "prefix", .str word tw)]) := by with_unfolding_all exact F'
  clear F'
  refine anyTk ?_
  intro tk0
  refine wpAny_execs_cons ?_
  refine cutQ ?_
  intro R hR
  k_steps
  rw [hR]
  clear hR R
  dsimp only

  refine anyTk ?_
  intro tk1
  rename_i lz _ lz1 D _ i1 n1 s1 e1 e2 e3 l1 h1 F1 N1
  replace N1 : News g' L' h1 ((D, listOf (List.replicate word.length (Value.int 0 tk0)).toArray 0) :: rest) := by
    have e : (List.replicate ((word.length : Int)).toNat [Value.int 0 tk0]).flatten = List.replicate word.length (Value.int 0 tk0) := by simp
    rw [e] at N1
    exact kst_newsOf N1 (by intro p hp; simp only [List.mem_cons] at hp ⊢; rcases hp with hp | hp <;> simp [hp])
  replace l1 : AllLt D rest := l1.2
  clear i1 s1 e1 e2 e3 lz1
  refine wpAny_execs_cons ?_
  refine cutQ ?_
  intro R hR
  refine For_invV g' rfl rfl ?_
  refine cutQ ?_
  intro R2 hR2
  k_steps
  rw [hR2]
  clear hR2
  dsimp only
  refine anyTk ?_
  intro tk2
  rename_i t1 u1 v1 hRa F4 N4 _
  have hn : Builtin.Range.rangeSize 1 (word.length : Int) 1 = ((word.length - 1 : Nat) : Int) := by rw [rangeSize_nat]; omega
  with_unfolding_all refine kst_range (σ := List Int × List Value × Nat) (fun c => (D, listOf c.2.1.toArray c.2.2) :: rest) (fun _ => []) (fun c => IntsAre c.2.1 c.1) [Str.ofString "idx"] (fun pre c => c.1.length = word.length ∧ Tame c.1 ∧ c.1 = foldT word pre) (List.replicate word.length 0, List.replicate word.length (Value.int 0 tk0), 0) (by rfl) hRa (small_one (by omega) (by omega) (by omega) (by omega)) hn F4 N4 ?_ ?_ ⟨?_, ?_, rfl⟩ ?_ ?_
  · exact ints_rep _
  · intro p hp; cases hp
  · simp
  · exact tame_rep _
  · rintro ⟨tbl, vs, k⟩ pre i t u h tk own hi hlt hoff hf ⟨q1, q2, q3⟩ F5 N5
    dsimp only at *
    have hj := q2 (i - 1).toNat (by omega)
    clear F4 N4
    refine wpAny_execs_cons ?_
    refine cutQ ?_
    intro R3 hR3
    k_steps
    rw [hR3]
    clear hR3
    dsimp only
    refine anyTk ?_
    intro tk3
    rename_i ti h6 F6 N6
    refine wpAny_execs_cons ?_
    with_unfolding_all refine whileElse2 (σ := Int × Tok) (fun _ => (D, listOf vs.toArray k) :: rest ++ own) (fun c => [(Str.ofString "idx", .int c.1 c.2)]) (fun _ => True) [] (fun c => 0 ≤ c.1 ∧ c.1 ≤ i - 1 ∧ ∃ f, c.1.toNat < f ∧ gdn word i tbl f c.1 = gdn word i tbl (word.length + 1) (tbl.getD (i - 1).toNat 0)) (fun c => c.1.toNat) (tbl.getD (i - 1).toNat 0, ti) F6 N6 trivial ?_ ⟨hj.1, ?_, word.length + 1, ?_, rfl⟩ ?_
    · kst_all
    · show tbl.getD (i - 1).toNat 0 ≤ _; omega
    · show (tbl.getD (i - 1).toNat 0).toNat < _; omega
    · rintro ⟨idx, tx⟩ u2 h7 tk7 _ ⟨r0, r1, f, r2, r3⟩ F7 N7
      dsimp only at *
      clear F6 N6
      obtain ⟨f, rfl⟩ : ∃ g, f = g + 1 := ⟨f - 1, by omega⟩
      rw [gdn] at r3
      k_steps
      · have hne : ∀ p ∈ rest ++ own, p.1 ≠ D := by
          intro p hp
          rcases List.mem_append.mp hp with hp | hp
          · exact Nat.ne_of_lt (kst_ltOf l1 p hp)
          · exact hoff p hp D (List.mem_cons_self)
        refine ksa_set (by assumption) (by assumption) (.head hne) hf (by omega) (by omega) (by omega) ?_
        intro h8 F8 N8 hi8 hl8 _
        refine wpAny_execs_cons (wpAny_Break ?_)
        refine wpAny_execs_nil ?_
        refine' kst_end (_, _, k) (F8) N8 ?_ ?_ ?_ hi8 ?_ ?_ ⟨?_, ?_, ?_⟩
        · intro p hp; rcases List.mem_cons.mp hp with hp | hp
          · rw [hp]; exact List.mem_cons_self
          · exact List.mem_cons_of_mem _ (List.mem_append_left _ hp)
        · intro p hp; exact List.mem_cons_of_mem _ (List.mem_append_right _ hp)
        · rfl
        · intro p hp; cases hp
        · intro z hz1 _ hz2
          simp only [List.contains_cons, List.contains_nil, Bool.or_false, beq_eq_false_iff_ne, ne_eq] at hz2
          simp [kstB, hz1, hz2]
        · show (tbl.set _ _).length = _; rw [hl8]; exact q1
        · exact tame_set q2 (by omega) (by omega)
        · show tbl.set _ _ = _
          rw [foldT_snoc, ← q3, stepT, ← r3]
          simp_all
      · have hj2 := q2 (idx - 1).toNat (by omega)
        refine' ksw_end (tbl.getD (idx - 1).toNat 0, _) ‹_› ‹_› (fun _ h => h) trivial ?hk ?hr ?hp ?hm
        case hk => kst_all
        case hr =>
          intro z h2 h3
          simp only [List.forall_mem_cons, List.not_mem_nil, false_implies, implies_true, and_true, ne_eq] at h2
          simp [kstB, h2]
        case hp =>
          refine ⟨hj2.1, by dsimp only; omega, f, by dsimp only; omega, ?_⟩
          rw [if_pos (by assumption), if_neg (by assumption)] at r3
          exact r3
        case hm => dsimp only; omega
      · have hne : ∀ p ∈ rest ++ own, p.1 ≠ D := by
          intro p hp
          rcases List.mem_append.mp hp with hp | hp
          · exact Nat.ne_of_lt (kst_ltOf l1 p hp)
          · exact hoff p hp D (List.mem_cons_self)
        refine ksa_set (by assumption) (by assumption) (.head hne) hf (by omega) (by omega) (by omega) ?_
        intro h8 F8 N8 hi8 hl8 _
        refine wpAny_execs_nil ?_
        refine wpAny_execs_nil ?_
        refine' kst_end (_, _, k) (F8) N8 ?_ ?_ ?_ hi8 ?_ ?_ ⟨?_, ?_, ?_⟩
        · intro p hp; rcases List.mem_cons.mp hp with hp | hp
          · rw [hp]; exact List.mem_cons_self
          · exact List.mem_cons_of_mem _ (List.mem_append_left _ hp)
        · intro p hp; exact List.mem_cons_of_mem _ (List.mem_append_right _ hp)
        · rfl
        · intro p hp; cases hp
        · intro z hz1 _ hz2
          simp only [List.contains_cons, List.contains_nil, Bool.or_false, beq_eq_false_iff_ne, ne_eq] at hz2
          simp [kstB, hz1, hz2]
        · show (tbl.set _ _).length = _; rw [hl8]; exact q1
        · exact tame_set q2 (by omega) (by omega)
        · show tbl.set _ _ = _
          rw [foldT_snoc, ← q3, stepT, ← r3]
          simp_all
  · rintro ⟨tbl, vs, k⟩ u h tk hf ⟨q1, q2, q3⟩ F5 N5
    dsimp only at *
    subst q3
    rw [hR]
    clear hR
    dsimp only
    clear F4 N4
    k_steps
    exact ret _ _ _ _ _ (by assumption) (by assumption) hf q1 q2 l1

/-! the law's own `_law_next` -/
def nxt (word : Str) (tbl : List Int) (sign : Str) : Nat → Int → Int
  | 0, st => st
  | f + 1, st => if 0 < st ∧ (st = word.length ∨ (Txt.item word st != sign) = true) then nxt word tbl sign f (tbl.getD (st - 1).toNat 0) else st
def nextF (word : Str) (tbl : List Int) (st : Int) (sign : Str) : Int :=
  let r := nxt word tbl sign (word.length + 1) st
  if (Txt.item word r == sign) = true then r + 1 else r

theorem next_call {w : World} {mean : ExcName → Option Value} {mg mb : Str → Option Value} {dp un : Nat} {gd : Option (List Code)} {cn : Str} {cs : Scope} {a : Addr} {ccd : Value} {cl : List (Str × Addr)} {outer : List Env} {A₀ : Around} {base h₀ : Heap} {L : Addr} {m : Str → Option Value} {s : Shared} {Q E : Value → Shared → Prop}
  {rest : List (Addr × Obj)} {lt : Addr} {vs : List Value} {n : Nat} {tbl : List Int} {word sign : Str} {tw ts tg : Tok} {state : Int}
  (B : Below A₀ base outer h₀) (F : Fr h₀ L s.heap m) (X : (top.heap_39 w.params).In h₀) (N : News h₀ L s.heap ((lt, listOf vs.toArray n) :: rest)) (T : Top top.view_39 (looseW top.view_39 []) mean mg mb h₀) (hk : cs.kind = .function)
  (hi : IntsAre vs tbl) (hb : tbl.length < 2 ^ 20) (hw : word.length = tbl.length) (hw0 : 0 < word.length)
  (h0 : 0 ≤ state) (h1 : state ≤ word.length) (hmono : Tame tbl)
  (hdp : dp + 1 < recursionLimit) (hu : un + 8 < cLine)
  (ret : ∀ (t : Tok) (h' : Heap) (tk' : Nat), Fr h₀ L h' m → News h₀ L h' ((lt, listOf vs.toArray n) :: rest) → Q (.int (nextF word tbl state sign) t) { s with heap := h', toks := tk' }) :
  wpAny (model PySem.Challenge.rw_mq0116_01.row.prog w) (ktrTop dp un gd cn cs L a ccd cl outer) (call (.ref 35) [.str word tw, .ref lt, .int state ts, .str sign tg]) Q E s := by
  refine wpAny_call ?_
  k_dflt cell_enter
  refine wpAny_execs_cons ?_
  rename_i g' L' h' FG' F' N' B' X' T'
  have F2 : Fr g' L' h' (fun y => List.lookup y [(Str.ofString "sign", .str sign tg), (Str.ofString "state", .int state ts), (Str.ofString "table", .ref lt), (Str.ofString "word", .str word tw)]) := by with_unfolding_all exact F'
  clear F'
  with_unfolding_all refine ksw_while (σ := Int × Tok) (fun _ => _) (fun c => [(Str.ofString "state", .int c.1 c.2)]) (fun _ => True) [] (fun c => 0 ≤ c.1 ∧ c.1 ≤ word.length ∧ ∃ f, c.1.toNat < f ∧ nxt word tbl sign f c.1 = nxt word tbl sign (word.length + 1) state) (fun c => c.1.toNat) (state, ts) F2 N' trivial ?_ ⟨h0, h1, word.length + 1, by dsimp only; omega, rfl⟩ ?_
  · kst_all
  · rintro ⟨st, t⟩ u h tk _ ⟨p0, p1, f, p2, p3⟩ F3 N3
    dsimp only at *
    clear F2 N'
    obtain ⟨f, rfl⟩ : ∃ g, f = g + 1 := ⟨f - 1, by omega⟩
    rw [nxt] at p3
    k_steps
    iterate 2
      · have hj := hmono (st - 1).toNat (by omega)
        refine' ksw_end (tbl.getD (st - 1).toNat 0, _) ‹_› ‹_› (fun _ h => h) trivial ?hk ?hr ?hp ?hm
        case hk => kst_all
        case hr =>
          intro z h2 h3
          simp only [List.forall_mem_cons, List.not_mem_nil, false_implies, implies_true, and_true, ne_eq] at h2
          simp [kstB, h2]
        case hp =>
          refine ⟨hj.1, by dsimp only; omega, f, by dsimp only; omega, ?_⟩
          rw [if_pos (by simp_all)] at p3
          exact p3
        case hm => dsimp only; omega
    all_goals first
      | omega
      | (refine cb_retI ret ?_ (by assumption) (by assumption)
         rw [if_neg (by intro hc; have hc1 := hc.1; rcases hc.2 with e | e <;> first | omega | (have e2 : (Txt.item word st != sign) = false := (by assumption); rw [e2] at e; cases e))] at p3
         unfold nextF
         rw [← p3]
         simp_all)

/-! the law's own `_law_chain` -/
def chn (tbl : List Int) : Nat → List Int → List Int
  | 0, c => c
  | f + 1, c => if 0 < c.getD (Int.toNat 0) 0 then chn tbl f (tbl.getD (c.getD (Int.toNat 0) 0 - 1).toNat 0 :: c) else c
def chainF (tbl : List Int) (st : Int) : List Int := chn tbl (st.toNat + 1) [st]

theorem chain_call {w : World} {mean : ExcName → Option Value} {mg mb : Str → Option Value} {dp un : Nat} {gd : Option (List Code)} {cn : Str} {cs : Scope} {a : Addr} {ccd : Value} {cl : List (Str × Addr)} {outer : List Env} {A₀ : Around} {base h₀ : Heap} {L : Addr} {m : Str → Option Value} {s : Shared} {Q E : Value → Shared → Prop}
  {rest : List (Addr × Obj)} {lt : Addr} {vs : List Value} {n : Nat} {tbl : List Int} {ts : Tok} {state : Int}
  (B : Below A₀ base outer h₀) (F : Fr h₀ L s.heap m) (X : (top.heap_39 w.params).In h₀) (N : News h₀ L s.heap ((lt, listOf vs.toArray n) :: rest)) (T : Top top.view_39 (looseW top.view_39 []) mean mg mb h₀) (hk : cs.kind = .function)
  (hi : IntsAre vs tbl) (hb : tbl.length < 2 ^ 20)
  (h0 : 0 ≤ state) (h1 : state ≤ tbl.length) (hmono : Tame tbl)
  (hdp : dp + 1 < recursionLimit) (hu : un + 8 < cLine)
  (ret : ∀ (l : Addr) (ws : List Value) (k : Nat) (h' : Heap) (tk' : Nat), Fr h₀ L h' m → News h₀ L h' ((l, listOf ws.toArray k) :: (lt, listOf vs.toArray n) :: rest) → IntsAre ws (chainF tbl state) → Q (.ref l) { s with heap := h', toks := tk' }) :
  wpAny (model PySem.Challenge.rw_mq0116_01.row.prog w) (ktrTop dp un gd cn cs L a ccd cl outer) (call (.ref 42) [.ref lt, .int state ts]) Q E s := by
  refine wpAny_call ?_
  k_dflt cell_enter
  rename_i g' L' h' FG' F' N' B' X' T'
  have F2 : Fr g' L' h' (fun y => List.lookup y [(Str.ofString "state", .int state ts), (Str.ofString "table", .ref lt)]) := by with_unfolding_all exact F'
  clear F'
  refine wpAny_execs_cons ?_
  refine cutQ ?_
  intro R hR
  k_steps
  rw [hR]
  dsimp only
  refine wpAny_execs_cons ?_
  rename_i l hx l1 h2 F3 N3
  with_unfolding_all refine ksw_while (σ := List Int × List Value × Nat) (fun c => (l, listOf c.2.1.toArray c.2.2) :: (lt, listOf vs.toArray n) :: rest) (fun _ => []) (fun c => IntsAre c.2.1 c.1) [] (fun c => 0 ≤ c.1.getD (Int.toNat 0) 0 ∧ c.1.getD (Int.toNat 0) 0 ≤ tbl.length ∧ 0 < c.1.length ∧ c.1.length + c.1.getD (Int.toNat 0) 0 ≤ state + 1 ∧ ∃ f, (c.1.getD (Int.toNat 0) 0).toNat < f ∧ chn tbl f c.1 = chainF tbl state) (fun c => (c.1.getD (Int.toNat 0) 0).toNat) ([state], [.int state ts], 0) F3 N3 ?_ ?_ ⟨h0, h1, Nat.one_pos, by simp; omega, _, Nat.lt_succ_self _, rfl⟩ ?_
  · exact .cons _ _ .nil
  · intro p hp; cases hp
  · rintro ⟨ns, ws, k⟩ u h tk hf ⟨p0, p1, p2, p3, f, p4, p5⟩ F4 N4
    dsimp only at *
    clear F3 N3
    obtain ⟨f, rfl⟩ : ∃ g, f = g + 1 := ⟨f - 1, by omega⟩
    rw [chn] at p5
    k_steps
    · have hl := hf.length
      refine kl_insert (x := 0) (by assumption) (by assumption) (by rfl) rfl (by k_upd) (by rw [sizeLine_eq]; dsimp only; omega) ?_
      intro h5 F5 N5
      refine wpAny_execs_nil ?_
      have hj := hmono (ns.getD (Int.toNat 0) 0 - 1).toNat (by omega)
      refine ksw_end (tbl.getD (ns.getD (Int.toNat 0) 0 - 1).toNat 0 :: ns, .int (tbl.getD (ns.getD (Int.toNat 0) 0 - 1).toNat 0) _ :: ws, k + 1) F5 (by simpa [kl_ins] using N5) (fun _ h => h) (.cons _ _ hf) (fun p hp => nomatch hp) ?_ ⟨hj.1, ?_, Nat.succ_pos _, ?_, f, ?_, ?_⟩ ?_
      · intro z _ _; simp [kstB]
      · show tbl.getD (ns.getD (Int.toNat 0) 0 - 1).toNat 0 ≤ _; omega
      · show ((ns.length + 1 : Nat) : Int) + tbl.getD (ns.getD (Int.toNat 0) 0 - 1).toNat 0 ≤ _; omega
      · show (tbl.getD (ns.getD (Int.toNat 0) 0 - 1).toNat 0).toNat < _; omega
      · rw [if_pos (by assumption)] at p5; exact p5
      · show (tbl.getD (ns.getD (Int.toNat 0) 0 - 1).toNat 0).toNat < (ns.getD (Int.toNat 0) 0).toNat; omega
    · rw [if_neg (by assumption)] at p5
      subst p5
      exact ret _ _ _ _ _ (by assumption) (by assumption) (by assumption)

section
open PySem.Builtin PySem.Builtin.Str
/-- find with both bounds -/
def find4 (x y : Str) (i j : Int) : Int := match occurrences x y (fromIndex x.length i) (min (fromIndex x.length j) x.length) 1 with | k :: _ => (k : Int) | [] => -1
theorem gives_find4 (x y : Str) (i j : Int) (t u v z : Tok) : Gives («str.find» ⟨[.str x t, .str y u, .int i v, .int j z], []⟩) (.int (find4 x y i j)) := by
  show Gives (match occurrences x y (fromIndex x.length i) (min (fromIndex x.length j) x.length) 1 with | k :: _ => retInt k | [] => (do rule "str.find.not-found"; retInt (-1))) _
  unfold find4
  cases occurrences x y (fromIndex x.length i) (min (fromIndex x.length j) x.length) 1 with
  | nil => exact .rule (.of_eq rfl)
  | cons k _ => exact .of_eq rfl
theorem call_find4 {prog : Program} {w : World} {A : Around} {E : Value → Shared → Prop} {s : Shared} {x y : Str} {t u v z : Tok} {i j : Int} {Q : Value → Shared → Prop}
    (hq : Q (.int (find4 x y i j) s.toks) { s with toks := s.toks + 1 }) : wpAny (model prog w) A (call (.builtin "str.find") [.str x t, .str y u, .int i v, .int j z]) Q E s :=
  call_gives F.slot_str_find (typeIs_str _ _ _) F.entry_str_find (F.args_str_find_4 _ _ _ _) (gives_find4 x y i j t u v z) hq
end
local macro_rules | `(tactic| walk_at "call builtin:str.find") => `(tactic| refine call_find4 ?_)
theorem delL_last : ∀ {l : List Value}, l ≠ [] → ki_delL l (l.length - 1) = some l.dropLast
  | [], h => absurd rfl h
  | [_], _ => rfl
  | a :: b :: r, _ => by
    have ih := delL_last (l := b :: r) (by simp)
    have e : (a :: b :: r).length - 1 = ((b :: r).length - 1) + 1 := by simp
    rw [e, ki_delL, ih]
    rfl
theorem strs_dropLast : ∀ {vs : List Value} {ss : List Str}, StrsAre vs ss → StrsAre vs.dropLast ss.dropLast
  | _, _, .nil => .nil
  | _, _, .cons _ _ .nil => .nil
  | _, _, .cons x t (.cons y u r) => .cons x t (strs_dropLast (.cons y u r))

/-! `_ellipsis_match` -/
def dots : Str := Str.ofString "..."
def ellLoop (got : Str) (e : Int) : List Str → Int → Bool
  | [], _ => true
  | w :: r, sp => if find4 got w sp e < 0 then false else ellLoop got e r (find4 got w sp e + w.length)
def ellB2 (got : Str) (ws : List Str) (sp ep : Int) : Bool := if ep < sp then false else ellLoop got ep ws sp
def ellB1 (got : Str) (ws : List Str) (sp : Int) : Bool :=
  if ((ws.getD (-1 + (ws.length : Int)).toNat Str.empty).length : Int) = 0 then ellB2 got ws sp got.length
  else if Txt.endswith got (ws.getD (-1 + (ws.length : Int)).toNat Str.empty) then ellB2 got ws.dropLast sp (got.length - (ws.getD (-1 + (ws.length : Int)).toNat Str.empty).length) else false
def ellB0 (got : Str) : List Str → Bool
  | [] => false
  | x :: tl => if (x.length : Int) = 0 then ellB1 got (x :: tl) 0 else if Txt.startswith got x then ellB1 got tl x.length else false
def ellF (want got : Str) : Bool :=
  if (Builtin.Str.occurrences want (Str.ofString "...") 0 want.length 1).isEmpty then want == got else ellB0 got (Txt.split want (Str.ofString "..."))

theorem ell_call {w : World} {mean : ExcName → Option Value} {mg mb : Str → Option Value} {dp un : Nat} {gd : Option (List Code)} {cn : Str} {cs : Scope} {a : Addr} {ccd : Value} {cl : List (Str × Addr)} {outer : List Env} {A₀ : Around} {base h₀ : Heap} {L : Addr} {m : Str → Option Value} {s : Shared} {Q E : Value → Shared → Prop}
  {rest : List (Addr × Obj)} {want got : Str} {tw tg : Tok}
  (B : Below A₀ base outer h₀) (F : Fr h₀ L s.heap m) (X : (top.heap_39 w.params).In h₀) (N : News h₀ L s.heap rest) (T : Top top.view_39 (looseW top.view_39 []) mean mg mb h₀) (hk : cs.kind = .function)
  (hsp : 2 ≤ (Txt.split want (Str.ofString "...")).length) (hsq : (Txt.split want (Str.ofString "...")).length < 2 ^ 20) (hw1 : want.length < 2 ^ 20) (hg1 : got.length < 2 ^ 20)
  (hdp : dp + 1 < recursionLimit) (hu : un + 8 < cLine)
  (ret : ∀ (t : Tok) (h' : Heap) (tk' : Nat), Fr h₀ L h' m → News h₀ L h' rest → Q (.bool (ellF want got)) { s with heap := h', toks := tk' }) :
  wpAny (model PySem.Challenge.rw_mq0116_01.row.prog w) (ktrTop dp un gd cn cs L a ccd cl outer) (call (.ref 28) [.str want tw, .str got tg]) Q E s := by
  refine wpAny_call ?_
  k_dflt cell_enter
  rename_i g' L' h' FG' F' N' B' X' T'
  have F2 : Fr g' L' h' (fun y => List.lookup y [(Str.ofString "got", .str got tg), (Str.ofString "want", .str want tw)]) := by with_unfolding_all exact F'
  clear F'
  have hne : ∀ p ∈ rest, p.1 ≠ h'.objs.size := fun p hp => Nat.ne_of_lt (Heap.lt_size (N' p hp).1)
  refine anyTk ?_
  intro tk0
  refine wpAny_execs_cons ?_
  refine cutQ ?_
  intro R hR
  k_steps
  · rename_i hoc
    rw [hR]
    dsimp only
    k_steps
    refine cb_retB ret ?_ (by assumption) (by assumption)
    simp only [ellF, hoc, if_true]
  · rename_i hoc
    have hF : ellF want got = ellB0 got (Txt.split want (Str.ofString "...")) := by simp only [ellF, hoc, Bool.false_eq_true, if_false]
    rw [hF] at ret
    clear hoc hF
    rw [hR]
    clear hR
    dsimp only
    refine wpAny_execs_cons ?_
    refine cutQ ?_
    intro R2 hR2
    k_steps
    rename_i ls hx kx e1 hst e2 _ hy F3 N3
    generalize strValues ls = vs at hst N3
    generalize ls.map (fun x => x.1) = wsl at e1 hst e2
    rw [← e1] at hsp hsq ret
    rw [hR2]
    clear hR2
    dsimp only
    refine anyTk ?_
    intro tk1
    generalize h'.objs.size = D at F3 N3 hne
    replace N3 : News g' L' hy ((D, listOf vs.toArray 0) :: rest) := N3
    have hvl := hst.length
    have hMk := kstMark
    refine wpAny_execs_cons ?_
    refine cutQ ?_
    intro R3 hR3
    k_steps
    rw [hR3]
    clear hR3
    dsimp only
    refine anyTk ?_
    intro tk2
    clear hvl
    obtain ⟨x, tl, rfl⟩ : ∃ x tl, wsl = x :: tl := by
      cases wsl with
      | nil => simp at hsp
      | cons x tl => exact ⟨x, tl, rfl⟩
    obtain ⟨tx, vtl, rfl, hst⟩ := hst.cons_inv
    have hx1 := e2 x List.mem_cons_self
    refine wpAny_execs_cons ?_
    refine cutQ ?_
    intro R4 hR4
    k_steps
    rw [hR4]
    clear hR4
    dsimp only
    refine anyTk ?_
    intro tk3
    rename_i l1 _ _ h4 F4 N4
    replace N4 : News g' L' h4 ((D, listOf (Value.str x tx :: vtl).toArray 0) :: rest) := kst_newsOf N4 (fun p hp => List.mem_cons_of_mem _ hp)
    obtain ⟨t1, t2, F5⟩ : ∃ t1 t2, Fr g' L' h4 (fun y => if y = Str.ofString "startpos" then some (Value.int 0 t1) else if y = Str.ofString "endpos" then some (Value.int got.length t2) else if y = Str.ofString "ws" then some (Value.ref D)
      else List.lookup y [(Str.ofString "got", Value.str got tg), (Str.ofString "want", Value.str want tw)]) := ⟨_, _, F4⟩
    clear F4
    refine wpAny_execs_cons ?_
    refine cutQ ?_
    intro R5 hR5
    k_steps
    rw [hR5]
    clear hR5
    dsimp only
    refine anyTk ?_
    intro tk4
    rename_i t3 h6 F6 N6
    replace F6 : Fr g' L' h6 (fun y => if y = Str.ofString "w" then some (Value.str x t3) else if y = Str.ofString "startpos" then some (Value.int 0 t1) else if y = Str.ofString "endpos" then some (Value.int got.length t2) else if y = Str.ofString "ws" then some (Value.ref D)
      else List.lookup y [(Str.ofString "got", Value.str got tg), (Str.ofString "want", Value.str want tw)]) := F6
    refine wpAny_execs_cons ?_
    refine cutQ ?_
    intro R6 hR6
    have join1 : ∀ (ws1 : List Str) (vs1 : List Value) (n1 : Nat) (sp : Int) (t5 : Tok) (u : Str → Option Value) (h7 : Heap) (tk7 : Nat), 1 ≤ ws1.length → ws1.length < 2 ^ 20 → (∀ b ∈ ws1, b.length ≤ want.length) → StrsAre vs1 ws1 →
        ellB1 got ws1 sp = ellB0 got (x :: tl) →
        Fr g' L' h7 (kstB (fun z => if [Str.ofString "w"].contains z then u z else if z = Str.ofString "startpos" then some (Value.int 0 t1) else if z = Str.ofString "endpos" then some (Value.int got.length t2) else if z = Str.ofString "ws" then some (Value.ref D)
          else List.lookup z [(Str.ofString "got", Value.str got tg), (Str.ofString "want", Value.str want tw)]) [(Str.ofString "startpos", .int sp t5)]) →
        News g' L' h7 ((D, listOf vs1.toArray n1) :: rest) → R6 .next { s with heap := h7, toks := tk7 } := by
      clear hst hx1 e1 hsp F6 N6 e2
      generalize ellB0 got (x :: tl) = res at ret
      intro ws1 vs1 n1 sp t5 u h7 tk7 hw1 hw2 hw3 hst hres F7 N7
      rw [hR6]
      clear hR6
      dsimp only
      refine wpAny_execs_cons ?_
      refine cutQ ?_
      intro R7 hR7
      k_steps
      rw [hR7]
      clear hR7
      dsimp only
      refine anyTk ?_
      intro tk8
      rename_i t6 h8 F8 N8
      have hlm : ws1.getD (-1 + (ws1.length : Int)).toNat Str.empty ∈ ws1 := by
        have hlt : (-1 + (ws1.length : Int)).toNat < ws1.length := by omega
        simp [List.getD, hlt]
      have hlw := hw3 _ hlm
      clear hlm
      unfold ellB1 at hres
      generalize hla : ws1.getD (-1 + (ws1.length : Int)).toNat Str.empty = lst at *
      refine wpAny_execs_cons ?_
      refine cutQ ?_
      intro R8 hR8
      have join2 : ∀ (ws2 : List Str) (vs2 : List Value) (n2 : Nat) (ep : Int) (t7 : Tok) (u2 : Str → Option Value) (h9 : Heap) (tk9 : Nat), ws2.length < 2 ^ 20 → (∀ b ∈ ws2, b.length ≤ want.length) → StrsAre vs2 ws2 →
        ellB2 got ws2 sp ep = res →
        Fr g' L' h9 (kstB (fun z => if [Str.ofString "w"].contains z then u2 z else if z = Str.ofString "startpos" then some (Value.int 0 t1) else if z = Str.ofString "endpos" then some (Value.int got.length t2) else if z = Str.ofString "ws" then some (Value.ref D)
          else List.lookup z [(Str.ofString "got", Value.str got tg), (Str.ofString "want", Value.str want tw)]) [(Str.ofString "startpos", .int sp t5), (Str.ofString "endpos", .int ep t7)]) →
        News g' L' h9 ((D, listOf vs2.toArray n2) :: rest) → R8 .next { s with heap := h9, toks := tk9 } := by
        clear hst hw1 hw2 hw3 hla hlw hres F8 N8
        intro ws2 vs2 n2 ep t7 u2 h9 tk9 hw2 hw3 hst hres F9 N9
        rw [hR8]
        clear hR8
        dsimp only
        unfold ellB2 at hres
        refine wpAny_execs_cons ?_
        refine cutQ ?_
        intro R9 hR9
        k_steps
        · rw [hR9]
          dsimp only
          k_steps
          refine cb_retB ret ?_ (by assumption) (kst_newsOf (by assumption) (fun p hp => List.mem_cons_of_mem _ hp))
          rw [if_pos (by assumption)] at hres
          exact hres
        · rename_i hse
          rw [if_neg (by assumption)] at hres
          rw [hR9]
          clear hR9
          dsimp only
          refine anyTk ?_
          intro tk10
          refine wpAny_execs_cons ?_
          refine cutQ ?_
          intro R10 hR10
          refine For_invV g' rfl rfl ?_
          refine cutQ ?_
          intro R11 hR11
          k_steps
          rw [hR11]
          clear hR11
          dsimp only
          refine anyTk ?_
          intro tk11
          refine kdl_iter (fun i m nx => nx = (D, listOf vs2.toArray n2) :: rest ∧ ∃ sp' t', m (Str.ofString "startpos") = some (Value.int sp' t') ∧ m (Str.ofString "endpos") = some (Value.int ep t7) ∧
            (∀ z, z ≠ Str.ofString "w" → z ≠ Str.ofString "startpos" → z ≠ Str.ofString "endpos" → m z = if z = Str.ofString "ws" then some (Value.ref D) else List.lookup z [(Str.ofString "got", Value.str got tg), (Str.ofString "want", Value.str want tw)]) ∧ ellLoop got ep (ws2.drop i) sp' = res)
            (by rfl) List.mem_cons_self F9 N9 ⟨rfl, sp, t5, by rfl, by rfl, ?_, hres⟩ ?_ ?_
          · intro z z1 z2 z3
            simp [kstB, z1, z2, z3]
          · rintro i v m₁ news₁ h10 tk12 own hv hoff _ ⟨rfl, sp', t', a1, a2, a3, a4⟩ F10 N10
            obtain ⟨y, ty, rfl, hy⟩ := hst.item i v hv
            have hyw := hw3 y (List.mem_of_getElem? hy)
            have hdr : ws2.drop i = y :: ws2.drop (i + 1) := by
              obtain ⟨hlt, he⟩ := List.getElem?_eq_some_iff.mp hy
              rw [List.drop_eq_getElem_cons hlt, he]
            rw [hdr, ellLoop] at a4
            replace F10 := kst_fr (x := Str.ofString "w") (ps := [(Str.ofString "startpos", Value.int sp' t'), (Str.ofString "endpos", Value.int ep t7)]) (stored := []) (m₀ := fun z => if z = Str.ofString "ws" then some (Value.ref D) else List.lookup z [(Str.ofString "got", Value.str got tg), (Str.ofString "want", Value.str want tw)]) (by
              intro p hp
              simp only [List.mem_cons, List.not_mem_nil, or_false] at hp
              rcases hp with rfl | rfl
              · exact a1
              · exact a2) (by
              intro z z1 z2 _
              simp only [List.forall_mem_cons, List.not_mem_nil, false_implies, implies_true, and_true, ne_eq] at z2
              exact a3 z z1 z2.1 z2.2) F10
            clear a1 a2 a3 F9 N9
            refine cutQ ?_
            intro R12 hR12
            k_steps
            · show R12 (.ret (.bool false)) _
              rw [hR12]
              show R10 (.ret (.bool false)) _
              rw [hR10]
              dsimp only
              k_steps
              refine cb_retB ret ?_ (by assumption) (kst_newsOf (by assumption) (fun p hp => List.mem_cons_of_mem _ (List.mem_append_left _ hp)))
              rw [if_pos (by assumption)] at a4
              exact a4
            · rw [hR12]
              rw [if_neg (by assumption)] at a4
              refine InvEndG.intro (nx := (D, listOf vs2.toArray n2) :: rest) (by assumption) (by assumption) ⟨List.mem_cons_self, rfl, _, _, by rfl, by rfl, ?_, a4⟩ hoff (fun p hp => List.mem_append_left _ hp) (fun p hp => List.mem_append_right _ hp)
              intro z z1 z2 z3
              simp [kstB, z1, z2, z3]
          · rintro m₁ news₁ h10 tk12 ⟨rfl, sp', t', a1, a2, a3, a4⟩ F10 N10
            rw [hst.length, List.drop_length, ellLoop] at a4
            rw [hR10]
            dsimp only
            clear a1 a2 a3 F9 N9
            k_steps
            exact cb_retB ret a4 (by assumption) (kst_newsOf (by assumption) (fun p hp => List.mem_cons_of_mem _ hp))
      k_steps
      · rename_i hl0 hen _ _ _ _
        have hvn : vs1 ≠ [] := by
          intro e
          have := hst.length
          rw [e] at this
          simp at this
          omega
        have hvl := hst.length
        have hsi : seqIndex? (-1) vs1.toArray.size = some (vs1.length - 1) := by
          rw [seqIndex_neg (by omega) (by rw [List.size_toArray]; omega), List.size_toArray]
          congr 1
          omega
        refine ki_del (q := vs1.dropLast) (by assumption) (by assumption) (by rfl) hsi (delL_last hvn) (.head hne) (by rw [sizeLine_eq]; show vs1.length ≤ _; omega) ?_
        intro h11 F11 N11
        k_steps
        rw [if_neg (by assumption), if_pos (by assumption)] at hres
        refine' join2 ws1.dropLast vs1.dropLast _ _ _ _ _ _ (by rw [List.length_dropLast]; omega) (fun b hb => hw3 b (List.dropLast_subset _ hb)) (strs_dropLast hst) hres (ksw_fr (stored := [Str.ofString "w"]) ?h1 ?h2 (by assumption)) (by assumption)
        case h1 => kst_all
        case h2 =>
          intro z z1 z2
          simp only [List.forall_mem_cons, List.not_mem_nil, false_implies, implies_true, and_true, ne_eq] at z1
          simp only [List.contains_cons, List.contains_nil, Bool.or_false, beq_eq_false_iff_ne, ne_eq] at z2
          simp [kstB, z1, z2]
      · show R8 (.ret (.bool false)) _
        rw [hR8]
        dsimp only
        k_steps
        refine cb_retB ret ?_ (by assumption) (kst_newsOf (by assumption) (fun p hp => List.mem_cons_of_mem _ hp))
        rw [if_neg (by assumption)] at hres
        simp_all
      · rw [if_pos (by assumption)] at hres
        refine' join2 ws1 vs1 _ _ _ _ _ _ hw2 hw3 hst hres (ksw_fr (stored := [Str.ofString "w"]) ?h1 ?h2 (by assumption)) (by assumption)
        case h1 => kst_all
        case h2 =>
          intro z z1 z2
          simp only [List.forall_mem_cons, List.not_mem_nil, false_implies, implies_true, and_true, ne_eq] at z1
          simp only [List.contains_cons, List.contains_nil, Bool.or_false, beq_eq_false_iff_ne, ne_eq] at z2
          simp [kstB, z1, z2]
    k_steps
    · have hvl := hst.length
      have hsp2 : 2 ≤ tl.length + 1 := hsp
      have hsq2 : tl.length + 1 < 2 ^ 20 := hsq
      have hsi : seqIndex? 0 (Value.str x tx :: vtl).toArray.size = some 0 := by
        unfold seqIndex?
        simp
      refine ki_del (q := vtl) (by assumption) (by assumption) (by rfl) hsi (by rfl) (.head hne) (by rw [sizeLine_eq]; show vtl.length + 1 ≤ _; omega) ?_
      intro h11 F11 N11
      k_steps
      refine' join1 tl vtl _ (x.length : Int) _ _ _ _ (by omega) (by omega) (fun b hb => e2 b (List.mem_cons_of_mem _ hb)) hst ?eq (ksw_fr (stored := [Str.ofString "w"]) ?h1 ?h2 (by assumption)) (by assumption)
      case h1 => kst_all
      case eq => rw [ellB0, if_neg (by assumption), if_pos (by assumption)]
      case h2 =>
        intro z z1 z2
        simp only [List.forall_mem_cons, List.not_mem_nil, false_implies, implies_true, and_true, ne_eq] at z1
        simp only [List.contains_cons, List.contains_nil, Bool.or_false, beq_eq_false_iff_ne, ne_eq] at z2
        simp [z1, z2]
    · show R6 (.ret (.bool false)) _
      rw [hR6]
      dsimp only
      k_steps
      refine cb_retB ret ?_ (by assumption) (kst_newsOf (by assumption) (fun p hp => List.mem_cons_of_mem _ hp))
      rw [ellB0, if_neg (by assumption)]
      simp_all
    · refine' join1 (x :: tl) (Value.str x tx :: vtl) _ 0 _ _ _ _ (by simp) hsq e2 (.cons _ _ hst) ?eq (ksw_fr (stored := [Str.ofString "w"]) ?h1 ?h2 (by assumption)) (by assumption)
      case h1 => kst_all
      case eq => rw [ellB0, if_pos (by assumption)]
      case h2 =>
        intro z z1 z2
        simp only [List.forall_mem_cons, List.not_mem_nil, false_implies, implies_true, and_true, ne_eq] at z1
        simp only [List.contains_cons, List.contains_nil, Bool.or_false, beq_eq_false_iff_ne, ne_eq] at z2
        simp [z1, z2]

/-! a for over a range whose name is a cell; a comprehension's turns with a test -/
section
variable {prog : Program} {w : World} {A : Around} {E : Value → Shared → Prop} {s : Shared} {env : Env} {h₀ : Heap}
theorem forCell {x y : Str} {px : Pos} {body : List Stmt} {Q : Flow → Shared → Prop} {r : Addr} {a₀ b₀ : Int} {t₀ u₀ v₀ : Tok} {n : Nat} {m₀ : Str → Option Value} {c : Addr} {oc : Obj} {news : List (Addr × Obj)}
    (P : Nat → Prop) (hk : env.scope.kind = .function) (hx : env.kindOf x = some .cell) (hc : env.cells.lookup x = some c)
    (hh : A.handled = none) (hr : IsRange s.heap r a₀ b₀ 1 t₀ u₀ v₀) (hsmall : Builtin.Range.small a₀ b₀ 1 = true) (hn : Builtin.Range.rangeSize a₀ b₀ 1 = (n : Int))
    (F : Fr h₀ env.locals s.heap m₀) (N : News h₀ env.locals s.heap ((c, oc) :: news)) (hoc : ∃ v, oc.data = .cell v) (hcn : ∀ p ∈ news, p.1 ≠ c) (hP : P 0)
    (turn : ∀ i t (u : Str → Option Value) h tk o I oI, i < n → P i → o.data = .cell (some (.int (a₀ + (i : Int)) t)) → I ≠ c → (∀ p ∈ news, p.1 ≠ I) → Fr h₀ env.locals h (fun z => if z = y then u z else m₀ z) → News h₀ env.locals h ((c, o) :: (I, oI) :: news) →
      wpAny (model prog w) A (execs body env) (fun f s' => match f with
        | .ret v => Q (.ret v) s'
        | .brk => Q .next s'
        | _ => P (i + 1) ∧ ∃ (h' : Heap) (tk' : Nat) (u' : Str → Option Value) (o' : Obj), s' = { s with heap := h', toks := tk' } ∧ Fr h₀ env.locals h' (fun z => if z = y then u' z else m₀ z) ∧ News h₀ env.locals h' ((c, o') :: (I, oI) :: news) ∧ ∃ v, o'.data = .cell v) E { s with heap := h, toks := tk })
    (done : ∀ h tk (u : Str → Option Value) o, P n → (∃ v, o.data = .cell v) → Fr h₀ env.locals h (fun z => if z = y then u z else m₀ z) → News h₀ env.locals h ((c, o) :: news) → Q .next { s with heap := h, toks := tk })
    (hE : PassesOwn (model prog w) A env E := by passes_own) :
    wpAny (model prog w) A (pyIter (.ref r)) (fun it s₂ => codeAny (model prog w) A (.forLoop (.Name x px) it body [] env) (fun r s' => match r with | .ok f => Q f s' | .error e => cameBackBy (model prog w) A env E e s') s₂) E s := by
  refine wpAny_pyIter_range hr hsmall ?_
  have W := LCg.range_walks (prog := prog) (w := w) (I := s.heap.objs.size) hh a₀ n
  have hI₀ := next_is_new F
  have hIL : env.locals ≠ s.heap.objs.size := Nat.ne_of_lt F.ns.lt
  have off : ∀ p ∈ (c, oc) :: news, p.1 ≠ s.heap.objs.size := fun p hp => Nat.ne_of_lt (Heap.lt_size (N p hp).1)
  have hIc : s.heap.objs.size ≠ c := fun q => off _ List.mem_cons_self q.symm
  have offn : ∀ p ∈ news, p.1 ≠ s.heap.objs.size := fun p hp => off p (List.mem_cons_of_mem _ hp)
  have hcN := N (c, oc) List.mem_cons_self
  have st0 : IsRangeIter (s.heap.push { cls := .type "range_iterator", data := .fields #[rawInt a₀, rawInt (Builtin.Range.rangeSize a₀ b₀ 1), rawInt 1] }) s.heap.objs.size (a₀ + ((0 : Nat) : Int) * 1) ((n : Int) - ((0 : Nat) : Int)) 1 := by
    show _ = _
    rw [hn]
    simpa using Heap.get?_push_size _ rfl
  have F0 := F.push { cls := .type "range_iterator", data := .fields #[rawInt a₀, rawInt (Builtin.Range.rangeSize a₀ b₀ 1), rawInt 1] }
  have N0 : News h₀ env.locals (s.heap.push { cls := .type "range_iterator", data := .fields #[rawInt a₀, rawInt (Builtin.Range.rangeSize a₀ b₀ 1), rawInt 1] }) ((c, oc) :: news) := N.grown fun _ _ e => Heap.get?_push_of_some _ e
  generalize s.heap.objs.size = I at *
  generalize s.heap.push { cls := .type "range_iterator", data := .fields #[rawInt a₀, rawInt (Builtin.Range.rangeSize a₀ b₀ 1), rawInt 1] } = H at *
  refine codeAny_forLoop (fun k s' => ∃ (h' : Heap) (tk : Nat) (u : Str → Option Value) (o : Obj) (i : Nat), s' = { s with heap := h', toks := tk } ∧ i ≤ n ∧ k = n + 1 - i ∧ IsRangeIter h' I (a₀ + (i : Nat) * 1) ((n : Int) - (i : Nat)) 1 ∧ Fr h₀ env.locals h' (fun z => if z = y then u z else m₀ z) ∧ News h₀ env.locals h' ((c, o) :: news) ∧ (∃ v, o.data = .cell v) ∧ P i) ?_ (n + 1)
    ⟨H, _, m₀, oc, 0, rfl, Nat.zero_le _, rfl, st0, by simpa using F0, N0, hoc, hP⟩
  rintro k s' ⟨h', tk, u, o, i, rfl, hi, rfl, hst, F', N', ⟨v₁, ho⟩, hp⟩
  have off' : ∀ p ∈ (c, o) :: news, p.1 ≠ I := fun p hp => by
    rcases List.mem_cons.mp hp with rfl | hp
    · exact Ne.symm hIc
    · exact offn p hp
  by_cases hlt : i < n
  · refine W.item i _ _ _ hlt hst fun v h₁ tk₁ hv hst₁ hk₁ => ?_
    obtain ⟨t, rfl⟩ := hv
    have F₁ := LCg.fr_but F' hk₁ hIL hI₀
    have N₁ := LCg.news_but N' hk₁ off'
    refine wpAny_assign_Name (wpAny_storeName_cell hk hx hc ⟨o, (N₁ (c, o) List.mem_cons_self).1, ho⟩ fun h₂ hv₂ hs₂ => ?_)
    obtain ⟨o₂, ho₂, hd₂⟩ := hv₂
    have F₂ : Fr h₀ env.locals h₂ (fun z => if z = y then u z else m₀ z) := F₁.change hs₂ hcN.2.1 hcN.2.2
    have N₂ : News h₀ env.locals h₂ ((c, o₂) :: news) := News.setAt (own := []) N₁ (fun _ h => nomatch h) hcn hs₂ ho₂
    have hst₂ : IsRangeIter h₂ I (a₀ + ((i + 1 : Nat) : Int) * 1) ((n : Int) - ((i + 1 : Nat) : Int)) 1 := (hs₂.2 I hIc).trans hst₁
    obtain ⟨oI, hoI, hsome⟩ : ∃ oI, h₂.get? I = some oI ∧ ∀ h₃ : Heap, h₃.get? I = some oI → IsRangeIter h₃ I (a₀ + ((i + 1 : Nat) : Int) * 1) ((n : Int) - ((i + 1 : Nat) : Int)) 1 := ⟨_, hst₂, fun h₃ e => e⟩
    have N₃ : News h₀ env.locals h₂ ((c, o₂) :: (I, oI) :: news) := fun p hp => by
      rcases List.mem_cons.mp hp with rfl | hp
      · exact N₂ _ List.mem_cons_self
      · rcases List.mem_cons.mp hp with rfl | hp
        · exact ⟨hoI, Ne.symm hIL, hI₀⟩
        · exact N₂ p (List.mem_cons_of_mem _ hp)
    refine wpAny_mono (wpAny_passesOwn hE (turn i t u h₂ _ o₂ I oI hlt hp hd₂ hIc offn F₂ N₃)) (fun f s₃ h₃ => ?_) fun _ _ e => e
    have fin : (P (i + 1) ∧ ∃ (h' : Heap) (tk' : Nat) (u' : Str → Option Value) (o' : Obj), s₃ = { s with heap := h', toks := tk' } ∧ Fr h₀ env.locals h' (fun z => if z = y then u' z else m₀ z) ∧ News h₀ env.locals h' ((c, o') :: (I, oI) :: news) ∧ ∃ v, o'.data = .cell v) →
        ∃ m, m < n + 1 - i ∧ ∃ (h' : Heap) (tk : Nat) (u : Str → Option Value) (o : Obj) (i : Nat), s₃ = { s with heap := h', toks := tk } ∧ i ≤ n ∧ m = n + 1 - i ∧ IsRangeIter h' I (a₀ + (i : Nat) * 1) ((n : Int) - (i : Nat)) 1 ∧ Fr h₀ env.locals h' (fun z => if z = y then u z else m₀ z) ∧ News h₀ env.locals h' ((c, o) :: news) ∧ (∃ v, o.data = .cell v) ∧ P i := by
      rintro ⟨hp', g₃, tk₃, u₃, o₃, rfl, F₃, N₃, hd₃⟩
      refine ⟨n + 1 - (i + 1), by omega, g₃, tk₃, u₃, o₃, i + 1, rfl, hlt, rfl, ?_, F₃, ?_, hd₃, hp'⟩
      · exact hsome g₃ (N₃ (I, oI) (List.mem_cons_of_mem _ List.mem_cons_self)).1
      · intro p hp
        rcases List.mem_cons.mp hp with rfl | hp
        · exact N₃ _ List.mem_cons_self
        · exact N₃ p (List.mem_cons_of_mem _ (List.mem_cons_of_mem _ hp))
    cases f with
    | ret v => exact h₃
    | brk => exact h₃
    | cont => exact fin h₃
    | next => exact fin h₃
  · have hin : i = n := by omega
    subst hin
    refine W.done _ _ _ hst fun h₁ tk₁ hk₁ => wpAny_execs_nil ?_
    exact done h₁ tk₁ u o hp ⟨v₁, ho⟩ (LCg.fr_but F' hk₁ hIL hI₀) (LCg.news_but N' hk₁ off')

open LCg LCt in
theorem restT {L : Addr} {m : Str → Option Value} {ct elt : Expr} {x : Str} {scope : Scope} {cl : List (Str × Addr)} {S : List (Addr × Obj) → Prop} {Pv : Nat → Value → Prop} {Fin : List Value → List (Addr × Obj) → Prop} {news : List (Addr × Obj)} (p : Nat → Bool) (g : Nat → Int) (n : Nat) (hS : S news)
    (turn : ∀ i v I oI C oC D ys m₂ h tk (E' : Value → Shared → Prop), i < n → Pv i v → NsObj oC m₂ → m₂ x = some v → Fr h₀ L h m → News h₀ L h ((I, oI) :: (C, oC) :: (D, lst ys) :: news) → Off3 I C D news → ((@Ne Nat I C) ∧ (@Ne Nat I D) ∧ (@Ne Nat C D)) →
      wpAny (model prog w) A (isTrue ct (compEnvC scope cl C env) (eval ct (compEnvC scope cl C env))) (fun ok s' => ok = p i ∧ ∃ h' tk', s' = { s with heap := h', toks := tk' } ∧ Fr h₀ L h' m ∧ News h₀ L h' ((I, oI) :: (C, oC) :: (D, lst ys) :: news)) E' { s with heap := h, toks := tk })
    (elem : ∀ i v I oI C oC D ys m₂ h tk (E' : Value → Shared → Prop), i < n → Pv i v → NsObj oC m₂ → m₂ x = some v → Fr h₀ L h m → News h₀ L h ((I, oI) :: (C, oC) :: (D, lst ys) :: news) → Off3 I C D news → ((@Ne Nat I C) ∧ (@Ne Nat I D) ∧ (@Ne Nat C D)) →
      wpAny (model prog w) A (eval elt (compEnvC scope cl C env)) (fun y s' => (∃ t, y = .int (g i) t) ∧ ∃ h' tk', s' = { s with heap := h', toks := tk' } ∧ Fr h₀ L h' m ∧ News h₀ L h' ((I, oI) :: (C, oC) :: (D, lst ys) :: news)) E' { s with heap := h, toks := tk })
    (fin : ∀ ys, IntsAre ys (((List.range n).filter p).map g) → Fin ys news) :
    CompRestT prog w A h₀ L m env ct elt x scope cl s S Pv Fin n 0 [] news := by
  have gen : ∀ k i ys, k + i = n → IntsAre ys (((List.range i).filter p).map g) → CompRestT prog w A h₀ L m env ct elt x scope cl s S Pv Fin k i ys news := by
    intro k
    induction k with
    | zero =>
      intro i ys e hy
      obtain rfl : i = n := by omega
      exact CompRestT.zero (fin ys hy)
    | succ k ih =>
      intro i ys e hy
      refine CompRestT.succ ?_
      intro v I oI C oC D m₂ h tk E' hv hC hx F N off ne
      refine wpAny_mono (turn i v I oI C oC D ys m₂ h tk E' (by omega) hv hC hx F N off ne) (fun ok s' h₁ => ?_) fun _ _ e => e
      obtain ⟨rfl, h', tk', rfl, F', N'⟩ := h₁
      by_cases hp : p i = true
      · rw [if_pos hp]
        refine wpAny_mono (elem i v I oI C oC D ys m₂ h' tk' E' (by omega) hv hC hx F' N' off ne) (fun y s' h₂ => ?_) fun _ _ e => e
        obtain ⟨⟨t, rfl⟩, h₂, tk₂, rfl, F₂, N₂⟩ := h₂
        refine ⟨h₂, tk₂, news, rfl, F₂, N₂, off, hS, ih (i + 1) _ (by omega) ?_⟩
        rw [List.range_succ, List.filter_append, List.map_append]
        refine hy.append ?_
        have e1 : List.map g (List.filter p [i]) = [g i] := by simp [hp]
        rw [e1]
        exact .cons _ _ .nil
      · rw [if_neg hp]
        refine ⟨h', tk', news, rfl, F', N', off, hS, ih (i + 1) _ (by omega) ?_⟩
        rw [List.range_succ, List.filter_append, List.map_append]
        have e1 : List.map g (List.filter p [i]) = [] := by simp [hp]
        rw [e1, List.append_nil]
        exact hy
  exact gen n 0 [] (by omega) .nil
end

def ab (k : Int) : Str := Txt.item (Str.ofString "ab") (Int.fmod k 2)
theorem fmod2 (k : Int) : Int.fmod k 2 = 0 ∨ Int.fmod k 2 = 1 := by
  have e := Int.fmod_eq_emod_of_nonneg k (b := 2) (by omega)
  omega
theorem ab_cases (k : Int) : ab k = Str.ofString "a" ∨ ab k = Str.ofString "b" := by
  unfold ab
  rcases fmod2 k with e | e
  · rw [e]; left; decide +kernel
  · rw [e]; right; decide +kernel
theorem ab_length (k : Int) : (ab k).length = 1 := by
  rcases ab_cases k with e | e <;> rw [e] <;> decide +kernel
def wordF (ns : List Int) : Str := Txt.join (Str.ofString "") (List.map ab ([0, 1, 0] ++ List.take 2 ns))
def textF (ns : List Int) : Str := Txt.join (Str.ofString "") (List.map ab ([0, 1, 0, 1, 0] ++ List.take (min 8 ns.length - 2) (List.drop 2 ns)))
def stepS (word : Str) (tbl : List Int) (c : List Int × Int × Int) (sign : Str) : List Int × Int × Int :=
  if nextF word tbl c.2.1 sign = word.length then (c.1 ++ [nextF word tbl (c.1.getD (-1 + (c.1.length : Int)).toNat 0) sign], 0, c.2.2 + 1)
  else (c.1 ++ [nextF word tbl (c.1.getD (-1 + (c.1.length : Int)).toNat 0) sign], nextF word tbl c.2.1 sign, c.2.2)
def runS (word : Str) (tbl : List Int) (cs : List Int) : List Int × Int × Int := cs.foldl (fun c n => stepS word tbl c ⟨#[n.toNat]⟩) ([0], 0, 0)
theorem runS_snoc (word : Str) (tbl : List Int) (cs : List Int) (n : Int) : runS word tbl (cs ++ [n]) = stepS word tbl (runS word tbl cs) ⟨#[n.toNat]⟩ := by simp [runS, List.foldl_append]
structure SOk (word : Str) (sts : List Int) (an ap : Int) (k : Nat) : Prop where
  len : sts.length = k + 1
  all : ∀ j : Nat, j < sts.length → 0 ≤ sts.getD j 0 ∧ sts.getD j 0 ≤ word.length
  an0 : 0 ≤ an
  an1 : an ≤ word.length
  ap0 : 0 ≤ ap
  ap1 : ap ≤ k
theorem SOk.start {word : Str} (_h : 0 < word.length) : SOk word [0] 0 0 0 :=
  ⟨rfl, by intro j hj; have e : j = 0 := by simp at hj; omega
           subst e; simp, by omega, by omega, by omega, by omega⟩
theorem nxt_bounds {word : Str} {tbl : List Int} {sign : Str} (tm : Tame tbl) (hl : tbl.length = word.length) (h0 : 0 < word.length) : ∀ (f : Nat) (st : Int), st.toNat < f → 0 ≤ st → st ≤ word.length → 0 ≤ nxt word tbl sign f st ∧ nxt word tbl sign f st < word.length
  | 0, st, h, _, _ => by omega
  | f + 1, st, h, h1, h2 => by
    rw [nxt]
    split
    · rename_i hc
      have hj := tm (st - 1).toNat (by omega)
      exact nxt_bounds tm hl h0 f _ (by omega) hj.1 (by omega)
    · rename_i hc
      refine ⟨h1, ?_⟩
      by_cases e : st = word.length
      · exact absurd ⟨by omega, .inl e⟩ hc
      · omega
theorem nextF_bounds {word : Str} {tbl : List Int} {sign : Str} {st : Int} (tm : Tame tbl) (h0 : 0 < word.length) (hl : tbl.length = word.length) (h1 : 0 ≤ st) (h2 : st ≤ word.length) : 0 ≤ nextF word tbl st sign ∧ nextF word tbl st sign ≤ word.length := by
  have h := nxt_bounds (sign := sign) tm hl h0 (word.length + 1) st (by omega) h1 h2
  unfold nextF
  dsimp only
  split <;> omega
theorem news_swap {h₀ h : Heap} {L : Addr} {a b : Addr × Obj} {r : List (Addr × Obj)} (N : News h₀ L h (a :: b :: r)) : News h₀ L h (b :: a :: r) := kst_newsOf N (by
  intro p hp
  rcases List.mem_cons.mp hp with rfl | hp
  · exact .tail _ List.mem_cons_self
  · rcases List.mem_cons.mp hp with rfl | hp
    · exact List.mem_cons_self
    · exact .tail _ (.tail _ hp))
theorem SOk.step {word : Str} {sts : List Int} {an ap an' ap' v : Int} {k : Nat} (q : SOk word sts an ap k) (hv : 0 ≤ v ∧ v ≤ word.length) (ha : 0 ≤ an' ∧ an' ≤ word.length) (h0 : 0 ≤ ap') (h1 : ap' ≤ ap + 1) : SOk word (sts ++ [v]) an' ap' (k + 1) := by
  refine ⟨by rw [List.length_append, q.len]; rfl, ?_, ha.1, ha.2, h0, ?_⟩
  · intro j hj
    rw [List.length_append, List.length_singleton] at hj
    by_cases e : j < sts.length
    · have h := q.all j e
      simpa [List.getD, List.getElem?_append_left e] using h
    · have e2 : j = sts.length := by omega
      subst e2
      simpa [List.getD] using hv
  · have := q.ap1
    omega
theorem fr_cg {h₀ h : Heap} {L : Addr} {m m' : Str → Option Value} (F : Fr h₀ L h m) (e : ∀ z, m z = m' z) : Fr h₀ L h m' := (funext e : m = m') ▸ F
def toldP (word text : Str) (i k : Nat) : Bool := ellF (Str.ofString "..." ++ Txt.slice word none (some (0 + (k : Int)))) (Txt.slice text none (some (0 + (i : Int))))
def toldF (word text : Str) (i : Nat) : List Int := ((List.range (word.length + 1)).filter (toldP word text i)).map fun k : Nat => (k : Int)
def manyP (word text : Str) (k : Nat) : Bool := ellF (Str.ofString "..." ++ Txt.mul (word ++ Str.ofString "...") (0 + (k : Int))) text
def bothF (word text : Str) (sts : List Int) : Bool := decide (2 * (word.length : Int) ≤ (text.length : Int)) && ((sts.getD ((word.length : Int)).toNat 0 == (word.length : Int)) && (sts.getD (-1 + (sts.length : Int)).toNat 0 == (word.length : Int)))
structure Plain (word text : Str) (sts : List Int) (ap : Int) : Prop where
  ap3 : ap ≤ 3
  told : ∀ i, i < text.length + 1 → toldF word text i = chainF (tabF word) (sts.getD i 0)
  many : ((List.range (ap + 2).toNat).filter (manyP word text)).map (fun k : Nat => (k : Int)) = rangeKs 0 (ap + 1 - 0).toNat
  both : ellF (word ++ Str.ofString "..." ++ word) text = bothF word text sts
theorem dots_len : (Str.ofString "...").length = 3 := by decide +kernel

/-! texts of two letters as lists of Bool; what `_ellipsis_match` says of them, upon the lists -/
section
open PySem.Builtin PySem.Builtin.Str
def bt (b : Bool) : Nat := if b then 98 else 97
def tx (bs : List Bool) : Str := ⟨(bs.map bt).toArray⟩
theorem tx_len (bs : List Bool) : (tx bs).length = bs.length := by simp [tx, Str.length]
theorem tx_list (bs : List Bool) : (tx bs).cps.toList = bs.map bt := by simp [tx]
theorem bt_inj {a b : Bool} (h : bt a = bt b) : a = b := by
  cases a <;> cases b <;> first | rfl | (exact absurd h (by decide))
theorem map_bt_inj : ∀ {a b : List Bool}, a.map bt = b.map bt → a = b
  | [], [], _ => rfl
  | [], _ :: _, h => by cases h
  | _ :: _, [], h => by cases h
  | x :: a, y :: b, h => by
    rw [List.map_cons, List.map_cons, List.cons.injEq] at h
    rw [bt_inj h.1, map_bt_inj h.2]
theorem bt_beq (a b : List Bool) : (a.map bt == b.map bt) = (a == b) := by
  rw [Bool.eq_iff_iff, beq_iff_eq, beq_iff_eq]
  exact ⟨map_bt_inj, fun h => by rw [h]⟩
theorem tx_app (a b : List Bool) : tx a ++ tx b = tx (a ++ b) := Str.ext' (by simp [Str.cps_append, tx])
theorem tx_nil : tx [] = Str.empty := rfl
def preB : List Bool → List Bool → Bool
  | [], _ => true
  | _ :: _, [] => false
  | a :: w, b :: g => (a == b) && preB w g
theorem preB_eq : ∀ w g : List Bool, preB w g = (decide (w.length ≤ g.length) && (g.take w.length == w))
  | [], g => by simp [preB]
  | a :: w, [] => by simp [preB]
  | a :: w, b :: g => by
    rw [preB, preB_eq w g]
    simp only [List.length_cons, List.take_succ_cons, Nat.add_le_add_iff_right]
    by_cases h : w.length ≤ g.length <;> cases a <;> cases b <;> simp [h]
theorem preB_of_le {w g : List Bool} (h : w.length ≤ g.length) : (g.take w.length == w) = preB w g := by rw [preB_eq, decide_eq_true h, Bool.true_and]
theorem subAt_tx (g w : List Bool) (i : Nat) : subAt (tx g) (tx w) i = ((g.drop i).take w.length == w) := by
  rw [StrLaws.subAt_eq, tx_list, tx_list, tx_len, ← List.map_drop, ← List.map_take, bt_beq]
theorem starts_tx (g w : List Bool) : Txt.startswith (tx g) (tx w) = preB w g := by
  unfold Txt.startswith
  rw [tx_len, tx_len, subAt_tx, List.drop_zero, preB_eq, Nat.zero_add]
def endsB (w g : List Bool) : Bool := decide (w.length ≤ g.length) && preB w (g.drop (g.length - w.length))
theorem ends_tx (g w : List Bool) : Txt.endswith (tx g) (tx w) = endsB w g := by
  unfold Txt.endswith endsB
  rw [tx_len, tx_len, subAt_tx, Nat.zero_add]
  by_cases h : w.length ≤ g.length
  · rw [preB_of_le (by rw [List.length_drop]; omega)]
  · rw [decide_eq_false h, Bool.false_and, Bool.false_and]
def findL (w : List Bool) (hi : Nat) : Nat → List Bool → Nat → Option Nat
  | 0, _, _ => none
  | n + 1, g, i => if (Nat.ble (i + w.length) hi && preB w g) = true then some i else findL w hi n g.tail (i + 1)
theorem occ_full (s sub : Str) (hi k : Nat) : ∀ (l : List Nat) (free : Nat), (forIn l ((#[k] : Array Nat), free) (StrLaws.occBody s sub hi 1)).run.fst = #[k]
  | [], free => by simp
  | a :: l, free => by
    rw [List.forIn_cons]
    unfold StrLaws.occBody
    rw [if_neg (by simp)]
    exact occ_full s sub hi k l free
theorem occ_find (g w : List Bool) (hi : Nat) (hh : hi ≤ g.length) : ∀ (n i free : Nat), free ≤ i →
    (forIn (List.range' i n) ((#[] : Array Nat), free) (StrLaws.occBody (tx g) (tx w) hi 1)).run.fst.toList = match findL w hi n (g.drop i) i with | some k => [k] | none => []
  | 0, i, free, _ => by simp [findL]
  | n + 1, i, free, hf => by
    rw [List.range'_succ, List.forIn_cons, findL]
    by_cases h1 : i + w.length ≤ hi
    · have hd : w.length ≤ (g.drop i).length := by rw [List.length_drop]; omega
      by_cases h2 : preB w (g.drop i) = true
      · have hs : StrLaws.occBody (tx g) (tx w) hi 1 i ((#[] : Array Nat), free) = pure (ForInStep.yield (#[i], i + w.length)) := by
          unfold StrLaws.occBody
          rw [tx_len, subAt_tx, preB_of_le hd, if_pos ⟨⟨⟨by simp, hf⟩, h1⟩, h2⟩]
          rfl
        rw [hs, if_pos (by rw [h2, Bool.and_true]; exact Nat.ble_eq.mpr h1)]
        exact congrArg Array.toList (occ_full (tx g) (tx w) hi i (List.range' (i + 1) n) (i + w.length))
      · have hs : StrLaws.occBody (tx g) (tx w) hi 1 i ((#[] : Array Nat), free) = pure (ForInStep.yield (#[], free)) := by
          unfold StrLaws.occBody
          rw [tx_len, subAt_tx, preB_of_le hd, if_neg (fun h => h2 h.2)]
        rw [hs, if_neg (fun h => h2 (Bool.and_eq_true_iff.mp h).2), List.tail_drop]
        exact occ_find g w hi hh n (i + 1) free (by omega)
    · have hs : StrLaws.occBody (tx g) (tx w) hi 1 i ((#[] : Array Nat), free) = pure (ForInStep.yield (#[], free)) := by
        unfold StrLaws.occBody
        rw [tx_len, if_neg (fun h => h1 h.1.2)]
      rw [hs, if_neg (fun h => h1 (Nat.ble_eq.mp (Bool.and_eq_true_iff.mp h).1)), List.tail_drop]
      exact occ_find g w hi hh n (i + 1) free (by omega)
theorem find4_tx (g w : List Bool) (sp e : Nat) (he : e ≤ g.length) : find4 (tx g) (tx w) (sp : Int) (e : Int) = match findL w e (e + 1 - sp) (g.drop sp) sp with | some k => (k : Int) | none => -1 := by
  unfold find4
  have e1 : fromIndex (tx g).length (sp : Int) = sp := by unfold fromIndex; rw [if_neg (by omega)]; omega
  have e2 : min (fromIndex (tx g).length (e : Int)) (tx g).length = e := by unfold fromIndex; rw [if_neg (by omega), tx_len]; omega
  rw [e1, e2, StrLaws.occ_eq, occ_find g w e he (e + 1 - sp) sp sp (Nat.le_refl _)]
  cases findL w e (e + 1 - sp) (g.drop sp) sp <;> rfl
def loopL (g : List Bool) (e : Nat) : List (List Bool) → Nat → Bool
  | [], _ => true
  | w :: r, sp => match findL w e (e + 1 - sp) (g.drop sp) sp with | none => false | some i => loopL g e r (i + w.length)
theorem loop_tx (g : List Bool) (e : Nat) (he : e ≤ g.length) : ∀ (ps : List (List Bool)) (sp : Nat), ellLoop (tx g) (e : Int) (ps.map tx) (sp : Int) = loopL g e ps sp
  | [], sp => rfl
  | w :: r, sp => by
    rw [List.map_cons, ellLoop, loopL, find4_tx g w sp e he, tx_len]
    cases findL w e (e + 1 - sp) (g.drop sp) sp with
    | none => rfl
    | some i =>
      show (if (i : Int) < 0 then false else ellLoop (tx g) (e : Int) (r.map tx) ((i : Int) + ((w.length : Nat) : Int))) = loopL g e r (i + w.length)
      rw [if_neg (Int.not_lt.mpr (Int.natCast_nonneg i))]
      have := loop_tx g e he r (i + w.length)
      rw [← this]
      rfl
def ell2L (g : List Bool) (ps : List (List Bool)) (sp ep : Nat) : Bool := if Nat.ble sp ep then loopL g ep ps sp else false
theorem ell2_tx (g : List Bool) (ps : List (List Bool)) (sp ep : Nat) (he : ep ≤ g.length) : ellB2 (tx g) (ps.map tx) (sp : Int) (ep : Int) = ell2L g ps sp ep := by
  unfold ellB2 ell2L
  by_cases h : sp ≤ ep
  · rw [if_neg (by omega), if_pos (Nat.ble_eq.mpr h), loop_tx g ep he]
  · rw [if_pos (by omega), if_neg (fun h' => h (Nat.ble_eq.mp h'))]
def ell1L (g : List Bool) (ps : List (List Bool)) (sp : Nat) : Bool :=
  if Nat.beq (ps.getD (ps.length - 1) []).length 0 then ell2L g ps sp g.length
  else if endsB (ps.getD (ps.length - 1) []) g then ell2L g ps.dropLast sp (g.length - (ps.getD (ps.length - 1) []).length) else false
theorem last_tx (ps : List (List Bool)) : (ps.map tx).getD (-1 + ((ps.map tx).length : Int)).toNat Str.empty = tx (ps.getD (ps.length - 1) []) := by
  have e : (-1 + ((ps.map tx).length : Int)).toNat = ps.length - 1 := by rw [List.length_map]; omega
  rw [e, ← tx_nil]
  simp only [List.getD, List.getElem?_map]
  cases ps[ps.length - 1]? <;> rfl
theorem ell1_tx (g : List Bool) (ps : List (List Bool)) (sp : Nat) : ellB1 (tx g) (ps.map tx) (sp : Int) = ell1L g ps sp := by
  unfold ellB1 ell1L
  rw [last_tx, tx_len, tx_len, ends_tx]
  generalize ps.getD (ps.length - 1) [] = w
  by_cases h : w.length = 0
  · rw [if_pos (by omega), if_pos (by rw [h]; rfl), ell2_tx g ps sp g.length (Nat.le_refl _)]
  · rw [if_neg (by omega), if_neg (fun h' => h (Nat.eq_of_beq_eq_true h'))]
    by_cases h2 : endsB w g = true
    · rw [if_pos h2, if_pos h2, ← List.map_dropLast]
      have hl : w.length ≤ g.length := of_decide_eq_true (Bool.and_eq_true_iff.mp h2).1
      have e : (g.length : Int) - (w.length : Int) = ((g.length - w.length : Nat) : Int) := by omega
      rw [e, ell2_tx g ps.dropLast sp _ (by omega)]
    · rw [if_neg h2, if_neg h2]
def ell0L (g : List Bool) : List (List Bool) → Bool
  | [] => false
  | x :: tl => if Nat.beq x.length 0 then ell1L g (x :: tl) 0 else if preB x g then ell1L g tl x.length else false
theorem ell0_tx (g : List Bool) : ∀ ps : List (List Bool), ellB0 (tx g) (ps.map tx) = ell0L g ps
  | [] => rfl
  | x :: tl => by
    rw [List.map_cons, ellB0, ell0L, tx_len, starts_tx]
    by_cases h : x.length = 0
    · rw [if_pos (by omega), if_pos (by rw [h]; rfl)]
      exact ell1_tx g (x :: tl) 0
    · rw [if_neg (by omega), if_neg (fun h' => h (Nat.eq_of_beq_eq_true h')), ell1_tx]
def splOk (want : Str) (ps : List (List Bool)) : Bool := !(occurrences want (Str.ofString "...") 0 want.length 1).isEmpty && (decide (Txt.split want (Str.ofString "...") = ps.map tx) && (Nat.ble want.length 1000 && (Nat.ble 2 ps.length && Nat.ble ps.length 1000)))
theorem splOk.ell {want : Str} {ps : List (List Bool)} (h : splOk want ps = true) (g : List Bool) : ellF want (tx g) = ell0L g ps := by
  unfold splOk at h
  simp only [Bool.and_eq_true, Bool.not_eq_true', decide_eq_true_eq] at h
  unfold ellF
  rw [h.1, h.2.1, ell0_tx]
  rfl
def Sp (want : Str) : Prop := 2 ≤ (Txt.split want (Str.ofString "...")).length ∧ (Txt.split want (Str.ofString "...")).length < 2 ^ 20 ∧ want.length < 2 ^ 20
theorem splOk.sp {want : Str} {ps : List (List Bool)} (h : splOk want ps = true) : Sp want := by
  unfold splOk at h
  simp only [Bool.and_eq_true, Bool.not_eq_true', decide_eq_true_eq, Nat.ble_eq] at h
  unfold Sp
  rw [h.2.1, List.length_map]
  omega
theorem slice_tx (x : List Bool) (k : Nat) (h : k ≤ x.length) : Txt.slice (tx x) none (some (0 + (k : Int))) = tx (x.take k) := by
  have hp : (strSliceIndices (some 0) (some (k : Int)) 1 (tx x).length).filterMap ((tx x).cps[·]?) = ((tx x).cps.toList.drop 0).take (k - 0) := StrLaws.sliced_plain (tx x) (a := 0) (b := k) (Nat.zero_le _) (by rw [tx_len]; exact h)
  have hi : strSliceIndices (some 0) (some (k : Int)) 1 (tx x).length = (List.range (k - 0)).map (fun j => 0 + j) := StrLaws.strSliceIndices_plain (a := 0) (b := k) (len := (tx x).length) (Nat.zero_le _) (by rw [tx_len]; exact h)
  rw [Int.zero_add]
  unfold Txt.slice
  rw [StrLaws.sliceIdx_none_lo]
  split
  · rename_i hc
    have hc2 : k = x.length := by
      have e : (strSliceIndices (some 0) (some (k : Int)) 1 (tx x).length).length = k := by rw [hi]; simp
      simp only [Bool.and_eq_true, beq_iff_eq] at hc
      have e2 := hc.2
      rw [tx_len] at e2 e
      omega
    rw [hc2, List.take_length]
  · refine Str.ext' ?_
    show (List.filterMap _ _).toArray = _
    rw [hp]
    simp [tx]
theorem codes_tx (x : List Bool) : KStt.codes (tx x) = x.map fun b => (bt b : Int) := by simp [KStt.codes, tx]
theorem item_tx (w : List Bool) (k : Nat) (h : k < w.length) : Txt.item (tx w) (k : Int) = tx [w.getD k false] := by
  have e : Txt.charAt (tx w) (k : Int) = some (bt (w.getD k false)) := by
    unfold Txt.charAt seqIndex?
    rw [tx_len]
    have h1 : ¬ ((k : Int) < 0) := by omega
    simp only [h1, if_false]
    rw [if_pos (by simp; omega)]
    simp [tx, h, List.getD]
  unfold Txt.item
  rw [e]
  rfl
theorem tx_beq (a b : Bool) : (tx [a] == tx [b]) = (a == b) := by cases a <;> cases b <;> rfl
end

/-! the machine upon lists, and the finite checks -/
def nxtN (w : List Bool) (tab : List Nat) (b : Bool) : Nat → Nat → Nat
  | 0, st => st
  | f + 1, st => if (Nat.ble 1 st && (Nat.beq st w.length || (w.getD st false != b))) = true then nxtN w tab b f (tab.getD (st - 1) 0) else st
def bump (w : List Bool) (b : Bool) (r : Nat) : Nat := if (w.getD r false == b) = true then r + 1 else r
def nextN (w : List Bool) (tab : List Nat) (b : Bool) (st : Nat) : Nat := bump w b (nxtN w tab b (w.length + 1) st)
def cast (l : List Nat) : List Int := l.map fun k : Nat => (k : Int)
theorem cast_getD (l : List Nat) (k : Nat) : (cast l).getD k 0 = ((l.getD k 0 : Nat) : Int) := by
  simp only [cast, List.getD, List.getElem?_map]
  cases l[k]? <;> rfl
def TameN (tab : List Nat) : Prop := ∀ j, tab.getD j 0 ≤ j
theorem nxtN_lt {w : List Bool} {tab : List Nat} {b : Bool} (tm : TameN tab) (h0 : 0 < w.length) : ∀ (f st : Nat), st < f → st ≤ w.length → nxtN w tab b f st < w.length
  | 0, st, h, _ => by omega
  | f + 1, st, h, h2 => by
    rw [nxtN]
    split
    · rename_i hc
      have hj := tm (st - 1)
      have h1 := Nat.ble_eq.mp (Bool.and_eq_true_iff.mp hc).1
      exact nxtN_lt tm h0 f _ (by omega) (by omega)
    · rename_i hc
      by_cases e : st = w.length
      · refine absurd ?_ hc
        have e1 : Nat.ble 1 st = true := Nat.ble_eq.mpr (by omega)
        have e2 : Nat.beq st w.length = true := by rw [e]; exact Nat.beq_refl _
        rw [e1, e2]; rfl
      · omega
theorem nextN_le {w : List Bool} {tab : List Nat} {b : Bool} {st : Nat} (tm : TameN tab) (h0 : 0 < w.length) (h : st ≤ w.length) : nextN w tab b st ≤ w.length := by
  have := nxtN_lt (b := b) tm h0 (w.length + 1) st (by omega) h
  unfold nextN bump
  split <;> omega
theorem nxt_tx {w : List Bool} {tab : List Nat} {b : Bool} (tm : TameN tab) : ∀ (f st : Nat), st ≤ w.length → nxt (tx w) (cast tab) (tx [b]) f (st : Int) = ((nxtN w tab b f st : Nat) : Int)
  | 0, st, _ => rfl
  | f + 1, st, h => by
    rw [nxt, nxtN, tx_len]
    have hj := tm (st - 1)
    have ec : (0 < (st : Int) ∧ ((st : Int) = (w.length : Int) ∨ (Txt.item (tx w) (st : Int) != tx [b]) = true)) ↔ (Nat.ble 1 st && (Nat.beq st w.length || (w.getD st false != b))) = true := by
      rw [Bool.and_eq_true, Bool.or_eq_true, Nat.ble_eq, Nat.beq_eq]
      by_cases e : st = w.length
      · constructor
        · intro hc; exact ⟨by omega, .inl e⟩
        · intro hc; exact ⟨by omega, .inl (by omega)⟩
      · have hi : (Txt.item (tx w) (st : Int) != tx [b]) = (w.getD st false != b) := by
          show (!(_ == _)) = (!(_ == _))
          rw [item_tx w st (by omega), tx_beq]
        rw [hi]
        constructor
        · rintro ⟨h1, h2 | h2⟩
          · omega
          · exact ⟨by omega, .inr h2⟩
        · rintro ⟨h1, h2 | h2⟩
          · exact absurd h2 e
          · exact ⟨by omega, .inr h2⟩
    by_cases hc : (Nat.ble 1 st && (Nat.beq st w.length || (w.getD st false != b))) = true
    · rw [if_pos hc, if_pos (ec.mpr hc)]
      have h1 := Nat.ble_eq.mp (Bool.and_eq_true_iff.mp hc).1
      have e : ((st : Int) - 1).toNat = st - 1 := by omega
      rw [e, cast_getD]
      exact nxt_tx tm f _ (by omega)
    · rw [if_neg hc, if_neg (fun h => hc (ec.mp h))]
theorem next_tx {w : List Bool} {tab : List Nat} {b : Bool} {st : Nat} (tm : TameN tab) (h0 : 0 < w.length) (h : st ≤ w.length) : nextF (tx w) (cast tab) (st : Int) (tx [b]) = ((nextN w tab b st : Nat) : Int) := by
  have hl := nxtN_lt (b := b) tm h0 (w.length + 1) st (by omega) h
  unfold nextF nextN bump
  rw [tx_len, nxt_tx tm _ _ h]
  dsimp only
  rw [item_tx w _ hl, tx_beq]
  split <;> rfl
def stN (w : List Bool) (tab : List Nat) (x : List Bool) : Nat := x.foldl (fun st b => nextN w tab b st) 0
def anew1 (n : Nat) (a ap : Nat) : Nat × Nat := if Nat.beq a n then (0, ap + 1) else (a, ap)
def aN (w : List Bool) (tab : List Nat) (x : List Bool) : Nat × Nat := x.foldl (fun c b => anew1 w.length (nextN w tab b c.1) c.2) (0, 0)
theorem stN_snoc (w : List Bool) (tab : List Nat) (x : List Bool) (b : Bool) : stN w tab (x ++ [b]) = nextN w tab b (stN w tab x) := by simp [stN, List.foldl_append]
theorem aN_snoc (w : List Bool) (tab : List Nat) (x : List Bool) (b : Bool) : aN w tab (x ++ [b]) = anew1 w.length (nextN w tab b (aN w tab x).1) (aN w tab x).2 := by simp [aN, List.foldl_append]
theorem snoc_ind {P : List Bool → Prop} (h0 : P []) (hs : ∀ t b, P t → P (t ++ [b])) (t : List Bool) : P t := by
  have h : ∀ r : List Bool, P r.reverse := by
    intro r
    induction r with
    | nil => exact h0
    | cons b r ih => rw [List.reverse_cons]; exact hs _ _ ih
  have := h t.reverse
  rwa [List.reverse_reverse] at this
def stsN (w : List Bool) (tab : List Nat) (t : List Bool) : List Nat := (List.range (t.length + 1)).map fun j => stN w tab (t.take j)
theorem stsN_get {w : List Bool} {tab : List Nat} {t : List Bool} {j : Nat} (h : j ≤ t.length) : (stsN w tab t).getD j 0 = stN w tab (t.take j) := by
  have : j < t.length + 1 := by omega
  simp [stsN, List.getD, this]
theorem run_tx {w : List Bool} {tab : List Nat} (tm : TameN tab) (h0 : 0 < w.length) (t : List Bool) :
    stN w tab t ≤ w.length ∧ (aN w tab t).1 ≤ w.length ∧ runS (tx w) (cast tab) (KStt.codes (tx t)) = (cast (stsN w tab t), ((aN w tab t).1 : Int), ((aN w tab t).2 : Int)) := by
  refine snoc_ind (P := fun t => stN w tab t ≤ w.length ∧ (aN w tab t).1 ≤ w.length ∧ runS (tx w) (cast tab) (KStt.codes (tx t)) = (cast (stsN w tab t), ((aN w tab t).1 : Int), ((aN w tab t).2 : Int))) ?_ ?_ t
  · exact ⟨Nat.zero_le _, Nat.zero_le _, rfl⟩
  · rintro t b ⟨i1, i2, i3⟩
    have n1 := nextN_le (b := b) tm h0 i1
    have n2 := nextN_le (b := b) tm h0 i2
    refine ⟨by rw [stN_snoc]; exact n1, ?_, ?_⟩
    · rw [aN_snoc]
      unfold anew1
      split
      · exact Nat.zero_le _
      · exact n2
    · have ecs : KStt.codes (tx (t ++ [b])) = KStt.codes (tx t) ++ [(bt b : Int)] := by simp [codes_tx]
      have esg : (⟨#[((bt b : Nat) : Int).toNat]⟩ : Str) = tx [b] := by rw [Int.toNat_natCast]; rfl
      rw [ecs, runS_snoc, i3, esg]
      unfold stepS
      dsimp only
      have el : (-1 + ((cast (stsN w tab t)).length : Int)).toNat = t.length := by simp [cast, stsN]; omega
      rw [el, cast_getD, stsN_get (Nat.le_refl _), List.take_length, next_tx tm h0 i1, next_tx tm h0 i2, aN_snoc, tx_len]
      have ests : cast (stsN w tab (t ++ [b])) = cast (stsN w tab t) ++ [((nextN w tab b (stN w tab t) : Nat) : Int)] := by
        have e1 : stsN w tab (t ++ [b]) = stsN w tab t ++ [nextN w tab b (stN w tab t)] := by
          unfold stsN
          rw [List.length_append, List.length_singleton, List.range_succ, List.map_append, List.map_singleton]
          congr 1
          · refine List.map_congr_left fun j hj => ?_
            have := List.mem_range.mp hj
            rw [List.take_append_of_le_length (by omega)]
          · have e2 : (t ++ [b]).take (t.length + 1) = t ++ [b] := List.take_of_length_le (by simp)
            rw [e2, stN_snoc]
        rw [e1]
        simp [cast]
      rw [ests]
      unfold anew1
      by_cases e : nextN w tab b (aN w tab t).1 = w.length
      · rw [if_pos (by omega), if_pos (Nat.beq_eq.mpr e)]
        rfl
      · rw [if_neg (by omega), if_neg (fun h => e (Nat.beq_eq.mp h))]
def chnN (tab : List Nat) : Nat → List Nat → List Nat
  | 0, c => c
  | f + 1, c => if Nat.ble 1 (c.getD 0 0) = true then chnN tab f (tab.getD (c.getD 0 0 - 1) 0 :: c) else c
theorem chn_cast (tab : List Nat) : ∀ (f : Nat) (c : List Nat), chn (cast tab) f (cast c) = cast (chnN tab f c)
  | 0, c => rfl
  | f + 1, c => by
    rw [chn, chnN]
    have e0 : (cast c).getD (Int.toNat 0) 0 = ((c.getD 0 0 : Nat) : Int) := cast_getD c 0
    rw [e0]
    by_cases h : 1 ≤ c.getD 0 0
    · rw [if_pos (by omega), if_pos (Nat.ble_eq.mpr h)]
      have e : (((c.getD 0 0 : Nat) : Int) - 1).toNat = c.getD 0 0 - 1 := by omega
      rw [e, cast_getD]
      exact chn_cast tab f (tab.getD (c.getD 0 0 - 1) 0 :: c)
    · rw [if_neg (by omega), if_neg (fun h' => h (Nat.ble_eq.mp h'))]
theorem chain_cast (tab : List Nat) (st : Nat) : chainF (cast tab) (st : Int) = cast (chnN tab (st + 1) [st]) := by
  unfold chainF
  rw [Int.toNat_natCast]
  exact chn_cast tab (st + 1) [st]
def treeOk (P : List Bool → Bool) : Nat → List Bool → Bool
  | 0, x => P x
  | n + 1, x => P x && (treeOk P n (x ++ [false]) && treeOk P n (x ++ [true]))
theorem treeOk.of {P : List Bool → Bool} : ∀ (n : Nat) (x : List Bool), treeOk P n x = true → ∀ q : List Bool, q.length ≤ n → P (x ++ q) = true
  | 0, x, h, q, hq => by
    have : q = [] := List.length_eq_zero_iff.mp (by omega)
    rw [this, List.append_nil]
    exact h
  | n + 1, x, h, q, hq => by
    rw [treeOk, Bool.and_eq_true, Bool.and_eq_true] at h
    cases q with
    | nil => rw [List.append_nil]; exact h.1
    | cons b q =>
      have e : x ++ b :: q = (x ++ [b]) ++ q := by simp
      rw [e]
      cases b with
      | false => exact treeOk.of n _ h.2.1 q (by simpa using hq)
      | true => exact treeOk.of n _ h.2.2 q (by simpa using hq)
def xOk (w : List Bool) (tab : List Nat) (x : List Bool) : Bool := ((List.range (w.length + 1)).filter fun k => ell0L x [[], w.take k]) == chnN tab (stN w tab x + 1) [stN w tab x]
def manyL (w t : List Bool) (k : Nat) : Bool := ell0L t ([] :: (List.replicate k w ++ [[]]))
def tOk2 (w t : List Bool) (s1 s2 ap : Nat) : Bool := Nat.ble ap 3 && (((List.range (ap + 2)).filter (manyL w t) == List.range (ap + 1)) && (ell0L t [w, w] == (Nat.ble (2 * w.length) t.length && (Nat.beq s1 w.length && Nat.beq s2 w.length))))
def tOk (w : List Bool) (tab : List Nat) (t : List Bool) : Bool := tOk2 w t (stN w tab (t.take w.length)) (stN w tab t) (aN w tab t).2
def wOk (w : List Bool) (tab : List Nat) : Bool :=
  ((List.range (w.length + 1)).all fun k => splOk (Str.ofString "..." ++ tx (w.take k)) [[], w.take k]) &&
  (((List.range 5).all fun k => splOk (Str.ofString "..." ++ Txt.mul (tx w ++ Str.ofString "...") (k : Int)) ([] :: (List.replicate k w ++ [[]]))) &&
  (splOk (tx w ++ Str.ofString "..." ++ tx w) [w, w] && (decide (tabF (tx w) = cast tab) && (Nat.beq tab.length w.length && (List.range tab.length).all fun j => Nat.ble (tab.getD j 0) j))))
def t5 : List Bool := [false, true, false, true, false]
def allOk (w : List Bool) (tab : List Nat) : Bool := (List.range 5).all (fun j => xOk w tab (t5.take j)) && treeOk (fun x => xOk w tab x && tOk w tab x) 6 t5

theorem w_ok0 : wOk [false, true, false] [0, 0, 1] = true := by decide +kernel
theorem a_ok0 : allOk [false, true, false] [0, 0, 1] = true := by decide +kernel
theorem w_ok1 : wOk [false, true, false, false] [0, 0, 1, 1] = true := by decide +kernel
theorem a_ok1 : allOk [false, true, false, false] [0, 0, 1, 1] = true := by decide +kernel
theorem w_ok2 : wOk [false, true, false, true] [0, 0, 1, 2] = true := by decide +kernel
theorem a_ok2 : allOk [false, true, false, true] [0, 0, 1, 2] = true := by decide +kernel
theorem w_ok3 : wOk [false, true, false, false, false] [0, 0, 1, 1, 1] = true := by decide +kernel
theorem a_ok3 : allOk [false, true, false, false, false] [0, 0, 1, 1, 1] = true := by decide +kernel
theorem w_ok4 : wOk [false, true, false, false, true] [0, 0, 1, 1, 2] = true := by decide +kernel
theorem a_ok4 : allOk [false, true, false, false, true] [0, 0, 1, 1, 2] = true := by decide +kernel
theorem w_ok5 : wOk [false, true, false, true, false] [0, 0, 1, 2, 3] = true := by decide +kernel
theorem a_ok5 : allOk [false, true, false, true, false] [0, 0, 1, 2, 3] = true := by decide +kernel
theorem w_ok6 : wOk [false, true, false, true, true] [0, 0, 1, 2, 0] = true := by decide +kernel
theorem a_ok6 : allOk [false, true, false, true, true] [0, 0, 1, 2, 0] = true := by decide +kernel

/-! the plain law -/
def odd (k : Int) : Bool := decide (Int.fmod k 2 = 1)
theorem ab_tx (k : Int) : ab k = tx [odd k] := by
  unfold ab odd
  rcases fmod2 k with e | e <;> rw [e] <;> decide +kernel
theorem join_tx : ∀ l : List Bool, Str.join (Str.ofString "") (l.map fun b => tx [b]) = tx l
  | [] => rfl
  | [b] => rfl
  | b :: c :: r => by
    have ih := join_tx (c :: r)
    show tx [b] ++ Str.ofString "" ++ Str.join (Str.ofString "") ((c :: r).map fun b => tx [b]) = _
    have he : Str.ofString "" = tx [] := by decide +kernel
    rw [ih, he, tx_app, tx_app]
    rfl
theorem joined (l : List Int) : Txt.join (Str.ofString "") (l.map ab) = tx (l.map odd) := by
  show Builtin.Str.glued _ _ = _
  rw [StrLaws.glued_eq_join, ← join_tx, List.map_map]
  congr 1
  exact List.map_congr_left fun k _ => ab_tx k
def wp (ns : List Int) : List Bool := (List.take 2 ns).map odd
def tp (ns : List Int) : List Bool := (List.take (min 8 ns.length - 2) (List.drop 2 ns)).map odd
theorem wp_len (ns : List Int) : (wp ns).length ≤ 2 := by
  unfold wp
  rw [List.length_map, List.length_take]
  omega
theorem tp_len (ns : List Int) : (tp ns).length ≤ 6 := by
  unfold tp
  rw [List.length_map, List.length_take]
  omega
theorem wordF_tx (ns : List Int) : wordF ns = tx ([false, true, false] ++ wp ns) := by
  unfold wordF wp
  rw [joined, List.map_append]
  rfl
theorem textF_tx (ns : List Int) : textF ns = tx (t5 ++ tp ns) := by
  unfold textF tp
  rw [joined, List.map_append]
  rfl
theorem wordF_len (ns : List Int) : 3 ≤ (wordF ns).length ∧ (wordF ns).length ≤ 5 := by
  have h := wp_len ns
  rw [wordF_tx, tx_len, List.length_append]
  show 3 ≤ 3 + _ ∧ 3 + _ ≤ 5
  omega
theorem textF_len (ns : List Int) : 5 ≤ (textF ns).length ∧ (textF ns).length ≤ 11 := by
  have h := tp_len ns
  rw [textF_tx, tx_len, List.length_append]
  show 5 ≤ 5 + _ ∧ 5 + _ ≤ 11
  omega
theorem words : ∀ p : List Bool, p.length ≤ 2 → ∃ tab, wOk ([false, true, false] ++ p) tab = true ∧ allOk ([false, true, false] ++ p) tab = true
  | [], _ => ⟨_, w_ok0, a_ok0⟩
  | [false], _ => ⟨_, w_ok1, a_ok1⟩
  | [true], _ => ⟨_, w_ok2, a_ok2⟩
  | [false, false], _ => ⟨_, w_ok3, a_ok3⟩
  | [false, true], _ => ⟨_, w_ok4, a_ok4⟩
  | [true, false], _ => ⟨_, w_ok5, a_ok5⟩
  | [true, true], _ => ⟨_, w_ok6, a_ok6⟩
  | _ :: _ :: _ :: _, h => by simp at h
structure WFacts (w : List Bool) (tab : List Nat) : Prop where
  pre : ∀ k, k < w.length + 1 → splOk (Str.ofString "..." ++ tx (w.take k)) [[], w.take k] = true
  many : ∀ k : Nat, k < 5 → splOk (Str.ofString "..." ++ Txt.mul (tx w ++ Str.ofString "...") (k : Int)) ([] :: (List.replicate k w ++ [[]])) = true
  two : splOk (tx w ++ Str.ofString "..." ++ tx w) [w, w] = true
  tabE : tabF (tx w) = cast tab
  tame : TameN tab
theorem WFacts.of {w : List Bool} {tab : List Nat} (h : wOk w tab = true) : WFacts w tab := by
  unfold wOk at h
  rw [Bool.and_eq_true, Bool.and_eq_true, Bool.and_eq_true, Bool.and_eq_true, Bool.and_eq_true, List.all_eq_true, List.all_eq_true, List.all_eq_true, decide_eq_true_eq] at h
  obtain ⟨a, b, c, d, _, e⟩ := h
  refine ⟨fun k hk => a k (List.mem_range.mpr hk), fun k hk => b k (List.mem_range.mpr hk), c, d, fun j => ?_⟩
  by_cases hj : j < tab.length
  · exact Nat.ble_eq.mp (e j (List.mem_range.mpr hj))
  · have : tab.getD j 0 = 0 := by simp [List.getD, List.getElem?_eq_none (Nat.not_lt.mp hj)]
    omega
theorem WFacts.sp1 {w : List Bool} {tab : List Nat} (W : WFacts w tab) {k : Nat} (hk : k < (tx w).length + 1) : Sp (Str.ofString "..." ++ Txt.slice (tx w) none (some (0 + (k : Int)))) := by
  rw [tx_len] at hk
  rw [slice_tx w k (by omega)]
  exact splOk.sp (W.pre k hk)
theorem WFacts.sp2 {w : List Bool} {tab : List Nat} (W : WFacts w tab) {k : Nat} (hk : k < 5) : Sp (Str.ofString "..." ++ Txt.mul (tx w ++ Str.ofString "...") (0 + (k : Int))) := by
  rw [Int.zero_add]
  exact splOk.sp (W.many k hk)
theorem facts (ns : List Int) : ∃ tab, WFacts ([false, true, false] ++ wp ns) tab ∧ allOk ([false, true, false] ++ wp ns) tab = true := by
  obtain ⟨tab, h1, h2⟩ := words (wp ns) (wp_len ns)
  exact ⟨tab, WFacts.of h1, h2⟩
theorem sp1 (ns : List Int) : ∀ k : Nat, k < (wordF ns).length + 1 → Sp (Str.ofString "..." ++ Txt.slice (wordF ns) none (some (0 + (k : Int)))) := by
  obtain ⟨tab, W, _⟩ := facts ns
  rw [wordF_tx]
  exact fun k hk => W.sp1 hk
theorem sp2 (ns : List Int) : ∀ k : Nat, k < 5 → Sp (Str.ofString "..." ++ Txt.mul (wordF ns ++ Str.ofString "...") (0 + (k : Int))) := by
  obtain ⟨tab, W, _⟩ := facts ns
  rw [wordF_tx]
  exact fun k hk => W.sp2 hk
theorem sp3 (ns : List Int) : Sp (wordF ns ++ Str.ofString "..." ++ wordF ns) := by
  obtain ⟨tab, W, _⟩ := facts ns
  rw [wordF_tx]
  exact splOk.sp W.two
theorem allOk.x {w : List Bool} {tab : List Nat} (h : allOk w tab = true) {q : List Bool} (hq : q.length ≤ 6) {i : Nat} (hi : i ≤ (t5 ++ q).length) : xOk w tab ((t5 ++ q).take i) = true := by
  unfold allOk at h
  rw [Bool.and_eq_true, List.all_eq_true] at h
  have h5 : t5.length = 5 := rfl
  by_cases c : i < 5
  · rw [List.take_append_of_le_length (by omega)]
    exact h.1 i (List.mem_range.mpr c)
  · have e : (t5 ++ q).take i = t5 ++ q.take (i - 5) := by
      rw [List.take_append, h5, List.take_of_length_le (by omega)]
    rw [e]
    have := treeOk.of 6 t5 h.2 (q.take (i - 5)) (by rw [List.length_take]; omega)
    exact (Bool.and_eq_true_iff.mp this).1
theorem allOk.t {w : List Bool} {tab : List Nat} (h : allOk w tab = true) {q : List Bool} (hq : q.length ≤ 6) : tOk w tab (t5 ++ q) = true := by
  unfold allOk at h
  rw [Bool.and_eq_true] at h
  exact (Bool.and_eq_true_iff.mp (treeOk.of 6 t5 h.2 q hq)).2
theorem plain_tx {w : List Bool} {tab : List Nat} (W : WFacts w tab) (ha : allOk w tab = true) (h0 : 0 < w.length) (h5 : w.length ≤ 5) {q : List Bool} (hq : q.length ≤ 6) :
    Plain (tx w) (tx (t5 ++ q)) (runS (tx w) (tabF (tx w)) (KStt.codes (tx (t5 ++ q)))).1 (runS (tx w) (tabF (tx w)) (KStt.codes (tx (t5 ++ q)))).2.2 := by
  have hx := fun (i : Nat) hi => allOk.x ha hq (i := i) hi
  have ht := allOk.t ha hq
  have hl : 5 ≤ (t5 ++ q).length := by rw [List.length_append]; exact Nat.le_add_right 5 _
  generalize t5 ++ q = t at *
  obtain ⟨r1, r2, r3⟩ := run_tx W.tame h0 t
  rw [W.tabE, r3]
  unfold tOk tOk2 at ht
  rw [Bool.and_eq_true, Bool.and_eq_true, Nat.ble_eq, beq_iff_eq, beq_iff_eq] at ht
  obtain ⟨t1, t2, t3⟩ := ht
  dsimp only
  refine ⟨by omega, ?_, ?_, ?_⟩
  · intro i hi
    rw [tx_len] at hi
    rw [W.tabE, cast_getD, stsN_get (by omega), chain_cast]
    have hxi := hx i (by omega)
    unfold xOk at hxi
    rw [beq_iff_eq] at hxi
    rw [← hxi]
    unfold toldF
    rw [tx_len]
    show cast _ = cast _
    congr 1
    refine List.filter_congr fun k hk => ?_
    have hk := List.mem_range.mp hk
    unfold toldP
    rw [slice_tx w k (by omega), slice_tx t i (by omega), splOk.ell (W.pre k hk)]
  · have e1 : (((aN w tab t).2 : Int) + 2).toNat = (aN w tab t).2 + 2 := by omega
    have e2 : (((aN w tab t).2 : Int) + 1 - 0).toNat = (aN w tab t).2 + 1 := by omega
    rw [e1, e2]
    have e3 : (List.range ((aN w tab t).2 + 2)).filter (manyP (tx w) (tx t)) = (List.range ((aN w tab t).2 + 2)).filter (manyL w t) := by
      refine List.filter_congr fun k hk => ?_
      have hk := List.mem_range.mp hk
      unfold manyP manyL
      rw [Int.zero_add, splOk.ell (W.many k (by omega))]
    rw [e3, t2]
    unfold rangeKs
    exact List.map_congr_left fun k _ => by omega
  · rw [splOk.ell W.two, t3]
    unfold bothF
    have e1 : (((tx w).length : Int)).toNat = w.length := by rw [tx_len]; omega
    have e2 : (-1 + ((cast (stsN w tab t)).length : Int)).toNat = t.length := by simp [cast, stsN]; omega
    rw [e1, e2, cast_getD, cast_getD, tx_len, tx_len, stsN_get (Nat.le_refl _), List.take_length]
    have e3 : Nat.ble (2 * w.length) t.length = decide (2 * (w.length : Int) ≤ (t.length : Int)) := by
      rw [Bool.eq_iff_iff, Nat.ble_eq, decide_eq_true_eq]; omega
    rw [e3]
    by_cases hle : 2 * (w.length : Int) ≤ (t.length : Int)
    · rw [stsN_get (by omega)]
      have eb : ∀ a b : Nat, Nat.beq a b = ((a : Int) == (b : Int)) := fun a b => by
        rw [Bool.eq_iff_iff, Nat.beq_eq, beq_iff_eq]; omega
      rw [eb, eb]
    · rw [decide_eq_false hle, Bool.false_and, Bool.false_and]
theorem plain_law (ns : List Int) : Plain (wordF ns) (textF ns) (runS (wordF ns) (tabF (wordF ns)) (KStt.codes (textF ns))).1 (runS (wordF ns) (tabF (wordF ns)) (KStt.codes (textF ns))).2.2 := by
  obtain ⟨tab, W, ha⟩ := facts ns
  have hw := wp_len ns
  rw [wordF_tx, textF_tx]
  exact plain_tx W ha (by rw [List.length_append]; exact Nat.lt_of_lt_of_le (by decide) (Nat.le_add_right 3 _)) (by rw [List.length_append]; show 3 + _ ≤ 5; omega) (tp_len ns)

theorem stopQ {P : Prop} (h : ∀ R : Prop, R = P → R) : P := h P rfl
local macro_rules | `(tactic| walk_at "eval ListComp") => `(tactic| (refine stopQ ?_; intro R hR))
local macro_rules | `(tactic| walk_at "call builtin:str.join") => `(tactic| (refine stopQ ?_; intro R hR))
local macro_rules | `(tactic| walk_at "call ref") => `(tactic| (refine stopQ ?_; intro R hR))
local macro_rules | `(tactic| walk_at "binaryOp Mult str int") => `(tactic| (refine stopQ ?_; intro R hR))

theorem law_holds : PySem.Challenge.rw_mq0116_01.Holds := top (by
  k_go0
  rename_i w s₀ s₁ mg mb G Y fa o pm doc ho hg KX X V GL T B TE TW aM oM M ac ax hcd ns hs hlay0 hL0 hr hl2 as1 as2 l vs as3 hL ra w1 r0 hI hrw hc1 hc2 K0 hD h₁ tk₁ F o3 o2 o1 c3 c2 c1 N0 X0
  dsimp only
  replace F : Fr s₁.heap s₁.heap.objs.size h₁ (fun y => if y = Str.ofString "script" then some (Value.ref l) else none) := by with_unfolding_all exact F
  replace c3 : o3.data = Data.cell none := by with_unfolding_all exact c3
  replace c2 : o2.data = Data.cell none := by with_unfolding_all exact c2
  replace c1 : o1.data = Data.cell none := by with_unfolding_all exact c1
  clear X0 hD hcd
  replace K0 : Below callerA s₁.heap [] s₁.heap := K0
  refine wpAny_execs_cons ?_
  refine (monoQ (Q := fun f s' => f = Flow.next ∧ ∃ h tk o1' t, s' = ⟨h, s₁.gens, s₁.drawn, tk, s₁.os⟩ ∧ Fr s₁.heap s₁.heap.objs.size h (fun y => if y = Str.ofString "script" then some (Value.ref l) else none) ∧
    News s₁.heap s₁.heap.objs.size h [(s₁.heap.objs.size + 1 + 1 + 1, o3), (s₁.heap.objs.size + 1 + 1, o2), (s₁.heap.objs.size + 1, o1')] ∧ o1'.data = Data.cell (some (Value.str (wordF ns) t))) ?stage1 ?next1)
  case stage1 =>
    refine cutQ ?_
    intro R hR
    repeat' (first | walk1 | (dsimp only; walk1) | fail "no step")
    rename_i R2 hR2
    subst hR2
    refine LCg.ListComp_U (F₀ := by assumption) (by with_unfolding_all rfl) (by decide) (by rfl) (by decide) (by rfl) ?_
    refine cutQ ?_
    intro R3 hR3
    repeat' (first | walk1 | (dsimp only; walk1) | fail "no step")
    rename_i la _ _ Db wb _ iB cB lB lb1 D wl h2 F2 N2 iD l2
    refine stTk (P := R3 (Value.ref D)) (h := h2) (g := s₁.gens) (d := s₁.drawn) (o := s₁.os) ?_
    intro tk2
    subst hR3
    refine LCg.CompSrc.ledger (by rfl) F2 N2 List.mem_cons_self (by rw [List.size_toArray, iD.length, List.length_append, cB, sizeLine_eq]; show 3 + _ ≤ _; omega) ?_
    intro g
    refine kct_list (fun k => Txt.item (Str.ofString "ab") (Int.fmod k 2)) iD ?_ ?_
    · intro k t I oI C oC D' m' ys h tk E' hk hC hx F3 N3 off ne _
      refine cutQ ?_
      intro R4 hR4
      repeat' (first | walk1 | (dsimp only; walk1) | fail "no step")
      rw [hR4]
      refine LCg.CompEnd.intro (by assumption) (by assumption) _ (fun p hp => hp) off (.inr ⟨_, List.mem_cons_self, rfl, _, rfl⟩) ⟨rfl, _, rfl⟩
    · unfold KPfDone
      intro ys cy hyl
      clear F2 N2
      intro E1 h3 tk3 F3 N3 off3
      repeat' (first | walk1 | (dsimp only; walk1) | fail "no step")
      rename_i R5 hR5
      subst hR5
      refine PySem.W.KT.join_1 (g := ab) (PySem.IsL.isList (N3 _ List.mem_cons_self).1) cy (fun a _ => ab_length a) (by rw [List.length_append, cB]; show 3 + _ ≤ _; omega) ?_
      intro t4 k4 e4
      replace N3 : News s₁.heap s₁.heap.objs.size h3 [(s₁.heap.objs.size + 1 + 1 + 1, o3), (s₁.heap.objs.size + 1 + 1, o2), (s₁.heap.objs.size + 1, o1)] := kst_newsOf N3 (fun p hp => List.mem_cons_of_mem _ (List.mem_cons_of_mem _ (List.mem_cons_of_mem _ (List.mem_cons_of_mem _ hp))))
      clear off3 hyl cy l2 iD lb1 lB iB cB e4
      repeat' (first | walk1 | (dsimp only; walk1) | fail "no step")
      rename_i h5 o1' F5 N5 c1'
      rw [hR]
      exact ⟨rfl, h5, _, o1', t4, rfl, F5, N5, c1'⟩
  intro f s' hh
  obtain ⟨rfl, h, tk, o1', tw, rfl, F1, N1, c1'⟩ := hh
  dsimp only
  clear F N0 c1
  refine wpAny_execs_cons ?_
  refine monoQ (Q := fun f s' => f = Flow.next ∧ ∃ h tk o2' t, s' = ⟨h, s₁.gens, s₁.drawn, tk, s₁.os⟩ ∧ Fr s₁.heap s₁.heap.objs.size h (fun y => if y = Str.ofString "script" then some (Value.ref l) else none) ∧
    News s₁.heap s₁.heap.objs.size h [(s₁.heap.objs.size + 1 + 1 + 1, o3), (s₁.heap.objs.size + 1 + 1, o2'), (s₁.heap.objs.size + 1, o1')] ∧ o2'.data = Data.cell (some (Value.str (textF ns) t))) ?stage2 ?next2
  case stage2 =>
    refine cutQ ?_
    intro R hR
    repeat' (first | walk1 | (dsimp only; walk1) | fail "no step")
    rename_i R2 hR2
    subst hR2
    refine LCg.ListComp_U (F₀ := by assumption) (by with_unfolding_all rfl) (by decide) (by rfl) (by decide) (by rfl) ?_
    refine cutQ ?_
    intro R3 hR3
    repeat' (first | walk1 | (dsimp only; walk1) | fail "no step")
    rename_i la _ _ Db wb _ iB cB lB lb1 D wl h2 F2 N2 iD l2
    refine stTk (P := R3 (Value.ref D)) (h := h2) (g := s₁.gens) (d := s₁.drawn) (o := s₁.os) ?_
    intro tk2
    subst hR3
    refine LCg.CompSrc.ledger (by rfl) F2 N2 List.mem_cons_self (by rw [List.size_toArray, iD.length, List.length_append, cB, sizeLine_eq]; show 5 + _ ≤ _; omega) ?_
    intro g
    refine kct_list (fun k => Txt.item (Str.ofString "ab") (Int.fmod k 2)) iD ?_ ?_
    · intro k t I oI C oC D' m' ys h tk E' hk hC hx F3 N3 off ne _
      refine cutQ ?_
      intro R4 hR4
      repeat' (first | walk1 | (dsimp only; walk1) | fail "no step")
      rw [hR4]
      refine LCg.CompEnd.intro (by assumption) (by assumption) _ (fun p hp => hp) off (.inr ⟨_, List.mem_cons_self, rfl, _, rfl⟩) ⟨rfl, _, rfl⟩
    · unfold KPfDone
      intro ys cy hyl
      clear F2 N2
      intro E1 h3 tk3 F3 N3 off3
      repeat' (first | walk1 | (dsimp only; walk1) | fail "no step")
      rename_i R5 hR5
      subst hR5
      refine PySem.W.KT.join_1 (g := ab) (PySem.IsL.isList (N3 _ List.mem_cons_self).1) cy (fun a _ => ab_length a) (by rw [List.length_append, cB]; show 5 + _ ≤ _; omega) ?_
      intro t4 k4 e4
      replace N3 : News s₁.heap s₁.heap.objs.size h3 [(s₁.heap.objs.size + 1 + 1 + 1, o3), (s₁.heap.objs.size + 1 + 1, o2), (s₁.heap.objs.size + 1, o1')] := kst_newsOf N3 (fun p hp => List.mem_cons_of_mem _ (List.mem_cons_of_mem _ (List.mem_cons_of_mem _ (List.mem_cons_of_mem _ hp))))
      clear off3 hyl cy l2 iD lb1 lB iB cB e4
      repeat' (first | walk1 | (dsimp only; walk1) | fail "no step")
      rename_i h5 o2' F5 N5 c2'
      rw [hR]
      exact ⟨rfl, h5, _, o2', t4, rfl, F5, N5, c2'⟩
  intro f s' hh
  clear F1 N1 c2
  obtain ⟨rfl, h, tk, o2', tt, rfl, F1, N1, c2'⟩ := hh
  dsimp only
  obtain ⟨hwl0, hwl1⟩ : 3 ≤ (wordF ns).length ∧ (wordF ns).length ≤ 5 := wordF_len ns
  obtain ⟨htl0, htl1⟩ : 5 ≤ (textF ns).length ∧ (textF ns).length ≤ 11 := textF_len ns
  refine wpAny_execs_cons ?_
  refine cutQ ?_
  intro R hR
  repeat' (first | walk1 | (dsimp only; walk1) | fail "no step")
  rename_i R2 hR2
  subst hR2
  refine gen_call K0 F1 KX N1 T rfl (by omega) (by omega) (by first | decide | ktr_room) (by first | decide | ktr_units) ?_
  clear F1 N1
  intro Tb ws kT h3 tk3 F3 N3 iT lT tame ltT
  repeat' (first | walk1 | (dsimp only; walk1) | fail "no step")
  rename_i h4 F4 N4
  refine stTk (P := R Flow.next) (h := h4) (g := s₁.gens) (d := s₁.drawn) (o := s₁.os) ?_
  intro tk4
  subst hR
  dsimp only
  refine wpAny_execs_cons ?_
  refine cutQ ?_
  intro R hR
  repeat' (first | walk1 | (dsimp only; walk1) | fail "no step")
  rename_i S _ l5 h5 F5 N5
  refine stTk (P := R Flow.next) (h := h5) (g := s₁.gens) (d := s₁.drawn) (o := s₁.os) ?_
  intro tk5
  subst hR
  dsimp only
  refine wpAny_execs_cons ?_
  refine cutQ ?_
  intro R hR
  repeat' (first | walk1 | (dsimp only; walk1) | fail "no step")
  rename_i h6 F6 N6
  refine stTk (P := R Flow.next) (h := h6) (g := s₁.gens) (d := s₁.drawn) (o := s₁.os) ?_
  intro tk6
  subst hR
  dsimp only
  refine wpAny_execs_cons ?_
  refine cutQ ?_
  intro R hR
  repeat' (first | walk1 | (dsimp only; walk1) | fail "no step")
  rename_i h7 F7 N7
  refine stTk (P := R Flow.next) (h := h7) (g := s₁.gens) (d := s₁.drawn) (o := s₁.os) ?_
  intro tk7
  subst hR
  dsimp only
  obtain ⟨tap, tan, F8⟩ : ∃ tap tan, Fr s₁.heap s₁.heap.objs.size h7 (fun y => if y = Str.ofString "apart" then some (Value.int 0 tap) else if y = Str.ofString "anew" then some (Value.int 0 tan) else if y = Str.ofString "states" then some (Value.ref S)
    else if y = Str.ofString "table" then some (Value.ref Tb) else if y = Str.ofString "script" then some (Value.ref l) else none) := ⟨_, _, F7⟩
  clear F7
  replace l5 : Tb < S ∧ s₁.heap.objs.size + 1 + 1 + 1 < S ∧ s₁.heap.objs.size + 1 + 1 < S ∧ s₁.heap.objs.size + 1 < S := l5
  generalize hwd : wordF ns = word at *
  generalize htx : textF ns = text at *
  refine wpAny_execs_cons ?_
  refine cutQ ?_
  intro R hR
  refine For_invV s₁.heap rfl rfl ?_
  refine cutQ ?_
  intro R2 hR2
  repeat' (first | walk1 | (dsimp only; walk1) | fail "no step")
  refine stTk (P := R2 (Value.str text tt)) (h := h7) (g := s₁.gens) (d := s₁.drawn) (o := s₁.os) ?_
  intro tk8
  subst hR2
  dsimp only
  refine KStt.kst_text (σ := List Int × List Value × Nat × Int × Tok × Int × Tok) (fun c => [(Tb, listOf ws.toArray kT), (S, listOf c.2.1.toArray c.2.2.1), (s₁.heap.objs.size + 1 + 1 + 1, o3), (s₁.heap.objs.size + 1 + 1, o2'), (s₁.heap.objs.size + 1, o1')])
    (fun c => [(Str.ofString "anew", Value.int c.2.2.2.1 c.2.2.2.2.1), (Str.ofString "apart", Value.int c.2.2.2.2.2.1 c.2.2.2.2.2.2)]) (fun c => IntsAre c.2.1 c.1) []
    (fun pre c => (c.1, c.2.2.2.1, c.2.2.2.2.2.1) = runS word (tabF word) pre ∧ SOk word c.1 c.2.2.2.1 c.2.2.2.2.2.1 pre.length)
    ([0], [Value.int 0 tk4], 0, 0, tan, 0, tap) (by rfl) F8 (news_swap N7) (.cons _ _ .nil) ?_ ⟨rfl, ?_⟩ ?turn4 ?done4
  · kst_all
  · exact SOk.start (by omega)
  case turn4 =>
    rintro ⟨sts, svs, nS, an, ta, ap, tp⟩ pre post n t u h tk own hcode hoff hf ⟨q1, q2⟩ F9 N9
    dsimp only at *
    clear F8 N7
    have hMk := kstMark
    have hcl := congrArg List.length hcode
    rw [KStt.codes_length, List.length_append, List.length_cons] at hcl
    have q2l := q2.len
    have q2a := q2.all (-1 + (sts.length : Int)).toNat (by omega)
    have q2n := q2.an0
    have q2m := q2.an1
    have q2p := q2.ap0
    have q2q := q2.ap1
    refine wpAny_execs_cons ?_
    refine cutQ ?_
    intro R3 hR3
    repeat' (first | walk1 | (dsimp only; walk1) | fail "no step")
    rename_i tl1 R4 hR4
    subst hR4
    refine next_call (rest := (S, listOf svs.toArray nS) :: [(s₁.heap.objs.size + 1 + 1 + 1, o3), (s₁.heap.objs.size + 1 + 1, o2'), (s₁.heap.objs.size + 1, o1')] ++ own) K0 F9 KX N9 T rfl iT (by omega) (by omega) (by omega) q2a.1 q2a.2 tame (by first | decide | ktr_room) (by first | decide | ktr_units) ?_
    intro t10 h10 tk10 F10 N10
    have hb1 := nextF_bounds (sign := ⟨#[n]⟩) tame (by omega) lT q2a.1 q2a.2
    have hb2 := nextF_bounds (sign := ⟨#[n]⟩) tame (by omega) lT q2n q2m
    have hneS : ∀ p ∈ [(s₁.heap.objs.size + 1 + 1 + 1, o3), (s₁.heap.objs.size + 1 + 1, o2'), (s₁.heap.objs.size + 1, o1')] ++ own, p.1 ≠ S := by
      intro p hp
      rcases List.mem_append.mp hp with hp | hp
      · simp only [List.mem_cons, List.not_mem_nil, or_false] at hp
        rcases hp with rfl | rfl | rfl <;> dsimp only <;> omega
      · exact hoff p hp S (.tail _ List.mem_cons_self)
    clear F9 N9
    have hvl := hf.length
    repeat' (first | walk1 | (dsimp only; walk1) | fail "no step")
    refine append_K F10 N10 (.tail (Nat.ne_of_lt l5.1) (.head hneS)) ?_ (by rw [List.size_toArray, hvl, sizeLine_eq]; omega)
    intro h11 F11 N11
    rw [List.push_toArray] at N11
    refine stTk (P := R3 Flow.next) (h := h11) (g := s₁.gens) (d := s₁.drawn) (o := s₁.os) ?_
    intro tk11
    subst hR3
    dsimp only
    clear F10 N10
    refine wpAny_execs_cons ?_
    refine cutQ ?_
    intro R3 hR3
    repeat' (first | walk1 | (dsimp only; walk1) | fail "no step")
    rename_i R4 hR4
    subst hR4
    refine next_call (rest := (S, listOf (svs ++ [_]).toArray (nS + 1)) :: [(s₁.heap.objs.size + 1 + 1 + 1, o3), (s₁.heap.objs.size + 1 + 1, o2'), (s₁.heap.objs.size + 1, o1')] ++ own) K0 F11 KX N11 T rfl iT (by omega) (by omega) (by omega) q2n q2m tame (by first | decide | ktr_room) (by first | decide | ktr_units) ?_
    intro t12 h12 tk12 F12 N12
    clear F11 N11
    repeat' (first | walk1 | (dsimp only; walk1) | fail "no step")
    rename_i h13 F13 N13
    refine stTk (P := R3 Flow.next) (h := h13) (g := s₁.gens) (d := s₁.drawn) (o := s₁.os) ?_
    intro tk13
    subst hR3
    dsimp only
    refine wpAny_execs_cons ?_
    refine cutQ ?_
    intro R3 hR3
    repeat' (first | walk1 | (dsimp only; walk1) | fail "no step")
    all_goals subst hR3
    all_goals dsimp only
    · rename_i h14 h15 F15 N15
      refine wpAny_execs_nil ?_
      refine' kst_end (sts ++ [nextF word (tabF word) (sts.getD (-1 + (sts.length : Int)).toNat 0) ⟨#[n]⟩], svs ++ [_], nS + 1, 0, _, ap + 1, _) F15 N15 ?hn ?ho rfl (hf.append (.cons _ _ .nil)) ?hk ?hr ⟨?hp, ?hs⟩
      case hk => kst_all
      case hn => 
        intro p hp
        exact List.mem_append_left own hp
      case ho =>
        intro p hp
        exact List.mem_cons_of_mem _ (List.mem_append_right _ hp)
      case hr =>
        intro z hz1 hz2 hz3
        simp only [List.forall_mem_cons, List.not_mem_nil, false_implies, implies_true, and_true, ne_eq] at hz2
        simp [kstB, hz1, hz2]
      case hp =>
        rw [runS_snoc, ← q1, stepS, Int.toNat_natCast]; dsimp only; rw [if_pos (by assumption)]
      case hs =>
        rw [List.length_append]
        exact q2.step hb1 ⟨by dsimp only; omega, by dsimp only; omega⟩ (by dsimp only; omega) (by dsimp only; omega)
    · refine wpAny_execs_nil ?_
      refine' kst_end (sts ++ [nextF word (tabF word) (sts.getD (-1 + (sts.length : Int)).toNat 0) ⟨#[n]⟩], svs ++ [_], nS + 1, nextF word (tabF word) an ⟨#[n]⟩, _, ap, _) F13 N13 ?hn2 ?ho2 rfl (hf.append (.cons _ _ .nil)) ?hk2 ?hr2 ⟨?hp2, ?hs2⟩
      case hk2 => kst_all
      case hn2 => 
        intro p hp
        exact List.mem_append_left own hp
      case ho2 =>
        intro p hp
        exact List.mem_cons_of_mem _ (List.mem_append_right _ hp)
      case hr2 =>
        intro z hz1 hz2 hz3
        simp only [List.forall_mem_cons, List.not_mem_nil, false_implies, implies_true, and_true, ne_eq] at hz2
        simp [kstB, hz1, hz2]
      case hp2 =>
        rw [runS_snoc, ← q1, stepS, Int.toNat_natCast]; dsimp only; rw [if_neg (by assumption)]
      case hs2 =>
        rw [List.length_append]
        exact q2.step hb1 hb2 (by dsimp only; omega) (by dsimp only; omega)
  rintro ⟨sts, svs, nS, an, ta, ap, tp⟩ u h tk hf ⟨q1, q2⟩ F9 N9
  dsimp only at *
  clear F8 N7
  subst hR
  dsimp only
  have hpl : Plain word text sts ap := by
    have h := plain_law ns
    rw [hwd, htx, ← q1] at h
    exact h
  have hsp1 : ∀ k : Nat, k < word.length + 1 → Sp (Str.ofString "..." ++ Txt.slice word none (some (0 + (k : Int)))) := by
    rw [← hwd]
    exact sp1 ns
  have N10 : News s₁.heap s₁.heap.objs.size h [(s₁.heap.objs.size + 1 + 1 + 1, o3), (Tb, listOf ws.toArray kT), (S, listOf svs.toArray nS), (s₁.heap.objs.size + 1 + 1, o2'), (s₁.heap.objs.size + 1, o1')] := kst_newsOf N9 (by kstt_sub)
  replace N9 := N10
  clear N10
  replace F9 : Fr s₁.heap s₁.heap.objs.size h (fun y => if y = Str.ofString "sign" then u y else if y = Str.ofString "anew" then some (Value.int an ta) else if y = Str.ofString "apart" then some (Value.int ap tp) else if y = Str.ofString "states" then some (Value.ref S)
    else if y = Str.ofString "table" then some (Value.ref Tb) else if y = Str.ofString "script" then some (Value.ref l) else none) := by
    refine fr_cg F9 fun z => ?_
    simp only [kstB, List.contains_nil, Bool.false_eq_true, if_false]
    grind
  refine wpAny_execs_cons ?_
  refine cutQ ?_
  intro R hR
  refine wpAny_For ?_
  refine cutQ ?_
  intro R2 hR2
  repeat' (first | walk1 | (dsimp only; walk1) | fail "no step")
  subst hR2
  dsimp only
  rename_i h9 tk9 ta1 tb1 tc1 hRg F10 N10 hkp
  clear hkp
  have hn : Builtin.Range.rangeSize 0 (↑text.length + 1) 1 = ((text.length + 1 : Nat) : Int) := by rw [rangeSize_nat]; omega
  have ltT' : s₁.heap.objs.size + 1 + 1 + 1 < Tb ∧ s₁.heap.objs.size + 1 + 1 < Tb ∧ s₁.heap.objs.size + 1 < Tb := ⟨kst_ltOf ltT _ (.head _), kst_ltOf ltT _ (.tail _ (.head _)), kst_ltOf ltT _ (.tail _ (.tail _ (.head _)))⟩
  refine forCell (c := s₁.heap.objs.size + 1 + 1 + 1) (oc := o3) (y := Str.ofString "told") (n := text.length + 1) (fun _ => True) (by rfl) (by rfl) (by rfl) (by rfl) hRg (small_one (by omega) (by omega) (by omega) (by omega)) hn F10 N10 ⟨_, c3⟩ ?hcn trivial ?turn5 ?done5
  case hcn =>
    intro p hp
    simp only [List.mem_cons, List.not_mem_nil, or_false] at hp
    rcases hp with rfl | rfl | rfl | rfl <;> (show @Ne Nat _ _) <;> dsimp only <;> omega
  case turn5 =>
    intro i tp u h tk o3' I oI hi _ hd3 hIc hIn F11 N11
    dsimp only at *
    clear F10 N10
    refine wpAny_execs_cons ?_
    refine LCt.Assign_ListComp_T (F₀ := F11) (by rfl) (by with_unfolding_all rfl) (by with_unfolding_all rfl) (by decide) (by rfl) (by decide) (by rfl) (by rfl) (by rfl) ?_
    refine cutQ ?_
    intro R3 hR3
    repeat' (first | walk1 | (dsimp only; walk1) | fail "no step")
    rename_i h12 tk12 ta2 tb2 tc2 hRg2 F12 N12 hkp2
    subst hR3
    clear hkp2
    have hn2 : Builtin.Range.rangeSize 0 (↑word.length + 1) 1 = ((word.length + 1 : Nat) : Int) := by rw [rangeSize_nat]; omega
    refine LCt.CompSrcT.range (n := word.length + 1) (by rfl) F12 N12 hRg2 (small_one (by omega) (by omega) (by omega) (by omega)) hn2 (by rw [sizeLine_eq]; omega) ?_
    intro g
    refine restT (toldP word text i) (fun k => (k : Int)) _ trivial ?turn6 ?elem6 ?fin6
    case turn6 =>
      intro i2 v I2 oI2 C oC D ys m₂ h14 tk14 E' hi2 hv2 hC hx F14 N14 off ne
      obtain ⟨t2, rfl⟩ := hv2
      refine cutQ ?_
      intro R4 hR4
      repeat' (first | walk1 | (dsimp only; walk1) | fail "no step")
      rename_i h15 tkA kA F15 N15 hsl R5 hR5
      subst hR5
      refine ell_call (rest := [(I2, oI2), (C, oC), (D, LCg.lst ys), (s₁.heap.objs.size + 1 + 1 + 1, o3'), (I, oI), (Tb, W.listOf ws.toArray kT), (S, W.listOf svs.toArray nS), (s₁.heap.objs.size + 1 + 1, o2'), (s₁.heap.objs.size + 1, o1')]) K0 F15 KX N15 T rfl ?e1 ?e2 ?e3 (by omega) (by first | decide | ktr_room) (by first | decide | ktr_units) ?e4
      case e1 => exact (hsp1 i2 hi2).1
      case e2 => exact (hsp1 i2 hi2).2.1
      case e3 => exact (hsp1 i2 hi2).2.2
      case e4 =>
        intro t16 h16 tk16 F16 N16
        repeat' (first | walk1 | (dsimp only; walk1) | fail "no step")
        subst hR4
        exact ⟨rfl, h16, _, rfl, F16, N16⟩
    case elem6 =>
      intro i2 v I2 oI2 C oC D ys m₂ h14 tk14 E' hi2 hv2 hC hx F14 N14 off ne
      obtain ⟨t2, rfl⟩ := hv2
      refine cutQ ?_
      intro R4 hR4
      repeat' (first | walk1 | (dsimp only; walk1) | fail "no step")
      subst hR4
      exact ⟨⟨t2, by rw [Int.zero_add]⟩, h14, _, rfl, F14, N14⟩
    case fin6 =>
      intro ys hys
      intro D h17 tk17 F17 N17 off17
      clear F12 N12
      dsimp only
      have hMk := kstMark
      have q2l := q2.len
      rw [KStt.codes_length] at q2l
      have q2a := q2.all i (by omega)
      have hvl := hf.length
      refine wpAny_execs_cons ?_
      refine cutQ ?_
      intro R3 hR3
      repeat' (first | walk1 | (dsimp only; walk1) | fail "no step")
      rename_i tq R4 hR4
      subst hR4
      have e0 : (0 + (i : Int)).toNat = i := by omega
      rw [e0]
      have N18 : News s₁.heap s₁.heap.objs.size h17 ((Tb, listOf ws.toArray kT) :: [(D, LCg.lst ys), (s₁.heap.objs.size + 1 + 1 + 1, o3'), (I, oI), (S, listOf svs.toArray nS), (s₁.heap.objs.size + 1 + 1, o2'), (s₁.heap.objs.size + 1, o1')]) := kst_newsOf N17 (by kstt_sub)
      refine chain_call (rest := [(D, LCg.lst ys), (s₁.heap.objs.size + 1 + 1 + 1, o3'), (I, oI), (S, listOf svs.toArray nS), (s₁.heap.objs.size + 1 + 1, o2'), (s₁.heap.objs.size + 1, o1')]) K0 F17 KX N18 T rfl iT (by omega) q2a.1 (by omega) tame (by first | decide | ktr_room) (by first | decide | ktr_units) ?_
      intro l19 ws19 k19 h19 tk19 F19 N19 i19
      clear F17 N17 N18
      repeat' (first | walk1 | (dsimp only; walk1) | fail "no step")
      · subst hR3
        dsimp only
        refine wpAny_execs_nil ?_
        refine ⟨trivial, h19, _, fun _ => some (Value.ref D), o3', rfl, fr_cg F19 fun z => ?_, kst_newsOf N19 (by kstt_sub), _, hd3⟩
        dsimp only
        by_cases hz : z = Str.ofString "told"
        · rw [if_pos hz, if_pos hz]
        · rw [if_neg hz, if_neg hz, if_neg hz]
      · exact absurd (hpl.told i hi) (by assumption)
  intro h tk u o3' _ hd3 F11 N11
  clear F10 N10
  subst hR
  dsimp only
  have hMk := kstMark
  have hsp2 : ∀ k : Nat, k < 5 → Sp (Str.ofString "..." ++ Txt.mul (word ++ Str.ofString "...") (0 + (k : Int))) := by
    rw [← hwd]
    exact sp2 ns
  have q2p := q2.ap0
  have q2q := q2.ap1
  rw [KStt.codes_length] at q2q
  refine wpAny_execs_cons ?_
  refine cutQ ?_
  intro R hR
  repeat' (first | walk1 | (dsimp only; walk1) | fail "no step")
  rename_i R2 hR2
  subst hR2
  refine LCt.ListComp_T (F₀ := F11) (by with_unfolding_all rfl) (by decide) (by rfl) (by decide) (by rfl) ?_
  refine cutQ ?_
  intro R3 hR3
  repeat' (first | walk1 | (dsimp only; walk1) | fail "no step")
  rename_i h12 tk12 ta2 tb2 tc2 hRg2 F12 N12 hkp2
  subst hR3
  clear hkp2
  have hn2 : Builtin.Range.rangeSize 0 (ap + 2) 1 = (((ap + 2).toNat : Nat) : Int) := by rw [rangeSize_nat]; omega
  refine LCt.CompSrcT.range (n := (ap + 2).toNat) (by rfl) F12 N12 hRg2 (small_one (by omega) (by omega) (by omega) (by omega)) hn2 (by rw [sizeLine_eq]; omega) ?_
  intro g
  refine restT (manyP word text) (fun k => (k : Int)) _ trivial ?turn7 ?elem7 ?fin7
  case turn7 =>
    intro i2 v I2 oI2 C oC D ys m₂ h14 tk14 E' hi2 hv2 hC hx F14 N14 off ne
    obtain ⟨t2, rfl⟩ := hv2
    refine cutQ ?_
    intro R4 hR4
    repeat' (first | walk1 | (dsimp only; walk1) | fail "no step")
    rename_i tm km hwl R5 hR5
    subst hR5
    rw [dots_len] at hwl
    refine KXi.mul (n := (word ++ Str.ofString "...").length) rfl (by omega) (by omega) (by omega) ?_
    intro tm2 km2 _ hml
    have hml2 := hml (by omega)
    have hmb : (Txt.mul (word ++ Str.ofString "...") (0 + (i2 : Int))).length ≤ 8 * 16 := by
      have hb1 : (word ++ Str.ofString "...").length ≤ 8 := by omega
      have hb2 : (0 + (i2 : Int)) ≤ 16 := by omega
      have := Int.mul_le_mul (Int.ofNat_le.mpr hb1) hb2 (by omega) (by omega)
      omega
    clear hml hml2
    repeat' (first | walk1 | (dsimp only; walk1) | fail "no step")
    rename_i tm3 km3 hwl3 R5 hR5
    subst hR5
    have hap3 := hpl.ap3
    have hsq := hsp2 i2 (by omega)
    refine ell_call (rest := [(I2, oI2), (C, oC), (D, LCg.lst ys), (s₁.heap.objs.size + 1 + 1 + 1, o3'), (Tb, listOf ws.toArray kT), (S, listOf svs.toArray nS), (s₁.heap.objs.size + 1 + 1, o2'), (s₁.heap.objs.size + 1, o1')]) K0 F14 KX N14 T rfl hsq.1 hsq.2.1 hsq.2.2 (by omega) (by first | decide | ktr_room) (by first | decide | ktr_units) ?_
    intro t16 h16 tk16 F16 N16
    repeat' (first | walk1 | (dsimp only; walk1) | fail "no step")
    subst hR4
    exact ⟨rfl, h16, _, rfl, F16, N16⟩
  case elem7 =>
    intro i2 v I2 oI2 C oC D ys m₂ h14 tk14 E' hi2 hv2 hC hx F14 N14 off ne
    obtain ⟨t2, rfl⟩ := hv2
    refine cutQ ?_
    intro R4 hR4
    repeat' (first | walk1 | (dsimp only; walk1) | fail "no step")
    subst hR4
    exact ⟨⟨t2, by rw [Int.zero_add]⟩, h14, _, rfl, F14, N14⟩
  intro ys hys
  intro D h17 tk17 F17 N17 off17
  try clear F12 N12
  repeat' (first | walk1 | (dsimp only; walk1) | fail "no step")
  case' refine_2 => exact absurd hpl.many (by assumption)
  rename_i h18 tk18 F18 N18 i18 l18 hmm
  clear hmm i18 l18
  have N19 : News s₁.heap s₁.heap.objs.size h18 [(s₁.heap.objs.size + 1 + 1 + 1, o3'), (Tb, listOf ws.toArray kT), (S, listOf svs.toArray nS), (s₁.heap.objs.size + 1 + 1, o2'), (s₁.heap.objs.size + 1, o1')] := kst_newsOf N18 (by kstt_sub)
  clear N18
  refine stTk (P := R Flow.next) (h := h18) (g := s₁.gens) (d := s₁.drawn) (o := s₁.os) ?_
  intro tk19
  subst hR
  dsimp only
  refine wpAny_execs_cons ?_
  refine cutQ ?_
  intro R hR
  repeat' (first | walk1 | (dsimp only; walk1) | fail "no step")
  rename_i h20 F20 N20
  refine stTk (P := R Flow.next) (h := h20) (g := s₁.gens) (d := s₁.drawn) (o := s₁.os) ?_
  intro tk20
  subst hR
  dsimp only
  refine wpAny_execs_cons ?_
  refine cutQ ?_
  intro R hR
  have q2l := q2.len
  rw [KStt.codes_length] at q2l
  have q2a := q2.all word.length
  have q2b := q2.all (-1 + (sts.length : Int)).toNat (by omega)
  have hvl := hf.length
  have hsp3 : Sp (word ++ Str.ofString "..." ++ word) := by
    rw [← hwd]
    exact sp3 ns
  have tail : ∀ (b : Bool) (h : Heap) (tk : Nat) (u5 : Str → Option Value), b = bothF word text sts → Fr s₁.heap s₁.heap.objs.size h (fun y => if y = Str.ofString "both" then some (Value.bool b) else u5 y) →
      News s₁.heap s₁.heap.objs.size h [(s₁.heap.objs.size + 1 + 1 + 1, o3'), (Tb, listOf ws.toArray kT), (S, listOf svs.toArray nS), (s₁.heap.objs.size + 1 + 1, o2'), (s₁.heap.objs.size + 1, o1')] → R .next ⟨h, s₁.gens, s₁.drawn, tk, s₁.os⟩ := by
    clear F20 N20
    intro b h tk u5 hb F20 N20
    subst hR
    dsimp only
    repeat' (first | walk1 | (dsimp only; walk1) | fail "no step")
    rename_i t21 k21 hwl R2 hR2
    subst hR2
    refine ell_call K0 F20 KX N20 T rfl hsp3.1 hsp3.2.1 hsp3.2.2 (by omega) (by first | decide | ktr_room) (by first | decide | ktr_units) ?_
    intro t22 h22 tk22 F22 N22
    repeat' (first | walk1 | (dsimp only; walk1) | fail "no step")
    have he : (ellF (word ++ Str.ofString "..." ++ word) text == b) = true := by rw [hb, hpl.both]; exact beq_self_eq_true _
    rw [he]
    refine goodW_bool F22 hg (raisesW_false ?_) ?_
    · wrow_none_raised
    · wrow_post
  repeat' (first | walk1 | (dsimp only; walk1) | fail "no step")
  · refine tail _ _ _ _ ?_ (by assumption) (by assumption)
    unfold bothF
    simp_all
  · refine tail _ _ _ _ ?_ (by assumption) (by assumption)
    unfold bothF
    simp_all
  · refine tail _ _ _ _ ?_ (by assumption) (by assumption)
    unfold bothF
    rw [decide_eq_false (by assumption)]
    rfl
)

end Mine
theorem PySem.Challenge.cw_mq0116_01_holds : PySem.Challenge.rw_mq0116_01.Holds := by
  exact Mine.law_holds
