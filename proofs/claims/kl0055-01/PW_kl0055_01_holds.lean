import PyProof.Rows.All
import Wide.All
import OpenK.AllK
import Wide.FinOn
import PyProof.ListNew
import PyProof.ZipIter
import PySem.Challenge.RW_kl0055_01
set_option Elab.async false
set_option maxRecDepth 100000
set_option rowWalk.seconds 0
section
open PySem PySem.W PyProof.Rows
set_option maxHeartbeats 8000000
namespace Mine
open_top hd for PySem.Challenge.rw_kl0055_01
end Mine
end
section
open PySem PySem.W PySem.Spec PySem.Calls PyProof.Rows
theorem Mine.tickWarm (M : Model) (A : Around) (E : Value → Shared → Prop) (s : Shared) (env : Env) (pos : Pos) : wpAny M A (exec (.Pass pos) env) (fun _ _ => True) E s := by
  w_top off
  first | (walk1; fail) | exact wpAny_Pass trivial
end
section
open PySem PySem.W PySem.Spec PySem.Calls PyProof.Rows
namespace Mine
def noProg : Program := { (default : Program) with main := { (default : Module) with body := [] } }
theorem top_no {loose : List Str} {mean : ExcName → Option Value} {mg mb : Str → Option Value} {h : Heap} (T : Top topProg loose mean mg mb h) (S : h.NoSeer) : Top noProg loose mean mg mb h where
  g := T.g
  b := T.b
  nolimit := T.nolimit
  nodigits := T.nodigits
  fn := fun d hd => absurd (show d ∈ ([] : List DefRec) from hd) List.not_mem_nil
  own := fun o ho => absurd (show o ∈ ([] : List OwnSpec) from ho) List.not_mem_nil
  const := fun x d e => by cases (show (none : Option PyData) = some d from e)
  free := T.free
  builtins := T.builtins
  tab := fun d hd => absurd (show d ∈ ([] : List DefRec) from hd) List.not_mem_nil
  bmain := T.bmain
  seer := fun _ => S

theorem warm : PySem.Challenge.rw_kl0055_01 = PySem.Challenge.rw_kl0055_01 ∧ hd.heap_39 = hd.heap_39 := by
  k_fill
  exact ⟨rfl, rfl⟩

def Tl (w : World) (f : Addr) (vs : List Value) (news : List (Addr × Obj)) (cost : Nat) (Out : List (Addr × Obj) → Value → Prop) : Prop :=
  ∀ (loose : List Str) (mean : ExcName → Option Value) (mg mb : Str → Option Value) (dp un : Nat) (cn : Str) (cs : Scope) (a : Addr) (ccd : Value) (cl : List (Str × Addr)) (outer : List Env) (A₀ : Around) (base h₀ : Heap) (L : Addr) (m : Str → Option Value) (s : Shared)
    (Q E : Value → Shared → Prop),
    Below A₀ base outer h₀ → Fr h₀ L s.heap m → (hd.heap_39 w.params).In h₀ → News h₀ L s.heap news → Top noProg loose mean mg mb h₀ → cs.kind = .function → dp + cost < recursionLimit → un + 8 * cost < cLine →
    (∀ r tl h' tk', Fr h₀ L h' m → News h₀ L h' (news ++ tl) → (∀ q ∈ news, ∀ p ∈ tl, q.1 < p.1) → Out (news ++ tl) r → Q r { s with heap := h', toks := tk' }) →
    wpAny (model PySem.Challenge.rw_kl0055_01.row.prog w) (ktrTop dp un (some []) cn cs L a ccd cl outer) (call (.ref f) vs) Q E s
end Mine
end
section
open PySem PySem.W PySem.Spec PySem.Calls PyProof.Rows
theorem Mine.tickCodes (M : Model) (A : Around) (E : Value → Shared → Prop) (s : Shared) (env : Env) (pos : Pos) : wpAny M A (exec (.Pass pos) env) (fun _ _ => True) E s := by
  w_top off
  first | (walk1; fail) | exact wpAny_Pass trivial
end
section
open PySem PySem.W PySem.Spec PySem.Calls PyProof.Rows
set_option maxHeartbeats 8000000
namespace Mine
def menu4 (j : Nat) : Int := [0, 48, 97, 233].getD j 0
def codesN (k : Nat) : List Int := if h : k = 0 then [] else [0, 48, 97, 233].getD ((k - 1) % 4) 0 :: codesN ((k - 1) / 4)
termination_by k
decreasing_by omega
@[irreducible] def codesOf (k : Int) : List Int := codesN k.toNat
theorem codesOf_zero : codesOf 0 = [] := by unfold codesOf; rw [show (0 : Int).toNat = 0 from rfl, codesN]; rfl
theorem codesOf_pos {k : Int} (h : 0 < k) : codesOf k = [0, 48, 97, 233].getD ((k - 1).fmod 4).toNat 0 :: codesOf ((k - 1).fdiv 4) := by
  unfold codesOf
  rw [codesN, dif_neg (by omega), Int.fmod_eq_emod_of_nonneg _ (by decide), Int.fdiv_eq_ediv_of_nonneg _ (by decide)]
  rw [show (k.toNat - 1) % 4 = ((k - 1) % 4).toNat by omega, show (k.toNat - 1) / 4 = ((k - 1) / 4).toNat by omega]
abbrev CS := Int × Tok × List Value × List Int × Nat
theorem codes_turn {k rest : Int} {ns : List Int} (hne : rest ≠ 0) (hP0 : 0 ≤ rest) (hP1 : rest < 400) (hP2 : ns ++ codesOf rest = codesOf k) (hP3 : (ns.length : Int) + rest ≤ 400) :
    (0 ≤ (rest - 1).fdiv 4 ∧ (rest - 1).fdiv 4 < 400 ∧ (ns ++ [[0, 48, 97, 233].getD ((rest - 1).fmod 4).toNat 0]) ++ codesOf ((rest - 1).fdiv 4) = codesOf k ∧ ((ns ++ [[0, 48, 97, 233].getD ((rest - 1).fmod 4).toNat 0]).length : Int) + (rest - 1).fdiv 4 ≤ 400) ∧ ((rest - 1).fdiv 4).toNat < rest.toNat := by
  have e : (rest - 1).fdiv 4 = (rest - 1) / 4 := Int.fdiv_eq_ediv_of_nonneg _ (by decide)
  rw [codesOf_pos (by omega)] at hP2
  refine ⟨⟨by omega, by omega, ?_, ?_⟩, by omega⟩
  · rw [List.append_assoc]; exact hP2
  · rw [List.length_append, List.length_singleton]; omega
theorem intsAre_snoc {vs : List Value} {ns : List Int} (h : IntsAre vs ns) (x : Int) (t : Tok) : IntsAre (vs ++ [.int x t]) (ns ++ [x]) :=
  h.append (.cons x t .nil)
theorem codes_tl (w : World) (k : Int) (tk0 : Tok) (news) (h0 : 0 ≤ k) (h1 : k < 400) : Tl w 86 [.int k tk0] news 2 (fun led r => ∃ l vs n, r = .ref l ∧ (l, W.listOf vs.toArray n) ∈ led ∧ IntsAre vs (codesOf k) ∧ ∀ q ∈ news, q.1 < l) := by
  unfold Tl
  intro loose mean mg mb dp un cn cs a ccd cl outer A₀ base h₀ L m s Q E B F X N T hk hdp hu hret
  refine wpAny_call ?_
  k_dflt ktr_enter
  iterate 9 walk1
  rename_i g' L' h3 FG' B' X' T' tk' l' h2 lt h4 F' N'
  with_unfolding_all (refine' ksw_while (σ := CS) (fun c => (l', W.listOf c.2.2.1.toArray c.2.2.2.2) :: news) (fun c => [("rest", .int c.1 c.2.1)]) (fun c => IntsAre c.2.2.1 c.2.2.2.1) []
                              (fun c => 0 ≤ c.1 ∧ c.1 < 400 ∧ c.2.2.2.1 ++ codesOf c.1 = codesOf k ∧ (c.2.2.2.1.length : Int) + c.1 ≤ 400) (fun c => c.1.toNat) (k, tk0, [], [], 0) F' N' ?_ ?_ ?_ ?_)
  · exact .nil
  · intro p hp; cases hp with
    | head => rfl
    | tail _ hp => cases hp
  · refine ⟨h0, h1, rfl, ?_⟩
    show ((0 : Nat) : Int) + k ≤ 400
    omega
  rintro ⟨rest, rtk, vs, ns, cnt⟩ u h tk hF ⟨hP0, hP1, hP2, hP3⟩ F1 N1
  dsimp only [kstB] at hF hP0 hP1 hP2 hP3 F1 N1 ⊢
  have hl := hF.length
  clear F' N'
  (with_reducible show wpAny _ _ _ _ _ _)
  try k_fold
  k_steps
  · rename_i hne _ _ _ _ t9 _ _ F9 N9
    obtain ⟨z1, z2⟩ := codes_turn hne hP0 hP1 hP2 hP3
    have N8 := N9
    simp only [List.push_toArray] at N8
    refine' ksw_end (σ := CS) ((rest - 1).fdiv 4, ?t1, vs ++ [.int ([0, 48, 97, 233].getD ((rest - 1).fmod 4).toNat 0) t9], ns ++ [[0, 48, 97, 233].getD ((rest - 1).fmod 4).toNat 0], cnt + 1) F9 N8 ?a ?b ?c ?d z1 z2
    case a => intro p hp; exact List.mem_cons_of_mem _ hp
    case b => exact intsAre_snoc hF _ _
    case c =>
      intro p hp; cases hp with
      | head => rfl
      | tail _ hp => cases hp
    case d =>
      intro z hz _
      have hz' := hz _ (.head _)
      simp [hz']
  · rename_i hz kF kN _ _
    have hz' : rest = 0 := hz
    subst hz'
    rw [codesOf_zero, List.append_nil] at hP2
    subst hP2
    refine hret _ [(l', W.listOf vs.toArray cnt)] _ _ kF ?_ ?_ ⟨l', vs, cnt, rfl, by simp, hF, lt⟩
    · intro p hp
      refine kN p ?_
      simp only [List.mem_append, List.mem_cons, List.not_mem_nil, or_false] at hp ⊢
      exact hp.symm
    · intro q hq p hp
      rw [List.mem_singleton] at hp
      subst hp
      exact lt q hq
end Mine
end
section
open PySem PySem.W PySem.Spec PySem.Calls PyProof.Rows
theorem Mine.tickComp (M : Model) (A : Around) (E : Value → Shared → Prop) (s : Shared) (env : Env) (pos : Pos) : wpAny M A (exec (.Pass pos) env) (fun _ _ => True) E s := by
  w_top off
  first | (walk1; fail) | exact wpAny_Pass trivial
end
section
open PySem PySem.W PySem.Spec PySem.Calls PyProof.Rows
set_option maxHeartbeats 2000000
namespace Mine
section
variable {prog : Program} {w : World} {A : Around} {h₀ : Heap} {L : Addr} {m : Str → Option Value} {env : Env} {ct elt : Expr} {x : Str} {scope : Scope} {cl : List (Str × Addr)} {s : Shared} {S : List (Addr × Obj) → Prop} {P : Nat → Value → Prop} {Fin : List Value → List (Addr × Obj) → Prop}
theorem comp_inv {n : Nat} {news : List (Addr × Obj)} (J : Nat → List Value → List (Addr × Obj) → Prop) (h0 : J 0 [] news)
    (turn : ∀ i v ys nw I oI C oC D m₂ h tk (E' : Value → Shared → Prop), i < n → J i ys nw → P i v → LCg.NsObj oC m₂ → m₂ x = some v → Fr h₀ L h m → News h₀ L h ((I, oI) :: (C, oC) :: (D, LCg.lst ys) :: nw) → LCg.Off3 I C D nw → ((@Ne Nat I C) ∧ (@Ne Nat I D) ∧ (@Ne Nat C D)) →
      wpAny (model prog w) A (eval elt (compEnvC scope cl C env)) (LCg.CompEnd h₀ L m { s with heap := h, toks := tk } I oI C oC D (LCg.lst ys) S (fun y nw' => J (i + 1) (ys ++ [y]) nw')) E' { s with heap := h, toks := tk })
    (fin : ∀ ys nw, J n ys nw → Fin ys nw) : LCg.CompRest prog w A h₀ L m env elt x scope cl s S P Fin n 0 [] news := by
  have key : ∀ (j i : Nat) (ys : List Value) (nw : List (Addr × Obj)), i + j = n → J i ys nw → LCg.CompRest prog w A h₀ L m env elt x scope cl s S P Fin j i ys nw := by
    intro j
    induction j with
    | zero =>
      intro i ys nw hi hy
      obtain rfl : i = n := by omega
      exact LCg.CompRest.zero (fin ys nw hy)
    | succ j ih =>
      intro i ys nw hi hy
      refine LCg.CompRest.succ ?_
      intro v I oI C oC D m₂ h tk E' hv hC hx F N off ne
      refine wpAny_mono (turn i v ys nw I oI C oC D m₂ h tk E' (by omega) hy hv hC hx F N off ne) (fun y s₂ hq => ?_) fun _ _ e => e
      obtain ⟨h', tk', nw', e, F', N', off', hS, hn⟩ := hq
      exact ⟨h', tk', nw', e, F', N', off', hS, ih (i + 1) _ nw' (by omega) hn⟩
  exact key n 0 [] news (by omega) h0
theorem comp_invT {n : Nat} {news : List (Addr × Obj)} (J : Nat → List Value → List (Addr × Obj) → Prop) (h0 : J 0 [] news)
    (turn : ∀ i v ys nw I oI C oC D m₂ h tk (E' : Value → Shared → Prop), i < n → J i ys nw → P i v → LCg.NsObj oC m₂ → m₂ x = some v → Fr h₀ L h m → News h₀ L h ((I, oI) :: (C, oC) :: (D, LCg.lst ys) :: nw) → LCg.Off3 I C D nw → ((@Ne Nat I C) ∧ (@Ne Nat I D) ∧ (@Ne Nat C D)) →
      wpAny (model prog w) A (isTrue ct (compEnvC scope cl C env) (eval ct (compEnvC scope cl C env))) (fun ok s' => if ok = true then
        wpAny (model prog w) A (eval elt (compEnvC scope cl C env)) (LCg.CompEnd h₀ L m { s with heap := h, toks := tk } I oI C oC D (LCg.lst ys) S (fun y nw' => J (i + 1) (ys ++ [y]) nw')) E' s'
        else LCg.CompEnd h₀ L m { s with heap := h, toks := tk } I oI C oC D (LCg.lst ys) S (fun _ nw' => J (i + 1) ys nw') Value.none s') E' { s with heap := h, toks := tk })
    (fin : ∀ ys nw, J n ys nw → Fin ys nw) : LCt.CompRestT prog w A h₀ L m env ct elt x scope cl s S P Fin n 0 [] news := by
  have key : ∀ (j i : Nat) (ys : List Value) (nw : List (Addr × Obj)), i + j = n → J i ys nw → LCt.CompRestT prog w A h₀ L m env ct elt x scope cl s S P Fin j i ys nw := by
    intro j
    induction j with
    | zero =>
      intro i ys nw hi hy
      obtain rfl : i = n := by omega
      exact LCt.CompRestT.zero (fin ys nw hy)
    | succ j ih =>
      intro i ys nw hi hy
      refine LCt.CompRestT.succ ?_
      intro v I oI C oC D m₂ h tk E' hv hC hx F N off ne
      refine wpAny_mono (turn i v ys nw I oI C oC D m₂ h tk E' (by omega) hy hv hC hx F N off ne) (fun ok s₂ hq => ?_) fun _ _ e => e
      cases ok with
      | true =>
        simp only [if_true] at hq ⊢
        refine wpAny_mono hq (fun y s₃ hq => ?_) fun _ _ e => e
        obtain ⟨h', tk', nw', e, F', N', off', hS, hn⟩ := hq
        exact ⟨h', tk', nw', e, F', N', off', hS, ih (i + 1) _ nw' (by omega) hn⟩
      | false =>
        simp only [Bool.false_eq_true, if_false] at hq ⊢
        obtain ⟨h', tk', nw', e, F', N', off', hS, hn⟩ := hq
        exact ⟨h', tk', nw', e, F', N', off', hS, ih (i + 1) _ nw' (by omega) hn⟩
  exact key n 0 [] news (by omega) h0
end
end Mine
end
section
open PySem PySem.W PySem.Spec PySem.Calls PyProof.Rows
theorem Mine.tickThing (M : Model) (A : Around) (E : Value → Shared → Prop) (s : Shared) (env : Env) (pos : Pos) : wpAny M A (exec (.Pass pos) env) (fun _ _ => True) E s := by
  w_top off
  first | (walk1; fail) | exact wpAny_Pass trivial
end
section
open PySem PySem.W PySem.Spec PySem.Calls PyProof.Rows
set_option maxHeartbeats 8000000
namespace Mine
theorem tl_use {w : World} {f : Addr} {vs : List Value} {news : List (Addr × Obj)} {cost : Nat} {Out : List (Addr × Obj) → Value → Prop}
    {loose : List Str} {mean : ExcName → Option Value} {mg mb : Str → Option Value} {dp un : Nat} {cn : Str} {cs : Scope} {a : Addr} {ccd : Value} {cl : List (Str × Addr)} {outer : List Env} {A₀ : Around} {base h₀ : Heap} {L : Addr} {m : Str → Option Value} {s : Shared}
    {Q E : Value → Shared → Prop} (C : Tl w f vs news cost Out) (B : Below A₀ base outer h₀) (F : Fr h₀ L s.heap m) (X : (hd.heap_39 w.params).In h₀) (N : News h₀ L s.heap news) (T : Top noProg loose mean mg mb h₀) (hk : cs.kind = .function)
    (hdp : dp + cost < recursionLimit) (hu : un + 8 * cost < cLine)
    (ret : ∀ r tl h' tk', Fr h₀ L h' m → News h₀ L h' (news ++ tl) → (∀ q ∈ news, ∀ p ∈ tl, q.1 < p.1) → Out (news ++ tl) r → Q r { s with heap := h', toks := tk' }) :
    wpAny (model PySem.Challenge.rw_kl0055_01.row.prog w) (ktrTop dp un (some []) cn cs L a ccd cl outer) (call (.ref f) vs) Q E s :=
  C _ _ _ _ _ _ _ _ _ _ _ _ _ _ _ _ _ _ _ _ B F X N T hk hdp hu ret
theorem news_first {h₀ h : Heap} {L : Addr} {news tl : List (Addr × Obj)} {p : Addr × Obj} (N : News h₀ L h (news ++ tl)) (hp : p ∈ news ++ tl) : News h₀ L h (p :: news) := fun q hq => by
  rcases List.mem_cons.mp hq with rfl | hq
  · exact N _ hp
  · exact N _ (List.mem_append_left _ hq)
theorem div6 {n : Int} (h0 : 0 ≤ n) (h1 : n < 2400) : 0 ≤ n.fdiv 6 ∧ n.fdiv 6 < 400 := by
  rw [Int.fdiv_eq_ediv_of_nonneg _ (by decide)]; omega
local macro_rules | `(tactic| walk_at "call ref") => `(tactic| (k_here; (with_reducible show wpAny _ _ (call (Value.ref 86) [Value.int _ _]) _ _ _); (refine' tl_use (codes_tl _ _ _ _ ?c0 ?c1) ?k1 ?k2 ?k3 ?k4 ?k5 ?kK ?kd ?ku ?_; (case k1 => k_asm); (case k2 => k_asm); (case k3 => k_asm); (case k4 => k_asm); (case k5 => k_asm); (case kK => first | exact rfl | assumption); (case kd => ktr_room); (case ku => ktr_units); (case c0 => exact (div6 (by assumption) (by assumption)).1); (case c1 => exact (div6 (by assumption) (by assumption)).2)); intro r9 tl9 h9 tk9 F9 N9 hl9 ho9; obtain ⟨l9, vs9, n9, e9, hm9, hi9, hlt9⟩ := ho9; subst e9; (have N9 := news_first N9 hm9); clear hm9 hl9; (try dsimp only); (try k_fold)))
local macro_rules | `(tactic| walk_at "eval ListComp") => `(tactic| (k_here; k_dflt (refine LCg.ListComp_U (F₀ := by k_asm) (by rfl) (by decide) (by rfl) (by decide) (by rfl) ?_)))
local macro_rules | `(tactic| walk_at "CompSrc") => `(tactic| (k_here; k_dflt (refine LCg.CompSrc.ledger rfl (by k_asm) (by k_asm) (by k_mem) ?hsz9 ?_)))
theorem codesN_len : ∀ k : Nat, (codesN k).length ≤ k := by
  intro k
  induction k using Nat.strongRecOn with
  | ind k ih =>
    rw [codesN]
    by_cases h : k = 0
    · rw [dif_pos h]; simp
    · rw [dif_neg h, List.length_cons]
      have := ih ((k - 1) / 4) (by omega)
      omega
theorem codesOf_len {k : Int} (h : k < 400) : (codesOf k).length ≤ 400 := by
  unfold codesOf
  have := codesN_len k.toNat
  omega
theorem codesN_mem : ∀ k : Nat, ∀ c ∈ codesN k, c = 0 ∨ c = 48 ∨ c = 97 ∨ c = 233 := by
  intro k
  induction k using Nat.strongRecOn with
  | ind k ih =>
    rw [codesN]
    by_cases h : k = 0
    · rw [dif_pos h]; intro c hc; cases hc
    · rw [dif_neg h]
      intro c hc
      rcases List.mem_cons.mp hc with rfl | hc
      · have hj : (k - 1) % 4 < 4 := Nat.mod_lt _ (by decide)
        generalize (k - 1) % 4 = j at hj
        rcases (by omega : j = 0 ∨ j = 1 ∨ j = 2 ∨ j = 3) with rfl | rfl | rfl | rfl <;> simp
      · exact ih ((k - 1) / 4) (by omega) c hc
theorem codesOf_mem {k : Int} : ∀ c ∈ codesOf k, c = 0 ∨ c = 48 ∨ c = 97 ∨ c = 233 := by
  unfold codesOf
  exact codesN_mem _
theorem codesOf_in {k : Int} : ∀ c ∈ codesOf k, 0 ≤ c ∧ c < 256 := fun c hc => by
  rcases codesOf_mem c hc with rfl | rfl | rfl | rfl <;> decide
theorem codes_size {vs : List Value} {k : Int} (h : IntsAre vs (codesOf k)) (hk : k < 400) : vs.toArray.size ≤ sizeLine := by
  rw [List.size_toArray, h.length, sizeLine_eq]
  have := codesOf_len hk
  omega
theorem strsAre_snoc {y : Str} {t : Tok} : ∀ {vs : List Value} {ys : List Str}, StrsAre vs ys → StrsAre (vs ++ [.str y t]) (ys ++ [y])
  | _, _, .nil => .cons y t .nil
  | _, _, .cons z u h => .cons z u (strsAre_snoc h)
theorem join_signs (l : List Int) : Txt.join (Str.ofString "") (l.map fun c => (⟨#[c.toNat]⟩ : Str)) = ⟨(l.map Int.toNat).toArray⟩ := by
  have e : (l.map fun c => (⟨#[c.toNat]⟩ : Str)) = signs ⟨(l.map Int.toNat).toArray⟩ := by simp [signs]
  have e0 : Str.ofString "" = ⟨#[]⟩ := by decide
  rw [e, e0]
  unfold Txt.join
  rw [StrLaws.glued_eq_join, join_nil_signs]
theorem join_room {l : List Int} (h : l.length ≤ 400) : ((l.map fun c => (⟨#[c.toNat]⟩ : Str)).map (·.length)).sum + (l.map fun c => (⟨#[c.toNat]⟩ : Str)).length ≤ 1048576 := by
  have e : ((l.map fun c => (⟨#[c.toNat]⟩ : Str)).map (·.length)).sum = l.length := by
    clear h
    induction l with
    | nil => rfl
    | cons a r ih => simp only [List.map_cons, List.sum_cons, List.length_cons]; rw [ih]; show 1 + r.length = r.length + 1; omega
  rw [e, List.length_map]; omega
abbrev tupOf (vs : List Value) : Obj := { cls := .type "tuple", data := .seq vs.toArray }
def IsD (w : World) (o : Obj) (kvs : List (Str × Value)) : Prop := Obj.IsDictOf (PySem.strKind PySem.Challenge.rw_kl0055_01.row.prog w) o kvs
inductive IsThing (w : World) (led : List (Addr × Obj)) : Value → Int → Prop
  | text {n : Int} {t : Tok} : n.fmod 6 = 0 → IsThing w led (.str ⟨((codesOf (n.fdiv 6)).map Int.toNat).toArray⟩ t) n
  | bytes {n : Int} {t : Tok} : n.fmod 6 = 1 → IsThing w led (.bytes ((codesOf (n.fdiv 6)).map fun n => n.toNat.toUInt8).toArray t) n
  | list {n : Int} {l : Addr} {vs : List Value} {k : Nat} : n.fmod 6 = 2 → (l, W.listOf vs.toArray k) ∈ led → IntsAre vs (codesOf (n.fdiv 6)) → IsThing w led (.ref l) n
  | tuple {n : Int} {l : Addr} {vs : List Value} : n.fmod 6 = 3 → (l, tupOf vs) ∈ led → IntsAre vs (codesOf (n.fdiv 6)) → IsThing w led (.ref l) n
  | int {n : Int} {t : Tok} : n.fmod 6 = 4 → IsThing w led (.int (n.fdiv 6) t) n
  | none {n : Int} : n.fmod 6 = 5 → (n.fdiv 6).fmod 5 = 0 → IsThing w led .none n
  | false {n : Int} : n.fmod 6 = 5 → (n.fdiv 6).fmod 5 = 1 → IsThing w led (.bool Bool.false) n
  | true {n : Int} : n.fmod 6 = 5 → (n.fdiv 6).fmod 5 = 2 → IsThing w led (.bool Bool.true) n
  | dict0 {n : Int} {d : Addr} {o : Obj} : n.fmod 6 = 5 → (n.fdiv 6).fmod 5 = 3 → (d, o) ∈ led → (d == sysModules) = Bool.false → IsD w o [] → IsThing w led (.ref d) n
  | dict1 {n : Int} {d l : Addr} {o : Obj} {vs : List Value} {k : Nat} : n.fmod 6 = 5 → (n.fdiv 6).fmod 5 = 4 → (d, o) ∈ led → (d == sysModules) = Bool.false →
      IsD w o [(Str.ofString "a", .ref l)] → (l, W.listOf vs.toArray k) ∈ led → IntsAre vs (codesOf (n.fdiv 6)) → IsThing w led (.ref d) n
theorem allLt_mem {d : Addr} {l : List (Addr × Obj)} (h : AllLt d l) : ∀ q ∈ l, q.1 < d := by
  induction l with
  | nil => intro q hq; exact nomatch hq
  | cons p r ih =>
    intro q hq
    rcases List.mem_cons.mp hq with rfl | hq
    · exact h.1
    · exact ih h.2 q hq
theorem six {n : Int} (h0 : n.fmod 6 ≠ 0) (h1 : n.fmod 6 ≠ 1) (h2 : n.fmod 6 ≠ 2) (h3 : n.fmod 6 ≠ 3) (h4 : n.fmod 6 ≠ 4) : n.fmod 6 = 5 := by
  have e1 : n.fmod 6 = n % 6 := Int.fmod_eq_emod_of_nonneg _ (by decide)
  omega
theorem five (k : Int) : k.fmod 5 = 0 ∨ k.fmod 5 = 1 ∨ k.fmod 5 = 2 ∨ k.fmod 5 = 3 ∨ k.fmod 5 = 4 := by
  rw [Int.fmod_eq_emod_of_nonneg _ (by decide)]; omega
theorem tl_end {h₀ h' : Heap} {L : Addr} {m : Str → Option Value} {s : Shared} {Q : Value → Shared → Prop} {news led : List (Addr × Obj)} {Out : List (Addr × Obj) → Value → Prop} {r : Value} {tk' : Nat} (tl : List (Addr × Obj))
    (hret : ∀ r tl h' tk', Fr h₀ L h' m → News h₀ L h' (news ++ tl) → (∀ q ∈ news, ∀ p ∈ tl, q.1 < p.1) → Out (news ++ tl) r → Q r { s with heap := h', toks := tk' })
    (F : Fr h₀ L h' m) (N : News h₀ L h' led) (hs : ∀ p ∈ tl, p ∈ led) (hn : ∀ p ∈ news, p ∈ led) (ord : ∀ p ∈ tl, ∀ q ∈ news, q.1 < p.1) (O : Out (news ++ tl) r) : Q r { s with heap := h', toks := tk' } :=
  hret r tl h' tk' F (fun p hp => N p ((List.mem_append.mp hp).elim (hn p) (hs p))) (fun q hq p hp => ord p hp q hq) O
theorem IsThing.mono {w : World} {led led' : List (Addr × Obj)} {v : Value} {n : Int} (h : ∀ p ∈ led, p ∈ led') (O : IsThing w led v n) : IsThing w led' v n := by
  cases O with
  | text e => exact .text e
  | bytes e => exact .bytes e
  | list e hm hi => exact .list e (h _ hm) hi
  | tuple e hm hi => exact .tuple e (h _ hm) hi
  | int e => exact .int e
  | none e f => exact .none e f
  | false e f => exact .false e f
  | true e f => exact .true e f
  | dict0 e f hm lo hd => exact .dict0 e f (h _ hm) lo hd
  | dict1 e f hm lo hd hl hi => exact .dict1 e f (h _ hm) lo hd (h _ hl) hi
theorem tl_thing {w : World} {n : Int} {h₀ h' : Heap} {L : Addr} {m : Str → Option Value} {s : Shared} {Q : Value → Shared → Prop} {news led : List (Addr × Obj)} {r : Value} {tk' : Nat} (tl : List (Addr × Obj))
    (hret : ∀ r tl h' tk', Fr h₀ L h' m → News h₀ L h' (news ++ tl) → (∀ q ∈ news, ∀ p ∈ tl, q.1 < p.1) → (∃ tl', (∀ p ∈ tl', p ∈ news ++ tl ∧ ∀ q ∈ news, @LT.lt Nat _ q.1 p.1) ∧ IsThing w tl' r n) → Q r { s with heap := h', toks := tk' })
    (F : Fr h₀ L h' m) (N : News h₀ L h' led) (hs : ∀ p ∈ tl, p ∈ led) (hn : ∀ p ∈ news, p ∈ led) (ord : ∀ p ∈ tl, ∀ q ∈ news, q.1 < p.1) (O : IsThing w tl r n) : Q r { s with heap := h', toks := tk' } :=
  tl_end (Out := fun led r => ∃ tl', (∀ p ∈ tl', p ∈ led ∧ ∀ q ∈ news, @LT.lt Nat _ q.1 p.1) ∧ IsThing w tl' r n) tl hret F N hs hn ord ⟨tl, fun p hp => ⟨List.mem_append_right _ hp, fun q hq => ord p hp q hq⟩, O⟩
theorem thing_tl2 (w : World) (n : Int) (tk0 : Tok) (news) (h0 : 0 ≤ n) (h1 : n < 2400) : Tl w 91 [.int n tk0] news 4 (fun led r => ∃ tl', (∀ p ∈ tl', p ∈ led ∧ ∀ q ∈ news, @LT.lt Nat _ q.1 p.1) ∧ IsThing w tl' r n) := by
  have hk4 := (div6 h0 h1).2
  unfold Tl
  intro loose mean mg mb dp un cn cs a ccd cl outer A₀ base h₀ L m s Q E B F X N T hk hdp hu hret
  refine wpAny_call ?_
  k_dflt ktr_enter
  k_steps
  case hsz9 => exact codes_size (by assumption) hk4
  · rename_i l9 vs9 n9 hi9 hlt9 _ _ N9 _ hm9 _
    refine comp_inv (fun i ys nw => nw = (l9, W.listOf vs9.toArray n9) :: news ∧ StrsAre ys (((codesOf (n.fdiv 6)).take i).map fun c => (⟨#[c.toNat]⟩ : Str))) ⟨rfl, .nil⟩ ?_ ?_
    · rintro i v ys nw I oI C oC D m₂ h tk E' hi ⟨rfl, hys⟩ hv hC hx F N off ne
      obtain ⟨c, t, rfl, hc⟩ := IntsAre.at hi9 i v (by simpa using hv)
      have hin := codesOf_in c (List.mem_of_getElem? hc)
      k_steps
      refine LCg.CompEnd.intro F N _ (fun _ z => z) off (.inr ⟨_, .head _, rfl, _, rfl⟩) ⟨rfl, ?_⟩
      rw [List.take_add_one, hc]
      simpa using strsAre_snoc hys
    · rintro ys nw ⟨rfl, hys⟩
      k_steps
      try dsimp only
      rename_i D9 h9 tk9 F9 N9 o9
      rw [List.take_of_length_le (by rw [List.size_toArray, hi9.length]; exact Nat.le_refl _)] at hys
      refine join_listW (items := ys.toArray) (News.isList N9 (.head _)) hys (by decide) (join_room (codesOf_len hk4)) fun t' k => ?_
      rw [join_signs]
      k_steps
      rename_i kF kN _ _
      exact tl_thing [] hret kF kN (fun _ z => nomatch z) (fun p z => .tail _ (.tail _ z)) (fun _ z => nomatch z) (.text hm9)
  · rename_i l9 vs9 n9 hi9 hlt9 _ F9 N9 _ _ _ hm9
    refine bytes_K F9 N9 (News.isList N9 (.head _)) hi9 (fun c hc => codesOf_in c hc) (by have := codes_size hi9 hk4; rw [List.size_toArray] at this; exact this) rfl fun h' t k F8 N8 _ => ?_
    k_steps
    rename_i kF kN _ _
    exact tl_thing [] hret kF kN (fun _ z => nomatch z) (fun p z => .tail _ z) (fun _ z => nomatch z) (.bytes hm9)
  · rename_i l9 vs9 n9 hi9 hlt9 _ _ _ _ _ _ _ _ hm9 kF kN _ _
    exact tl_thing [(l9, W.listOf vs9.toArray n9)] hret kF kN (fun _ z => by rw [List.mem_singleton.mp z]; exact .head _) (fun p z => .tail _ z) (fun p z q hq => by rw [List.mem_singleton.mp z]; exact hlt9 q hq) (.list (k := n9) hm9 (.head _) hi9)
  · rename_i l9 vs9 n9 hi9 hlt9 _ F9 N9 _ _ _ _ _ _ _ hm9
    refine kde_tupleOf F9 N9 (News.isList N9 (.head _)) (by rw [List.size_toArray, hi9.length]; have := codesOf_len hk4; omega) rfl fun D h' F8 N8 hD => ?_
    k_steps
    rename_i kF kN _ _
    exact tl_thing [(D, tupOf vs9)] hret kF kN (fun _ z => by rw [List.mem_singleton.mp z]; exact .head _) (fun p z => .tail _ (.tail _ z)) (fun p z q hq => by rw [List.mem_singleton.mp z]; exact hD q (.tail _ hq)) (.tuple hm9 (.head _) hi9)
  · rename_i l9 vs9 n9 hi9 hlt9 _ F9 N9 _ _ _ _ _ _ _ _ _ hm9 kF kN _ _
    exact tl_thing [] hret kF kN (fun _ z => nomatch z) (fun p z => .tail _ z) (fun _ z => nomatch z) (.int hm9)
  · have h5 := five (n.fdiv 6)
    rename_i l9 vs9 n9 hi9 hlt9 _ _ _ _ _ _ _ _ _ _ hn4 d9 _ o0 lo0 hs0 _ _ _ l1 _ o1 lo1 hd1 l2 l' _ _ _ l3
    have hm9 : n.fmod 6 = 5 := six (by assumption) (by assumption) (by assumption) (by assumption) (by assumption)
    have l1' := l1.2
    have l2' := l2.2.2
    rcases h5 with h5 | h5 | h5 | h5 | h5 <;> rw [h5] <;> k_steps <;> (try dsimp only) <;> rename_i kF kN _ _
    · exact tl_thing [] hret kF kN (fun _ z => nomatch z) (fun p z => .tail _ (.tail _ (.tail _ (.tail _ z)))) (fun _ z => nomatch z) (.none hm9 h5)
    · exact tl_thing [] hret kF kN (fun _ z => nomatch z) (fun p z => .tail _ (.tail _ (.tail _ (.tail _ z)))) (fun _ z => nomatch z) (.false hm9 h5)
    · exact tl_thing [] hret kF kN (fun _ z => nomatch z) (fun p z => .tail _ (.tail _ (.tail _ (.tail _ z)))) (fun _ z => nomatch z) (.true hm9 h5)
    · exact tl_thing [(d9, o0)] hret kF kN (fun _ z => by rw [List.mem_singleton.mp z]; exact .tail _ (.tail _ (.head _))) (fun p z => .tail _ (.tail _ (.tail _ (.tail _ z)))) (fun p z q hq => by rw [List.mem_singleton.mp z]; exact allLt_mem l1' q hq) (.dict0 hm9 h5 (.head _) lo0 hs0)
    · exact tl_thing [(_, o1), (l9, W.listOf vs9.toArray n9)] hret kF kN (fun _ z => by
          rcases List.mem_cons.mp z with rfl | z
          · exact .tail _ (.head _)
          · rw [List.mem_singleton.mp z]; exact .tail _ (.tail _ (.tail _ (.head _)))) (fun p z => .tail _ (.tail _ (.tail _ (.tail _ z)))) (fun p z q hq => by
          rcases List.mem_cons.mp z with rfl | z
          · exact allLt_mem l2' q hq
          · rw [List.mem_singleton.mp z]; exact hlt9 q hq) (.dict1 (k := n9) hm9 h5 (.head _) lo1 hd1 (.tail _ (.head _)) hi9)
theorem Tl.weak {w : World} {f : Addr} {vs : List Value} {news : List (Addr × Obj)} {cost : Nat} {Out Out' : List (Addr × Obj) → Value → Prop} (H : Tl w f vs news cost Out) (k : ∀ led r, Out led r → Out' led r) : Tl w f vs news cost Out' := by
  intro loose mean mg mb dp un cn cs a ccd cl outer A₀ base h₀ L m s Q E B F X N T hk hdp hu hret
  exact H loose mean mg mb dp un cn cs a ccd cl outer A₀ base h₀ L m s Q E B F X N T hk hdp hu fun r tl h' tk' F' N' lt O => hret r tl h' tk' F' N' lt (k _ _ O)
theorem thing_tl (w : World) (n : Int) (tk0 : Tok) (news) (h0 : 0 ≤ n) (h1 : n < 2400) : Tl w 91 [.int n tk0] news 4 (fun led r => IsThing w led r n) :=
  (thing_tl2 w n tk0 news h0 h1).weak fun _ _ ⟨_, h, O⟩ => O.mono fun p hp => (h p hp).1
end Mine
end
section
open PySem PySem.W PySem.Spec PySem.Calls PyProof.Rows
theorem Mine.tickReprT (M : Model) (A : Around) (E : Value → Shared → Prop) (s : Shared) (env : Env) (pos : Pos) : wpAny M A (exec (.Pass pos) env) (fun _ _ => True) E s := by
  w_top off
  first | (walk1; fail) | exact wpAny_Pass trivial
end
section
open PySem PySem.W PySem.Spec PySem.Calls PyProof.Rows
set_option maxHeartbeats 2000000
namespace Mine
def codesD (n : Int) : List PyData := (codesOf (n.fdiv 6)).map .int
def dataOf (n : Int) : PyData :=
  if n.fmod 6 = 2 then .list (codesD n) else if n.fmod 6 = 3 then .tuple (codesD n) else if n.fmod 6 = 4 then .int (n.fdiv 6) else
  if (n.fdiv 6).fmod 5 = 0 then .none else if (n.fdiv 6).fmod 5 = 1 then .bool false else if (n.fdiv 6).fmod 5 = 2 then .bool true else if (n.fdiv 6).fmod 5 = 3 then .dict [] else .dict [(.str (Str.ofString "a"), .list (codesD n))]
theorem readsAll_ints {h : Heap} {vs : List Value} {ns : List Int} (H : IntsAre vs ns) : ReadsAll h vs (ns.map .int) [] := by
  induction H with
  | nil => exact .nil
  | cons n t _ ih => exact .cons (.int n t) ih
theorem not_sysModules {h₀ h : Heap} {L : Addr} {led : List (Addr × Obj)} {l : Addr} {o : Obj} (S : h₀.NoSeer) (N : News h₀ L h led) (hm : (l, o) ∈ led) : sysModules ≠ l := by
  rintro rfl
  obtain ⟨mm, ⟨o', _, _, e, _⟩, _⟩ := S.mods
  have := N.fresh hm
  rw [e] at this
  cases this
theorem dict_one {w : World} {o : Obj} {x : Str} {v : Value} (D : IsD w o [(x, v)]) : o.cls = .type "dict" ∧ ∃ es n t, o.data = .dict es n ∧ es.toList.map (·.key) = [.str x t] ∧ es.toList.map (·.val) = [v] := by
  obtain ⟨es, ep, hx, hd, hk, hp, hn⟩ := D
  refine ⟨hx.1, es, ep, ?_⟩
  generalize es.toList = l at hp
  cases hp with
  | cons h1 h2 h3 =>
    cases h3
    obtain ⟨t, ht⟩ := Value.isStrOf_shape h1
    exact ⟨t, hd, by simp [ht], by simp [h2]⟩
theorem dict_nil {w : World} {o : Obj} (D : IsD w o []) : o.cls = .type "dict" ∧ ∃ es n, o.data = .dict es n ∧ es.toList.map (·.key) = [] ∧ es.toList.map (·.val) = [] := by
  obtain ⟨es, ep, hx, hd, hk, hp, hn⟩ := D
  refine ⟨hx.1, es, ep, hd, ?_⟩
  generalize es.toList = l at hp
  cases hp
  exact ⟨rfl, rfl⟩
theorem reads_thing {w : World} {h₀ h : Heap} {L : Addr} {led : List (Addr × Obj)} {v : Value} {n : Int} (O : IsThing w led v n) (S : h₀.NoSeer) (N : News h₀ L h led) (h2 : n.fmod 6 ≠ 0) (h3 : n.fmod 6 ≠ 1) :
    ∃ as, Reads h v (dataOf n) as ∧ sysModules ∉ as := by
  unfold dataOf
  cases O with
  | text e => exact absurd e h2
  | bytes e => exact absurd e h3
  | list e hm hi =>
    rw [if_pos e]
    exact ⟨_, .list (N.get hm) rfl rfl (readsAll_ints hi), by
      intro hc
      rcases List.mem_cons.mp hc with hc | hc
      · exact not_sysModules S N hm hc
      · cases hc⟩
  | tuple e hm hi =>
    rw [if_neg (by omega), if_pos e]
    exact ⟨_, .tuple (N.get hm) rfl rfl (readsAll_ints hi), by intro hc; cases hc⟩
  | int e => rw [if_neg (by omega), if_neg (by omega), if_pos e]; exact ⟨_, .int _ _, by intro hc; cases hc⟩
  | none e f => rw [if_neg (by omega), if_neg (by omega), if_neg (by omega), if_pos f]; exact ⟨_, .none, by intro hc; cases hc⟩
  | false e f => rw [if_neg (by omega), if_neg (by omega), if_neg (by omega), if_neg (by omega), if_pos f]; exact ⟨_, .bool _, by intro hc; cases hc⟩
  | true e f => rw [if_neg (by omega), if_neg (by omega), if_neg (by omega), if_neg (by omega), if_neg (by omega), if_pos f]; exact ⟨_, .bool _, by intro hc; cases hc⟩
  | dict0 e f hm _ hd =>
    rw [if_neg (by omega), if_neg (by omega), if_neg (by omega), if_neg (by omega), if_neg (by omega), if_neg (by omega), if_pos f]
    obtain ⟨hc, es, k, he, hk, hv⟩ := dict_nil hd
    refine ⟨_, .dict (as := []) (bs := []) (N.get hm) hc he (by rw [hk]; exact .nil) (by rw [hv]; exact .nil), ?_⟩
    intro hc
    rcases List.mem_cons.mp hc with hc | hc
    · exact not_sysModules S N hm hc
    · cases hc
  | dict1 e f hm _ hd hl hi =>
    rw [if_neg (by omega), if_neg (by omega), if_neg (by omega), if_neg (by omega), if_neg (by omega), if_neg (by omega), if_neg (by omega)]
    obtain ⟨hc, es, k, t, he, hk, hv⟩ := dict_one hd
    refine ⟨_, .dict (N.get hm) hc he (by rw [hk]; exact .cons (.str _ _) .nil) (by rw [hv]; exact .cons (.list (N.get hl) rfl rfl (readsAll_ints hi)) .nil), ?_⟩
    intro hc
    simp only [List.nil_append, List.append_nil, List.cons_append, List.mem_cons, List.not_mem_nil, or_false] at hc
    rcases hc with hc | hc
    · exact not_sysModules S N hm hc
    · exact not_sysModules S N hl hc
theorem shortAll {l : List Int} (h : ∀ c ∈ l, c = 0 ∨ c = 48 ∨ c = 97 ∨ c = 233) : PyData.leavesShortAll 16 (l.map .int) = true ∧ PyData.showableAll (l.map .int) = true ∧ PyData.weightAll (l.map .int) ≤ 9 * l.length ∧ PyData.depthAll (l.map .int) = 0 := by
  induction l with
  | nil => exact ⟨rfl, rfl, Nat.le_refl _, rfl⟩
  | cons a r ih =>
    obtain ⟨i1, i2, i3, i4⟩ := ih fun c hc => h c (.tail _ hc)
    have ha := h a (.head _)
    refine ⟨?_, ?_, ?_, ?_⟩
    · rw [List.map_cons]; simp only [PyData.leavesShortAll, i1, Bool.and_true]
      rcases ha with rfl | rfl | rfl | rfl <;> decide +kernel
    · rw [List.map_cons]; simp only [PyData.showableAll, i2, Bool.and_true]
      rcases ha with rfl | rfl | rfl | rfl <;> decide +kernel
    · rw [List.map_cons, List.length_cons]; simp only [PyData.weightAll]
      have : PyData.weight (.int a) ≤ 8 := by rcases ha with rfl | rfl | rfl | rfl <;> decide +kernel
      omega
    · rw [List.map_cons]; simp only [PyData.depthAll, PyData.depth, i4]; rfl
theorem data_ok {n : Int} (h0 : 0 ≤ n) (h1 : n < 2400) : (dataOf n).showable = true ∧ (dataOf n).depth ≤ 2 ∧ (dataOf n).shown.length ≤ 100000 := by
  have hk := div6 h0 h1
  have hl := codesOf_len hk.2
  obtain ⟨c1, c2, c3, c4⟩ := shortAll (codesOf_mem (k := n.fdiv 6))
  have key : (dataOf n).leavesShort 16 = true ∧ (dataOf n).showable = true ∧ (dataOf n).depth ≤ 2 ∧ (dataOf n).weight ≤ 3700 := by
    unfold dataOf codesD
    split
    · simp only [PyData.leavesShort, PyData.showable, PyData.depth, PyData.weight, c1, c2, c4]; exact ⟨trivial, trivial, by decide, by omega⟩
    split
    · simp only [PyData.leavesShort, PyData.showable, PyData.depth, PyData.weight, c1, c2, c4]; exact ⟨trivial, trivial, by decide, by omega⟩
    split
    · have e : (PyData.shown (.int (n.fdiv 6))).length ≤ 16 := by
        show (Str.ofString (toString (n.fdiv 6))).length ≤ 16
        rw [PySem.ofString_length]
        have := int_text_length_le10 (a := n.fdiv 6) (k := 3) (by decide) (by omega)
        omega
      have e2 : (n.fdiv 6).natAbs.log2 < 10 := by
        by_cases hz : (n.fdiv 6).natAbs = 0
        · rw [hz]; decide
        · rw [Nat.log2_lt hz]; omega
      refine ⟨by simp only [PyData.leavesShort, decide_eq_true_eq]; exact e, by simp only [PyData.showable, decide_eq_true_eq]; omega, by simp only [PyData.depth]; omega, ?_⟩
      simp only [PyData.weight]
      split <;> omega
    split
    · exact ⟨rfl, rfl, by decide, by decide⟩
    split
    · exact ⟨rfl, rfl, by decide, by decide⟩
    split
    · exact ⟨rfl, rfl, by decide, by decide⟩
    split
    · exact ⟨rfl, rfl, by decide, by decide⟩
    · simp only [PyData.leavesShort, PyData.leavesShortKv, PyData.showable, PyData.showableKv, PyData.depth, PyData.depthKv, PyData.weight, PyData.weightKv, c1, c2, c4]
      have e : (Str.ofString "a").cps.size = 1 := by decide
      refine ⟨?_, rfl, by decide, ?_⟩
      · decide +kernel
      · rw [e]; omega
  obtain ⟨k1, k2, k3, k4⟩ := key
  refine ⟨k2, k3, ?_⟩
  have := PyData.shown_le 16 (by decide) (dataOf n) k1
  omega
section
variable {w : World} {A : Around} {E : Value → Shared → Prop} {s : Shared} {Q : Value → Shared → Prop} {h₀ : Heap} {L : Addr} {led : List (Addr × Obj)} {v : Value} {n : Int}
theorem repr_thing (O : IsThing w led v n) (S : h₀.NoSeer) (N : News h₀ L s.heap led) (h0 : 0 ≤ n) (h1 : n < 2400) (h2 : n.fmod 6 ≠ 0) (h3 : n.fmod 6 ≠ 1) (hg : A.guards = some []) (hu : A.units + 4 < cLine)
    (hQ : ∀ h' u tk, (∀ b o, s.heap.get? b = some o → h'.get? b = some o) → Q (.str (dataOf n).shown u) { s with heap := h', toks := tk }) :
    wpAny (model PySem.Challenge.rw_kl0055_01.row.prog w) A (call (.builtin "repr") [v]) Q E s := by
  obtain ⟨k1, k2, k3⟩ := data_ok h0 h1
  obtain ⟨as, R, hsm⟩ := reads_thing O S N h2 h3
  have hz : (dataOf n).shown.length ≤ sizeLine := by rw [sizeLine_eq]; omega
  generalize hd : dataOf n = d at *
  cases O with
  | text e => exact absurd e h2
  | bytes e => exact absurd e h3
  | list e hm hi => exact repr_of_reads' R k1 (fun _ => hsm) hg (by omega) (fun _ _ e => e) hQ hz
  | tuple e hm hi => exact repr_of_reads' R k1 (fun _ => hsm) hg (by omega) (fun _ _ e => e) hQ hz
  | dict0 e f hm _ hd => exact repr_of_reads' R k1 (fun _ => hsm) hg (by omega) (fun _ _ e => e) hQ hz
  | dict1 e f hm _ hd hl hi => exact repr_of_reads' R k1 (fun _ => hsm) hg (by omega) (fun _ _ e => e) hQ hz
  | int e =>
    cases R
    refine P.repr_of_int ?_ (hQ _ _ _ fun _ _ e => e)
    simpa [PyData.showable] using k1
  | none e f =>
    cases R
    exact P.repr_of_none (hQ _ _ _ fun _ _ e => e)
  | false e f =>
    cases R
    exact P.repr_of_bool (hQ _ _ _ fun _ _ e => e)
  | true e f =>
    cases R
    exact P.repr_of_bool (hQ _ _ _ fun _ _ e => e)
end
end Mine
end
section
open PySem PySem.W PySem.Spec PySem.Calls PyProof.Rows
theorem Mine.tickTold (M : Model) (A : Around) (E : Value → Shared → Prop) (s : Shared) (env : Env) (pos : Pos) : wpAny M A (exec (.Pass pos) env) (fun _ _ => True) E s := by
  w_top off
  first | (walk1; fail) | exact wpAny_Pass trivial
end
section
open PySem PySem.W PySem.Spec PySem.Calls PyProof.Rows
set_option maxHeartbeats 8000000
namespace Mine
@[irreducible] def toldOf (n : Int) : Str :=
  if n.fmod 6 < 2 then (if (codesOf (n.fdiv 6)).take 1 = [0] then Str.ofString "yes" else Str.ofString "no")
  else if n < 6 ∨ (n.fmod 6 = 5 ∧ ((n.fdiv 6).fmod 5 = 0 ∨ (n.fdiv 6).fmod 5 = 1 ∨ (n.fdiv 6).fmod 5 = 3)) then Str.ofString "no"
  else (Str.ofString "address type of " ++ (dataOf n).shown) ++ Str.ofString " unrecognized"
local macro_rules | `(tactic| walk_at "call ref") => `(tactic| (k_here; (with_reducible show wpAny _ _ (call (Value.ref 86) [Value.int _ _]) _ _ _); (refine' tl_use (codes_tl _ _ _ _ ?c0 ?c1) ?k1 ?k2 ?k3 ?k4 ?k5 ?kK ?kd ?ku ?_; (case k1 => k_asm); (case k2 => k_asm); (case k3 => k_asm); (case k4 => k_asm); (case k5 => k_asm); (case kK => first | exact rfl | assumption); (case kd => ktr_room); (case ku => ktr_units); (case c0 => exact (div6 (by assumption) (by assumption)).1); (case c1 => exact (div6 (by assumption) (by assumption)).2)); intro r9 tl9 h9 tk9 F9 N9 hl9 ho9; obtain ⟨l9, vs9, n9, e9, hm9, hi9, hlt9⟩ := ho9; subst e9; (have N9 := news_first N9 hm9); clear hm9 hl9; (try dsimp only); (try k_fold)))
local macro_rules | `(tactic| walk_at "call ref") => `(tactic| (k_here; (with_reducible show wpAny _ _ (call (Value.ref 91) [Value.int _ _]) _ _ _); (refine' tl_use (thing_tl _ _ _ _ ?c0 ?c1) ?k1 ?k2 ?k3 ?k4 ?k5 ?kK ?kd ?ku ?_; (case k1 => k_asm); (case k2 => k_asm); (case k3 => k_asm); (case k4 => k_asm); (case k5 => k_asm); (case kK => first | exact rfl | assumption); (case kd => ktr_room); (case ku => ktr_units); (case c0 => assumption); (case c1 => assumption)); intro r9 tl9 h9 tk9 F9 N9 hl9 ho9; (try dsimp only); (try k_fold)))
theorem told_yes {n : Int} (h : n.fmod 6 < 2) (h2 : (codesOf (n.fdiv 6)).take 1 = [0]) : toldOf n = Str.ofString "yes" := by
  unfold toldOf; rw [if_pos h, if_pos h2]
theorem told_no {n : Int} (h : n.fmod 6 < 2) (h2 : ¬ (codesOf (n.fdiv 6)).take 1 = [0]) : toldOf n = Str.ofString "no" := by
  unfold toldOf; rw [if_pos h, if_neg h2]
theorem told_small {n : Int} (h : ¬ n.fmod 6 < 2) (h2 : n < 6) : toldOf n = Str.ofString "no" := by
  unfold toldOf; rw [if_neg h, if_pos (.inl h2)]
theorem any3 {k : Int} : ([0, 1, 3].any fun x => x == k) = true ↔ k = 0 ∨ k = 1 ∨ k = 3 := by
  simp only [List.any_cons, List.any_nil, Bool.or_false, Bool.or_eq_true, beq_iff_eq]
  omega
theorem told_empty {n : Int} (h : ¬ n.fmod 6 < 2) (h2 : n.fmod 6 = 5) (h3 : ([0, 1, 3].any fun x => x == (n.fdiv 6).fmod 5) = true) : toldOf n = Str.ofString "no" := by
  unfold toldOf; rw [if_neg h, if_pos (.inr ⟨h2, any3.mp h3⟩)]
theorem told_ref5 {n : Int} (h : ¬ n.fmod 6 < 2) (h1 : ¬ n < 6) (h3 : ([0, 1, 3].any fun x => x == (n.fdiv 6).fmod 5) = false) : toldOf n = (Str.ofString "address type of " ++ (dataOf n).shown) ++ Str.ofString " unrecognized" := by
  unfold toldOf
  rw [if_neg h, if_neg ?_]
  rintro (q | ⟨_, q⟩)
  · exact h1 q
  · rw [any3.mpr q] at h3; cases h3
theorem told_refN {n : Int} (h : ¬ n.fmod 6 < 2) (h1 : ¬ n < 6) (h2 : n.fmod 6 ≠ 5) : toldOf n = (Str.ofString "address type of " ++ (dataOf n).shown) ++ Str.ofString " unrecognized" := by
  unfold toldOf
  rw [if_neg h, if_neg ?_]
  rintro (q | ⟨q, _⟩)
  · exact h1 q
  · exact h2 q
theorem noImports : importsNone noProg = true := by decide +kernel
theorem told_tl (w : World) (n : Int) (tk0 : Tok) (news) (h0 : 0 ≤ n) (h1 : n < 2400) : Tl w 98 [.int n tk0] news 20 (fun led r => ∃ t, r = .str (toldOf n) t) := by
  have hk4 := (div6 h0 h1).2
  have hsz := codesOf_len hk4
  have hshow := (data_ok h0 h1).2.2
  unfold Tl
  intro loose mean mg mb dp un cn cs a ccd cl outer A₀ base h₀ L m s Q E B F X N T hk hdp hu hret
  refine wpAny_call ?_
  k_dflt ktr_enter
  k_steps
  all_goals (try dsimp only)
  · rename_i ha kF kN _ _
    exact tl_end (Out := fun led r => ∃ t, r = .str (toldOf n) t) [] hret kF kN (fun _ z => nomatch z) (fun p z => .tail _ (.tail _ (.tail _ z))) (fun _ z => nomatch z) ⟨_, by rw [told_yes (by assumption) ha]⟩
  · rename_i ha kF kN _ _
    exact tl_end (Out := fun led r => ∃ t, r = .str (toldOf n) t) [] hret kF kN (fun _ z => nomatch z) (fun p z => .tail _ (.tail _ (.tail _ z))) (fun _ z => nomatch z) ⟨_, by rw [told_no (by assumption) ha]⟩
  · rename_i ha kF kN _ _
    exact tl_end (Out := fun led r => ∃ t, r = .str (toldOf n) t) [] hret kF kN (fun _ z => nomatch z) (fun p z => z) (fun _ z => nomatch z) ⟨_, by rw [told_small (by assumption) ha]⟩
  · rename_i ha kF kN _ _
    exact tl_end (Out := fun led r => ∃ t, r = .str (toldOf n) t) [] hret kF kN (fun _ z => nomatch z) (fun p z => .tail _ z) (fun _ z => nomatch z) ⟨_, by rw [told_empty (by assumption) (by assumption) ha]⟩
  · rename_i _ ha r9 tl9 h9 tk9 F9 N9 hl9 ho9
    refine repr_thing ho9 (Top.seer (p := noProg) (loose := loose) (mean := mean) (mg := mg) (mb := mb) (by assumption) noImports) N9 h0 h1 (by omega) (by omega) rfl (by show un + 3 + 4 < cLine; omega) fun h8 u tk hk => ?_
    have F8 := F9.keeps hk
    have N8 : News _ _ _ _ := fun p hp => ⟨hk _ _ (N9 p hp).1, (N9 p hp).2⟩
    clear F9 N9
    dsimp only
    try k_fold
    k_steps
    rename_i kF kN _ _
    exact tl_end (Out := fun led r => ∃ t, r = .str (toldOf n) t) [] hret kF kN (fun _ z => nomatch z) (fun p z => .tail _ (List.mem_append_left _ z)) (fun _ z => nomatch z) ⟨_, by rw [told_ref5 (by assumption) (by assumption) (by assumption)]⟩
  · rename_i hb ha r9 tl9 h9 tk9 F9 N9 hl9 ho9
    refine repr_thing ho9 (Top.seer (p := noProg) (loose := loose) (mean := mean) (mg := mg) (mb := mb) (by assumption) noImports) N9 h0 h1 (by omega) (by omega) rfl (by show un + 3 + 4 < cLine; omega) fun h8 u tk hk => ?_
    have F8 := F9.keeps hk
    have N8 : News _ _ _ _ := fun p hp => ⟨hk _ _ (N9 p hp).1, (N9 p hp).2⟩
    clear F9 N9
    dsimp only
    try k_fold
    k_steps
    rename_i kF kN _ _
    exact tl_end (Out := fun led r => ∃ t, r = .str (toldOf n) t) [] hret kF kN (fun _ z => nomatch z) (fun p z => List.mem_append_left _ z) (fun _ z => nomatch z) ⟨_, by rw [told_refN (by assumption) (by assumption) (by assumption)]⟩
end Mine
end
section
open PySem PySem.W PySem.Spec PySem.Calls PyProof.Rows
theorem Mine.tickDraws (M : Model) (A : Around) (E : Value → Shared → Prop) (s : Shared) (env : Env) (pos : Pos) : wpAny M A (exec (.Pass pos) env) (fun _ _ => True) E s := by
  w_top off
  first | (walk1; fail) | exact wpAny_Pass trivial
end
section
open PySem PySem.W PySem.Spec PySem.Calls PyProof.Rows
set_option maxHeartbeats 8000000
namespace Mine
theorem fun_self {m : Str → Option Value} {x : Str} {v : Value} (h : m x = some v) : m = fun y => if y = x then some v else m y := by
  funext y
  by_cases e : y = x
  · subst e; rw [if_pos rfl, h]
  · rw [if_neg e]
theorem pair_use {α : Type} {prog : Program} {w : World} {A : Around} {E : Value → Shared → Prop} {h₀ : Heap} {env : Env} {K : ItemKind α} {as : List α} {xv : Value} {s : Shared} {m : Str → Option Value} {news : List (Addr × Obj)}
    (S : PairSrc prog w A E h₀ env K as xv s m news) {xi xc : Str} {body : List Stmt} {Q : Flow → Shared → Prop} (J : Nat → (Str → Option Value) → List (Addr × Obj) → Prop) (h0 : J 0 m news)
    (step : ∀ (i : Nat) a t v m₁ news₁ s₁ own, (∃ h tk, s₁ = { s with heap := h, toks := tk }) → as[i]? = some a → K.is a v → J i m₁ news₁ → news₁.map (·.1) = news.map (·.1) → (∀ p ∈ own, ∀ q ∈ news, p.1 ≠ q.1) →
      Fr h₀ env.locals s₁.heap (fun y => if y = xc then some v else if y = xi then some (.int i t) else m₁ y) → News h₀ env.locals s₁.heap (own ++ news₁) →
      wpAny (model prog w) A (execs body env) (LoopStep3 h₀ env.locals own news₁ (J (i + 1)) s₁ (fun v s' => Q (.ret v) s') fun s' => Q .next s') E s₁)
    (done : ∀ h' tk m' news', Fr h₀ env.locals h' m' → News h₀ env.locals h' news' → news'.map (·.1) = news.map (·.1) → J as.length m' news' → Q .next { s with heap := h', toks := tk }) :
    wpAny (model prog w) A (pyIter xv) (fun it s₂ => PairAt3 prog w A h₀ env xi xc body Q E it s₂) E s := S xi xc body Q J h0 step done
def DrawsOk (i : Nat) (ds : List Int) : Prop := ds.length = min i 10 ∧ ∀ d ∈ ds, 0 ≤ d ∧ d < 2400
theorem news_swap {h₀ h : Heap} {L : Addr} {own news : List (Addr × Obj)} {p : Addr × Obj} (N : News h₀ L h (p :: (own ++ news))) : News h₀ L h (own ++ p :: news) := fun q hq => N q (by
  rcases List.mem_append.mp hq with hq | hq
  · exact .tail _ (List.mem_append_left _ hq)
  · rcases List.mem_cons.mp hq with rfl | hq
    · exact .head _
    · exact .tail _ (List.mem_append_right _ hq))
theorem fm10 (i : Nat) : ((i : Int).fmod 10).toNat = i % 10 := by
  rw [Int.fmod_eq_emod_of_nonneg _ (by decide)]; omega
theorem fm2400 (k : Int) : 0 ≤ k.fmod 2400 ∧ k.fmod 2400 < 2400 := by
  rw [Int.fmod_eq_emod_of_nonneg _ (by decide)]; omega
theorem draw_at {i : Nat} {ds : List Int} (h : DrawsOk i ds) (h10 : 10 ≤ i) : 0 ≤ ds.getD ((i : Int).fmod 10).toNat 0 ∧ ds.getD ((i : Int).fmod 10).toNat 0 < 2400 := by
  obtain ⟨h1, h2⟩ := h
  rw [fm10]
  have hl : i % 10 < ds.length := by omega
  rw [List.getD_eq_getElem?_getD, List.getElem?_eq_getElem hl]
  exact h2 _ (List.getElem_mem hl)
theorem draws_more {i : Nat} {ds : List Int} {k : Int} (h : DrawsOk i ds) (h10 : (i : Int) < 10) : DrawsOk (i + 1) (ds ++ [k.fmod 2400]) := by
  obtain ⟨h1, h2⟩ := h
  refine ⟨by rw [List.length_append, List.length_singleton]; omega, fun d hd => ?_⟩
  rcases List.mem_append.mp hd with hd | hd
  · exact h2 d hd
  · rw [List.mem_singleton.mp hd]; exact fm2400 k
theorem draws_set {i j : Nat} {ds : List Int} {k : Int} (h : DrawsOk i ds) (h10 : ¬ (i : Int) < 10) : DrawsOk (i + 1) (ds.set j (k.fmod 2400)) := by
  obtain ⟨h1, h2⟩ := h
  refine ⟨by rw [List.length_set]; omega, fun d hd => ?_⟩
  rcases List.mem_or_eq_of_mem_set hd with hd | rfl
  · exact h2 d hd
  · exact fm2400 k
local macro_rules | `(tactic| k_all) => `(tactic| assumption)
theorem draws_tl (w : World) (l : Addr) (vs : List Value) (ns : List Int) (news) (hi : IntsAre vs ns) (hn : ns.length ≤ 63) :
  ∀ (loose : List Str) (mean : ExcName → Option Value) (mg mb : Str → Option Value) (dp un : Nat) (cn : Str) (cs : Scope) (a : Addr) (ccd : Value) (cl : List (Str × Addr)) (outer : List Env) (A₀ : Around) (base h₀ : Heap) (L : Addr) (m : Str → Option Value) (s : Shared)
    (Q E : Value → Shared → Prop),
    h₀.IsList l vs.toArray → Below A₀ base outer h₀ → Fr h₀ L s.heap m → (hd.heap_39 w.params).In h₀ → News h₀ L s.heap news → Top noProg loose mean mg mb h₀ → cs.kind = .function → dp + 4 < recursionLimit → un + 32 < cLine →
    (∀ r tl h' tk', Fr h₀ L h' m → News h₀ L h' (news ++ tl) → (∀ q ∈ news, ∀ p ∈ tl, q.1 < p.1) → (∃ (l : Addr) (us : List Value) (ds : List Int) (c : Nat), r = .ref l ∧ (l, W.listOf (List.toArray us) c) ∈ news ++ tl ∧ IntsAre us ds ∧ DrawsOk ns.length ds ∧ ∀ q ∈ news, q.1 < l) → Q r { s with heap := h', toks := tk' }) →
    wpAny (model PySem.Challenge.rw_kl0055_01.row.prog w) (ktrTop dp un (some []) cn cs L a ccd cl outer) (call (.ref 79) [.ref l]) Q E s := by
  intro loose mean mg mb dp un cn cs a ccd cl outer A₀ base h₀ L m s Q E hl B F X N T hk hdp hu hret
  refine wpAny_call ?_
  k_dflt ktr_enter
  k_steps
  rename_i g' L' _ FG' B' X' T' _ l' _ l1 _ F' N'
  refine call_enum_list (K := ItemKind.int) rfl (hl.at fun o e => FG'.keep l o e) hi.areOf F' N' fun h e F2 N2 S => ?_
  dsimp only
  refine pair_use (S.at _ rfl) (fun i m₁ nw => ∃ (u : Str → Option Value) (us : List Value) (ds : List Int) (c : Nat), m₁ = (fun y => if y = Str.ofString "draws" then some (.ref l') else u y) ∧ nw = (l', W.listOf (List.toArray us) c) :: news ∧ IntsAre us ds ∧ DrawsOk i ds) ⟨_, [], [], 0, rfl, rfl, .nil, rfl, fun _ z => nomatch z⟩ ?_ ?_
  · rintro i k t v m₁ nw s₁ own ⟨h3, tk3, rfl⟩ hk hv ⟨u, us, ds, c, rfl, rfl, hus, hds⟩ hm ho F3 N3
    obtain ⟨t2, rfl⟩ := hv
    have N4 : News g' L' h3 ((l', W.listOf (List.toArray us) c) :: (own ++ news)) := fun p hp => N3 p (by
      rcases List.mem_cons.mp hp with rfl | hp
      · exact List.mem_append_right _ (.head _)
      · rcases List.mem_append.mp hp with hp | hp
        · exact List.mem_append_left _ hp
        · exact List.mem_append_right _ (.tail _ hp))
    have hne : ∀ p ∈ own ++ news, p.1 ≠ l' := fun p hp => by
      rcases List.mem_append.mp hp with hp | hp
      · exact ho p hp _ (.head _)
      · exact Nat.ne_of_lt (l1 p hp)
    have hil : i < 63 := by have := (List.getElem?_eq_some_iff.mp hk).1; omega
    have hul := hus.length
    obtain ⟨hd1, hd2⟩ := hds
    have hx : 10 ≤ i → 0 ≤ ds.getD ((i : Int).fmod 10).toNat 0 ∧ ds.getD ((i : Int).fmod 10).toNat 0 < 2400 := draw_at ⟨hd1, hd2⟩
    clear N3 F' N' F2 N2 S
    dsimp only at F3 ⊢
    try k_fold
    k_steps
    · rename_i h10 _ _ F9 N9
      have N8 := news_swap N9
      rw [List.push_toArray] at N8
      show LoopStep2 _ _ _ _ _ _ _ _
      exact LoopStep2.intro F9 N8 rfl ⟨_, _, _, _, fun_self (x := Str.ofString "draws") (v := .ref l') rfl, rfl, intsAre_snoc hus _ _, draws_more ⟨hd1, hd2⟩ h10⟩
    · rename_i h10 _ _ F9 N9 hi9 hl9 _
      show LoopStep2 _ _ _ _ _ _ _ _
      exact LoopStep2.intro F9 (news_swap N9) rfl ⟨_, _, _, _, fun_self (x := Str.ofString "draws") (v := .ref l') rfl, rfl, hi9, draws_set ⟨hd1, hd2⟩ h10⟩
  · rintro h3 tk3 m₁ nw F3 N3 hm ⟨u, us, ds, c, rfl, rfl, hus, hds⟩
    dsimp only at F3 N3 ⊢
    clear F' N' F2 N2 S
    k_steps
    rename_i kF kN _ _
    refine hret _ [(l', W.listOf (List.toArray us) c)] _ _ kF ?_ ?_ ⟨l', us, ds, c, rfl, List.mem_append_right _ (.head _), hus, hds, l1⟩
    · intro p hp
      refine kN p ?_
      rcases List.mem_append.mp hp with hp | hp
      · exact .tail _ hp
      · rw [List.mem_singleton.mp hp]; exact .head _
    · intro q hq p hp
      rw [List.mem_singleton.mp hp]
      exact l1 q hq
end Mine
end
section
open PySem PySem.W PySem.Spec PySem.Calls PyProof.Rows
theorem Mine.tickFlown (M : Model) (A : Around) (E : Value → Shared → Prop) (s : Shared) (env : Env) (pos : Pos) : wpAny M A (exec (.Pass pos) env) (fun _ _ => True) E s := by
  w_top off
  first | (walk1; fail) | exact wpAny_Pass trivial
end
section
open PySem PySem.W PySem.Spec PySem.Calls PyProof.Rows
set_option maxHeartbeats 8000000
namespace Mine
abbrev fsOf (l : List Env) : List Addr := l.filterMap (·.frame)
abbrev aroundOf (dp un : Nat) (l : List Env) : Around := { handled := none, depth := dp, frames := some l, guards := some [], units := un }
structure Flown (l : List Env) (e t : Addr) (vs : List Value) (h h' : Heap) : Prop where
  fly : Heap.FlyingW (hideAll h (fsOf l)) l e (.type "TypeError") (.ref t) h'
  tup : h'.TupAt t vs
  new : (hideAll h (fsOf l)).get? t = none
  up : h.UpToSlots h'
theorem hideAll_sub {h h₁ : Heap} {as bs : List Addr} (k : ∀ b o, h.get? b = some o → b ∉ as → h₁.get? b = some o ∧ b ∉ bs) : (hideAll h as).StaysIn (hideAll h₁ bs) := fun b o e => by
  have e' := of_hideAll as e
  have nm : b ∉ as := fun q => by rw [hideAll_none as q] at e; cases e
  exact hideAll_get bs (k b o e' nm).1 (k b o e' nm).2
theorem fsOf_cons {env : Env} {l : List Env} {L : Addr} (hf : env.frame = some L) : fsOf (env :: l) = L :: fsOf l := by
  show List.filterMap _ _ = _
  rw [List.filterMap_cons, hf]
theorem Flown.pass {M : Model} {A : Around} {E : Value → Shared → Prop} {Q : Unit → Shared → Prop} {l : List Env} {env : Env} {e t L : Addr} {vs : List Value} {h h₁ : Heap} {s : Shared}
    (x : Flown (env :: l) e t vs h₁ s.heap) (hA : A.frames = some (env :: l)) (hf : env.frame = some L) (hk : h.StaysIn h₁) (hL : h.get? L = none)
    (hQ : ∀ h', Flown l e t vs h h' → Q () { s with heap := h' }) : wpAny M A (leaving env (.ref e)) Q E s := by
  have st : (hideAll h (fsOf l)).StaysIn (hideAll h₁ (fsOf (env :: l))) := hideAll_sub fun b o q nm => ⟨hk b o q, fun z => by
    rw [fsOf_cons hf] at z
    rcases List.mem_cons.mp z with rfl | z'
    · rw [hL] at q; cases q
    · exact nm z'⟩
  have fb := x.fly
  refine wpAny_leaves_onW hA hf fb fun h' f1 f2 => ?_
  exact hQ h' ⟨flyingW_base st f1, x.tup.of_slots f2, fresh_of_stays st x.new, ((Heap.UpToSlots.of_keeps hk).trans x.up).trans f2⟩
theorem Flown.raised {M : Model} {A : Around} {E : Value → Shared → Prop} {Q : Unit → Shared → Prop} {l : List Env} {env : Env} {e L : Addr} {vs : List Value} {h h₁ g₀ : Heap} {m : Str → Option Value} {s : Shared}
    (hx : Heap.MadeExcOf h₁ s.heap e (.type "TypeError") vs) (hA : A.frames = some (env :: l)) (hf : env.frame = some L) (hm : env.scope.kind ≠ .module) (hn : h₁.Ns L m) (FF : h.FunFrames g₀ l) (hk : h.StaysIn h₁) (hL : h.get? L = none)
    (hQ : ∀ h' t, Flown l e t vs h h' → Q () { s with heap := h' }) : wpAny M A (leaving env (.ref e)) Q E s := by
  have st : (hideAll h (fsOf l)).StaysIn h₁ := fun b o q => hk b o (of_hideAll _ q)
  have hin : ∀ env ∈ l, ∀ a, env.frame = some a → a ∈ fsOf l := fun env he a ha => List.mem_filterMap.mpr ⟨env, he, ha⟩
  have FF' : h₁.FunFrames (hideAll h (fsOf l)) (env :: l) := by
    refine Heap.FunFrames.cons hm hf hn ?_ ?_
    · cases q : (hideAll h (fsOf l)).get? L with
      | none => rfl
      | some o => rw [of_hideAll _ q] at hL; cases hL
    · have F2 : h.FunFrames (hideAll h (fsOf l)) l := funFrames_hide FF hin
      exact F2.of_keeps fun b o q _ => ⟨o, hk b o q, rfl⟩
  refine wpAny_leaves_madeW hA hf st FF' hx fun h' t f1 f2 f3 f4 => hQ h' t ⟨f1, f2, f3, ((Heap.UpToSlots.of_keeps hk).trans (Heap.UpToSlots.of_keeps hx.keeps)).trans f4⟩

theorem code_enter {prog : Program} {w : World} {A : Around} {s : Shared} {g₀ : Heap} {l : List Env} {led : List (Addr × Obj)} {K : Frag} {p : Program} {loose : List Str} {mean : ExcName → Option Value} {mg mb : Str → Option Value}
    {R : Result → Shared → Prop} {name qual : Str} {params : Arguments} {body : List Stmt} {scope : Scope} {dV kV doc pm cdv ct oc : Value} {an od : Option Addr} {osl : Array (Option Value)} {f : Addr} {args : Args} {binds : List (Str × Value)}
    (hA : A.frames = some l) (FF : s.heap.FunFrames g₀ l) (st : g₀.StaysIn s.heap) (X₀ : K.In g₀) (T : Top p loose mean mg mb g₀) (hl : ∀ q ∈ led, s.heap.get? q.1 = some q.2 ∧ q.1 ∉ fsOf l ∧ g₀.get? q.1 = none)
    (ho : K.lookup f = some ⟨oc, od, .func (fnOf name qual params body scope dV kV doc pm an cdv ct), osl⟩) (hcd : codeIn K cdv qual = true) (hroom : A.depth < recursionLimit)
    (hbind : BindsTo s (fnOf name qual params body scope dV kV doc pm an cdv ct) args binds) (hloc : ∀ y ∈ binds, scope.names.lookup y.1 = some .local)
    (h : ∀ g L' h₁, Fr g L' h₁ (fun y => binds.reverse.lookup y) → News g L' h₁ led → Below A (hideAll g (fsOf l)) l g → K.In g → Top p loose mean mg mb g → s.heap.StaysIn h₁ →
      (∀ h₂, g.StaysIn h₂ → News g L' h₂ led → s.heap.StaysIn h₂) → s.heap.get? L' = none → (∀ b o, s.heap.get? b = some o → (b, o) ∈ led ∨ g.get? b = some o) →
      wpAny (model prog w) (A.deeper (envOf qual scope L' f cdv)) (execs body (envOf qual scope L' f cdv))
        (fun fl s' => R (.ok (.ret (match fl with | .ret v => v | _ => .none))) s')
        (fun e s' => wpAny (model prog w) (A.deeper (envOf qual scope L' f cdv)) (leaving (envOf qual scope L' f cdv) e) (fun _ s'' => R (.error e) s'') (fun e' s'' => R (.error e') s'') s')
        { s with heap := h₁, toks := s.toks + binds.length })
    (hco : scope.isCoroutine = false) (hgen : scope.isGenerator = false) (hk : scope.kind = .function)
    (hcell : ∀ x ∈ scope.names, x.2 ≠ .cell) : codeAny (model prog w) A (.call (.ref f) args) R s := by
  refine codeAny_call_def (fd := fnOf name qual params body scope dV kV doc pm an cdv ct) (body := body) (binds := binds) hroom ((X₀.keeps st) _ _ ho) rfl (T.nolimit.keeps st) (codeRec_of (X₀.keeps st) hcd) rfl hbind hcell hloc (fun h₁ hns hk₁ => ?_) hco hgen hk
  have nm : ∀ b o, g₀.get? b = some o → b ∉ led.map (·.1) := fun b o e q => by
    obtain ⟨p, hp, rfl⟩ := List.mem_map.mp q
    rw [(hl p hp).2.2] at e; cases e
  have st' : g₀.StaysIn (hideAll s.heap (led.map (·.1))) := fun b o e => hideAll_get _ (st b o e) (nm b o e)
  have hin : ∀ env ∈ l, ∀ a, env.frame = some a → a ∈ fsOf l := fun env he a ha => List.mem_filterMap.mpr ⟨env, he, ha⟩
  have FG : (hideAll s.heap (led.map (·.1))).FunFrames g₀ l := funFrames_hideAll FF fun env he a ha hf => by
    obtain ⟨p, hp, rfl⟩ := List.mem_map.mp ha
    exact (hl p hp).2.1 (hin env he _ hf)
  refine h (hideAll s.heap (led.map (·.1))) s.heap.objs.size h₁ ⟨hns, fun b o e => hk₁ b o (of_hideAll _ e), Nat.le_of_eq (hideAll_size _ _)⟩
    (fun p hp => ⟨hk₁ _ _ (hl p hp).1, Nat.ne_of_lt (Heap.lt_size (hl p hp).1), hideAll_none _ (List.mem_map_of_mem hp)⟩)
    ⟨hA, fun b o e => of_hideAll _ e, funFrames_hide FG hin⟩ (by exact X₀.keeps st') (by exact T.keeps st') (fun b o e => hk₁ b o e) (fun h₂ F N b o e => ?_) (Heap.get?_none_of_le (Nat.le_refl _)) (fun b o e => ?_)
  · by_cases q : b ∈ led.map (·.1)
    · obtain ⟨p, hp, rfl⟩ := List.mem_map.mp q
      rw [(hl p hp).1] at e
      cases e
      exact (N p hp).1
    · exact F b o (hideAll_get _ e q)
  · by_cases q : b ∈ led.map (·.1)
    · obtain ⟨p, hp, rfl⟩ := List.mem_map.mp q
      rw [(hl p hp).1] at e
      cases e
      exact .inl hp
    · exact .inr (hideAll_get _ e q)
structure KeptF (l : List Env) (h h' : Heap) : Prop where
  keep : ∀ b o, h.get? b = some o → b ∉ fsOf l → h'.get? b = some o
  frame : ∀ b o, h.get? b = some o → b ∈ fsOf l → ∃ sl, h'.get? b = some { o with slots := sl }
theorem KeptF.of_stays {l : List Env} {h h' : Heap} (k : h.StaysIn h') : KeptF l h h' := ⟨fun b o e _ => k b o e, fun b o e _ => ⟨o.slots, k b o e⟩⟩
theorem KeptF.of_turn {l : List Env} {h g g' h' : Heap} {L : Addr} {led : List (Addr × Obj)} (hs : ∀ b o, h.get? b = some o → (b, o) ∈ led ∨ g.get? b = some o) (T : KtsTurn (fsOf l) g g') (k : g'.StaysIn h') (N : News g' L h' led) : KeptF l h h' := by
  refine ⟨fun b o e nm => ?_, fun b o e m => ?_⟩
  · rcases hs b o e with z | z
    · exact (N _ z).1
    · exact k b o (T.other b o z nm)
  · rcases hs b o e with z | z
    · exact ⟨o.slots, (N _ z).1⟩
    · obtain ⟨sl, hsl⟩ := T.frame b o z m
      exact ⟨sl, k _ _ hsl⟩
theorem flown_S {A₀ : Around} {g h₁ h' : Heap} {l : List Env} {L a e t : Addr} {m : Str → Option Value} {name : Str} {scope : Scope} {cd : Value} {vs : List Value} {news : List (Addr × Obj)}
    (x : Flown (envOf name scope L a cd :: l) e t vs h₁ h') (F : Fr g L h₁ m) (N : News g L h₁ news) (K : Below A₀ (hideAll g (fsOf l)) l g) :
    RaisedS (hideAll g (fsOf l)) (hideAll h₁ (news.map (·.1))) (envOf name scope L a cd :: l) e (.type "TypeError") t vs news h' ∧ Fr g L (hideAll h₁ (news.map (·.1))) m ∧ (hideAll h₁ (news.map (·.1))).UpToSlots h' := by
  have hfs : fsOf (envOf name scope L a cd :: l) = L :: fsOf l := fsOf_cons rfl
  have nL := kts_self F
  have nm : ∀ b o, g.get? b = some o → b ∉ news.map (·.1) := fun b o e q => by
    obtain ⟨p, hp, rfl⟩ := List.mem_map.mp q
    rw [(N p hp).2.2] at e; cases e
  have nb : ∀ b, g.get? b = none → (hideAll g (fsOf l)).get? b = none := fun b e => by
    cases q : (hideAll g (fsOf l)).get? b with
    | none => rfl
    | some o => rw [of_hideAll _ q] at e; cases e
  refine ⟨⟨⟨hideAll h₁ (fsOf (envOf name scope L a cd :: l)), ?_, ?_, ?_, x.fly, x.new⟩, x.tup⟩, ?_, ?_⟩
  · refine hideAll_sub fun b o q nmm => ⟨F.keep b o q, fun z => ?_⟩
    rw [hfs] at z
    rcases List.mem_cons.mp z with rfl | z
    · rw [nL] at q; cases q
    · exact nmm z
  · exact fun b o q nmm => hideAll_get _ (of_hideAll _ q) nmm
  · intro q hq
    refine ⟨hideAll_get _ (N q hq).1 fun z => ?_, hideAll_none _ (List.mem_map_of_mem hq), nb _ (N q hq).2.2⟩
    rw [hfs] at z
    rcases List.mem_cons.mp z with z | z
    · exact (N q hq).2.1 z
    · obtain ⟨_, o, ho, _⟩ := K.frames.mem z
      rw [(N q hq).2.2] at ho; cases ho
  · obtain ⟨oL, es, ep, hL, r⟩ := F.ns
    refine ⟨⟨oL, es, ep, hideAll_get _ hL fun q => ?_, r⟩, fun b o e => hideAll_get _ (F.keep b o e) (nm b o e), F.above⟩
    obtain ⟨p, hp, e⟩ := List.mem_map.mp q
    exact (N p hp).2.1 e
  · exact fun b o e hn => x.up b o (of_hideAll _ e) hn
end Mine
end
section
open PySem PySem.W PySem.Spec PySem.Calls PyProof.Rows
theorem Mine.tickTruth9 (M : Model) (A : Around) (E : Value → Shared → Prop) (s : Shared) (env : Env) (pos : Pos) : wpAny M A (exec (.Pass pos) env) (fun _ _ => True) E s := by
  w_top off
  first | (walk1; fail) | exact wpAny_Pass trivial
end
section
open PySem PySem.W PySem.Spec PySem.Calls PyProof.Rows
set_option maxHeartbeats 8000000
namespace Mine
@[irreducible] def truthOf (n : Int) : Bool :=
  if n.fmod 6 < 4 then !(codesOf (n.fdiv 6)).isEmpty else if n.fmod 6 = 4 then n.fdiv 6 != 0 else n.fdiv 6 % 5 == 2 || n.fdiv 6 % 5 == 4
theorem truth_codes {n : Int} (h : n.fmod 6 < 4) : truthOf n = !(codesOf (n.fdiv 6)).isEmpty := by unfold truthOf; rw [if_pos h]
theorem truth_int {n : Int} (h : n.fmod 6 = 4) : truthOf n = (n.fdiv 6 != 0) := by unfold truthOf; rw [if_neg (by omega), if_pos h]
theorem truth_five {n : Int} {k : Int} (h : n.fmod 6 = 5) (hk : (n.fdiv 6).fmod 5 = k) : truthOf n = (k == 2 || k == 4) := by
  unfold truthOf; rw [if_neg (by omega), if_neg (by omega), ← Int.fmod_eq_emod_of_nonneg _ (by decide : (0 : Int) ≤ 5), hk]
theorem codes_nil {k : Int} (h : (codesOf k).isEmpty = true) : k ≤ 0 := by
  by_cases q : 0 < k
  · rw [codesOf_pos q] at h; cases h
  · omega
theorem codes_cons {k : Int} (h : (codesOf k).isEmpty = false) : 0 < k := by
  by_cases q : 0 < k
  · exact q
  · unfold codesOf at h
    rw [show k.toNat = 0 by omega, codesN] at h
    cases h
theorem fmod6 (n : Int) : 0 ≤ n.fmod 6 ∧ n.fmod 6 < 6 := by
  rw [Int.fmod_eq_emod_of_nonneg _ (by decide)]; omega
theorem told_false {n : Int} (_h0 : 0 ≤ n) (h : truthOf n = false) : toldOf n = Str.ofString "no" := by
  have h6 := fmod6 n
  have hd := Int.fdiv_eq_ediv_of_nonneg n (by decide : (0 : Int) ≤ 6)
  have hm := Int.fmod_eq_emod_of_nonneg n (by decide : (0 : Int) ≤ 6)
  by_cases c : n.fmod 6 < 4
  · rw [truth_codes c] at h
    have h' : (codesOf (n.fdiv 6)).isEmpty = true := by simpa using h
    have hk := codes_nil h'
    by_cases c2 : n.fmod 6 < 2
    · refine told_no c2 fun q => ?_
      have : codesOf (n.fdiv 6) = [] := List.isEmpty_iff.mp h'
      rw [this] at q; cases q
    · exact told_small c2 (by omega)
  · by_cases c4 : n.fmod 6 = 4
    · rw [truth_int c4] at h
      have h' : n.fdiv 6 = 0 := by simpa using h
      exact told_small (by omega) (by omega)
    · have c5 : n.fmod 6 = 5 := by omega
      refine told_empty (by omega) c5 (any3.mpr ?_)
      rw [truth_five c5 rfl] at h
      have h5 := Int.fmod_eq_emod_of_nonneg (n.fdiv 6) (by decide : (0 : Int) ≤ 5)
      generalize hz : (n.fdiv 6).fmod 5 = z at h h5 ⊢
      have : z ≠ 2 ∧ z ≠ 4 := by simpa using h
      omega
theorem told_ref {n : Int} (h2 : ¬ n.fmod 6 < 2) (h0 : 0 ≤ n) (h : truthOf n = true) : toldOf n = (Str.ofString "address type of " ++ (dataOf n).shown) ++ Str.ofString " unrecognized" := by
  have h6 := fmod6 n
  have hd := Int.fdiv_eq_ediv_of_nonneg n (by decide : (0 : Int) ≤ 6)
  have hm := Int.fmod_eq_emod_of_nonneg n (by decide : (0 : Int) ≤ 6)
  by_cases c5 : n.fmod 6 = 5
  · rw [truth_five c5 rfl] at h
    refine told_ref5 h2 ?_ ?_
    · intro q
      have e : n.fdiv 6 = 0 := by omega
      rw [e] at h; exact absurd h (by decide)
    · cases q : ([0, 1, 3].any fun x => x == (n.fdiv 6).fmod 5) with
      | false => rfl
      | true =>
        have := any3.mp q
        rcases this with e | e | e <;> rw [e] at h <;> exact absurd h (by decide)
  · refine told_refN h2 ?_ c5
    intro q
    by_cases c : n.fmod 6 < 4
    · rw [truth_codes c] at h
      have h' : (codesOf (n.fdiv 6)).isEmpty = false := by simpa using h
      have := codes_cons h'
      omega
    · have c4 : n.fmod 6 = 4 := by omega
      rw [truth_int c4] at h
      have h' : n.fdiv 6 ≠ 0 := by simpa using h
      omega
theorem ref_ne (x : Str) {y : Str} (h : y.cps.size < 16) : (Str.ofString "address type of " ++ x) ++ Str.ofString " unrecognized" ≠ y := fun e => by
  have e2 := congrArg (fun s : Str => s.cps.size) e
  have e3 : ((Str.ofString "address type of " ++ x) ++ Str.ofString " unrecognized").cps.size = (Str.ofString "address type of ").cps.size + x.cps.size + (Str.ofString " unrecognized").cps.size := by
    show ((Str.ofString "address type of ").cps ++ x.cps ++ (Str.ofString " unrecognized").cps).size = _
    rw [Array.size_append, Array.size_append]
  have e4 : (Str.ofString "address type of ").cps.size = 16 := by decide
  have e5 : ((Str.ofString "address type of " ++ x) ++ Str.ofString " unrecognized").cps.size = y.cps.size := e2
  omega
section
variable {w : World} {A : Around} {E : Value → Shared → Prop} {s : Shared} {h₀ : Heap} {L : Addr} {led : List (Addr × Obj)} {v : Value} {n : Int}
theorem truthy_thing {Q : Bool → Shared → Prop} (O : IsThing w led v n) (N : News h₀ L s.heap led) (h0 : 0 ≤ n) (h1 : n < 2400)
    (hQ : ∀ tk, Q (truthOf n) { s with toks := tk }) : wpAny (model PySem.Challenge.rw_kl0055_01.row.prog w) A (truthy v) Q E s := by
  have hk4 := (div6 h0 h1).2
  have hsz := codesOf_len hk4
  have ee : ∀ {vs : List Value}, IntsAre vs (codesOf (n.fdiv 6)) → n.fmod 6 < 4 → (!vs.toArray.isEmpty) = truthOf n := fun {vs} hi hc => by
    rw [truth_codes hc]
    revert hi
    generalize codesOf (n.fdiv 6) = cs
    intro hi
    cases hi <;> rfl
  cases O with
  | text e =>
    refine P.truthy_str ?_ ?_
    · show ¬ ((((codesOf (n.fdiv 6)).map Int.toNat).toArray.size : Int)) ≥ 2 ^ 63
      rw [List.size_toArray, List.length_map]; omega
    · have : (((⟨((codesOf (n.fdiv 6)).map Int.toNat).toArray⟩ : Str).length : Int) != 0) = truthOf n := by
        rw [truth_codes (by omega)]
        show (((((codesOf (n.fdiv 6)).map Int.toNat).toArray.size : Nat) : Int) != 0) = _
        cases codesOf (n.fdiv 6) with
        | nil => rfl
        | cons a r => rw [List.size_toArray, List.length_map, List.length_cons]; simp; omega
      rw [this]; exact hQ _
  | bytes e =>
    refine truthy_bytes ?_ ?_
    · rw [List.size_toArray, List.length_map]; omega
    · have : (((((codesOf (n.fdiv 6)).map fun n => n.toNat.toUInt8).toArray.size : Nat) : Int) != 0) = truthOf n := by
        rw [truth_codes (by omega)]
        cases codesOf (n.fdiv 6) with
        | nil => rfl
        | cons a r => rw [List.size_toArray, List.length_map, List.length_cons]; simp; omega
      rw [this]; exact hQ _
  | list e hm hi => exact wpAny_truthy_list (News.isList N hm) (by rw [List.size_toArray, hi.length]; omega) (by rw [ee hi (by omega)]; exact hQ _)
  | tuple e hm hi => exact truthy_tuple (News.isTup N hm) (by rw [List.size_toArray, hi.length]; omega) (by rw [ee hi (by omega)]; exact hQ _)
  | int e => exact P.truthy_int (by rw [← truth_int e]; exact hQ _)
  | none e f => exact truthy_none (by have := truth_five e f; rw [show (truthOf n) = false from this] at hQ; exact hQ s.toks)
  | false e f => exact wpAny_truthy_bool (by have := truth_five e f; rw [show (truthOf n) = false from this] at hQ; exact hQ s.toks)
  | true e f => exact wpAny_truthy_bool (by have := truth_five e f; rw [show (truthOf n) = true from this] at hQ; exact hQ s.toks)
  | dict0 e f hm hs hd => 
    have := truth_five e f
    rw [show truthOf n = false from this] at hQ
    exact wpAny_truthy_dict hs (Heap.dictOf_iff.mpr ⟨_, (N _ hm).1, hd⟩) (by decide) (hQ _)
  | dict1 e f hm hs hd hl hi =>
    have := truth_five e f
    rw [show truthOf n = true from this] at hQ
    exact wpAny_truthy_dict hs (Heap.dictOf_iff.mpr ⟨_, (N _ hm).1, hd⟩) (by show ((1 : Nat) : Int) < 2 ^ 63; decide) (hQ _)
theorem pyRepr_thing {Q : Value → Shared → Prop} (O : IsThing w led v n) (S : h₀.NoSeer) (N : News h₀ L s.heap led) (h0 : 0 ≤ n) (h1 : n < 2400) (h2 : ¬ n.fmod 6 < 2) (hg : A.guards = some []) (hu : A.units + 4 < cLine)
    (hQ : ∀ h' u tk, (∀ b o, s.heap.get? b = some o → h'.get? b = some o) → Q (.str (dataOf n).shown u) { s with heap := h', toks := tk }) :
    wpAny (model PySem.Challenge.rw_kl0055_01.row.prog w) A (pyReprObj v) Q E s := by
  obtain ⟨k1, k2, k3⟩ := data_ok h0 h1
  obtain ⟨as, R, hsm⟩ := reads_thing O S N (by omega) (by omega)
  have hz : (dataOf n).shown.length ≤ sizeLine := by rw [sizeLine_eq]; omega
  generalize hd : dataOf n = d at *
  cases O with
  | text e => omega
  | bytes e => omega
  | list e hm hi => exact pyReprObj_of_reads R k1 (fun _ => hsm) hg (by omega) (fun _ _ e => e) hQ hz
  | tuple e hm hi => exact pyReprObj_of_reads R k1 (fun _ => hsm) hg (by omega) (fun _ _ e => e) hQ hz
  | dict0 e f hm _ hd => exact pyReprObj_of_reads R k1 (fun _ => hsm) hg (by omega) (fun _ _ e => e) hQ hz
  | dict1 e f hm _ hd hl hi => exact pyReprObj_of_reads R k1 (fun _ => hsm) hg (by omega) (fun _ _ e => e) hQ hz
  | int e =>
    cases R
    refine pyReprObj_int ?_ (hQ _ _ _ fun _ _ e => e)
    simpa [PyData.showable] using k1
  | none e f =>
    cases R
    exact pyReprObj_none (hQ _ _ _ fun _ _ e => e)
  | false e f =>
    cases R
    exact pyReprObj_bool (hQ _ _ _ fun _ _ e => e)
  | true e f =>
    cases R
    exact pyReprObj_bool (hQ _ _ _ fun _ _ e => e)
end
end Mine
end
section
open PySem PySem.W PySem.Spec PySem.Calls PyProof.Rows
theorem Mine.tickAbs (M : Model) (A : Around) (E : Value → Shared → Prop) (s : Shared) (env : Env) (pos : Pos) : wpAny M A (exec (.Pass pos) env) (fun _ _ => True) E s := by
  w_top off
  first | (walk1; fail) | exact wpAny_Pass trivial
end
section
open PySem PySem.W PySem.Spec PySem.Calls PyProof.Rows
set_option maxHeartbeats 8000000
namespace Mine
local macro_rules | `(tactic| k_all) => `(tactic| (refine' code_enter ?k1 ?k2 ?k3 ?k4 ?k5 ?kl ?k6 ?k7 ?k8 ?k9 ?kB ?_ ?c2 ?c3 ?c4 ?c5; (case k1 => exact rfl); (case k2 => assumption); (case k3 => assumption); (case k4 => k_asm); (case k5 => k_asm); (case kl => assumption); (case k6 => k_is); (case k7 => k_is); (case k8 => ktr_room); (case k9 => exact BindsTo.of_eq rfl); (case c5 => decide); (case kB => exact locs rfl); (case c2 => exact rfl); (case c3 => exact rfl); (case c4 => exact rfl); k_whole))
local macro_rules | `(tactic| walk_at "truthy ref") => `(tactic| (k_here; (refine truthy_thing (by assumption) (by assumption) (by assumption) (by assumption) fun tk => ?_)))
local macro_rules | `(tactic| walk_at "truthy str") => `(tactic| (k_here; (refine truthy_thing (by assumption) (by assumption) (by assumption) (by assumption) fun tk => ?_)))
local macro_rules | `(tactic| walk_at "truthy bytes") => `(tactic| (k_here; (refine truthy_thing (by assumption) (by assumption) (by assumption) (by assumption) fun tk => ?_)))
local macro_rules | `(tactic| walk_at "truthy int") => `(tactic| (k_here; (refine truthy_thing (by assumption) (by assumption) (by assumption) (by assumption) fun tk => ?_)))
section
variable {w : World} {A : Around} {E : Value → Shared → Prop} {s : Shared} {value slice : PySem.Expr} {t u : Tok} {Q : Value → Shared → Prop} {c : Int} {r : List Int}
theorem item_text (h : ∀ u' tk, Q (.str ⟨#[c.toNat]⟩ u') { s with toks := tk })
    (hs : subscripted slice false (.str ⟨((c :: r).map Int.toNat).toArray⟩ t) (.int 0 u) = operate [.str ⟨((c :: r).map Int.toNat).toArray⟩ t, .int 0 u] (getItem (.str ⟨((c :: r).map Int.toNat).toArray⟩ t) (.int 0 u)) := by with_unfolding_all rfl)
    (ht : ∀ r', letTemporaryGo value (.str ⟨((c :: r).map Int.toNat).toArray⟩ t) r' = pure () := by intro _; with_unfolding_all rfl) :
    wpAny (model PySem.Challenge.rw_kl0055_01.row.prog w) A (subscriptTail value slice (.str ⟨((c :: r).map Int.toNat).toArray⟩ t) (.int 0 u)) Q E s := by
  refine subscriptTail_builtin (typeIs_str s _ t) F.slot_str_getitem.lookup (P.getItem_str (c := c.toNat) (by decide) ?_ (h _ _)) hs ht
  have e : seqIndex? 0 (Str.mk (List.map Int.toNat (c :: r)).toArray).length = some 0 := by
    show seqIndex? 0 (List.map Int.toNat (c :: r)).toArray.size = some 0
    rw [List.size_toArray, List.length_map, List.length_cons]
    simp [seqIndex?]
  rw [e]
  rfl
theorem item_bytes (hl : (c :: r).length ≤ 400) (h : ∀ u' tk, Q (.int c.toNat.toUInt8.toNat u') { s with toks := tk })
    (hs : subscripted slice false (.bytes ((c :: r).map fun n => n.toNat.toUInt8).toArray t) (.int 0 u) = operate [.bytes ((c :: r).map fun n => n.toNat.toUInt8).toArray t, .int 0 u] (getItem (.bytes ((c :: r).map fun n => n.toNat.toUInt8).toArray t) (.int 0 u)) := by with_unfolding_all rfl)
    (ht : ∀ r', letTemporaryGo value (.bytes ((c :: r).map fun n => n.toNat.toUInt8).toArray t) r' = pure () := by intro _; with_unfolding_all rfl) :
    wpAny (model PySem.Challenge.rw_kl0055_01.row.prog w) A (subscriptTail value slice (.bytes ((c :: r).map fun n => n.toNat.toUInt8).toArray t) (.int 0 u)) Q E s := by
  refine subscriptTail_builtin (typeIs_bytes s _ t) FB.slot_bytes_getitem.lookup (getItem_bytes (by rw [List.length_map]; omega) (by decide) (by rw [List.length_map, List.length_cons]; omega) (h _ _)) hs ht
end
theorem first_yes {n : Int} (h2 : n.fmod 6 < 2) {c : Int} {r : List Int} (e : codesOf (n.fdiv 6) = c :: r) : toldOf n = (if c = 0 then Str.ofString "yes" else Str.ofString "no") := by
  by_cases q : c = 0
  · rw [if_pos q, told_yes h2 (by rw [e, q]; rfl)]
  · rw [if_neg q, told_no h2 (by rw [e]; simpa using q)]
local macro_rules | `(tactic| walk_at "subscriptTail") => `(tactic| (k_here; (with_reducible show wpAny _ _ (subscriptTail _ _ (Value.str _ _) (Value.int _ _)) _ _ _); refine item_text fun u' tk => ?_))
local macro_rules | `(tactic| walk_at "subscriptTail") => `(tactic| (k_here; (with_reducible show wpAny _ _ (subscriptTail _ _ (Value.bytes _ _) (Value.int _ _)) _ _ _); refine item_bytes (by assumption) fun u' tk => ?_))
theorem room5 {dp un : Nat} {l : List Env} {env : Env} (h : un + 160 < cLine) : ((aroundOf dp un l).deeper env).units + 4 < cLine := by
  simp only [units_deeper]; omega
theorem pyRepr_K {w : World} {A : Around} {E : Value → Shared → Prop} {s : Shared} {h₀ : Heap} {L : Addr} {m : Str → Option Value} {led : List (Addr × Obj)} {v : Value} {n : Int} {Q : Value → Shared → Prop} (O : IsThing w led v n) (S : h₀.NoSeer) (F : Fr h₀ L s.heap m) (N : News h₀ L s.heap led) (h0 : 0 ≤ n) (h1 : n < 2400) (h2 : ¬ n.fmod 6 < 2) (hg : A.guards = some []) (hu : A.units + 4 < cLine)
    (hQ : ∀ h' u tk, Fr h₀ L h' m → News h₀ L h' led → Q (.str (dataOf n).shown u) { s with heap := h', toks := tk }) :
    wpAny (model PySem.Challenge.rw_kl0055_01.row.prog w) A (pyReprObj v) Q E s :=
  pyRepr_thing O S N h0 h1 h2 hg hu fun h' u tk hk => hQ h' u tk (F.keeps hk) fun p hp => ⟨hk _ _ (N p hp).1, (N p hp).2⟩
theorem format_str {w : World} {A : Around} {E : Value → Shared → Prop} {s : Shared} {x : Str} {t : Tok} {Q : Value → Shared → Prop} (hx : x.length ≤ 100000) (h : ∀ u tk, Q (.str x u) { s with toks := tk }) :
    wpAny (model PySem.Challenge.rw_kl0055_01.row.prog w) A (formatField (.str x t) Str.empty) Q E s :=
  wpAny_formatField_str (h _ s.toks) (h _ _) (by rw [sizeLine_eq]; omega)
theorem str1_beq (c : Int) (h : 0 ≤ c) : ((Str.mk #[c.toNat] == ("\x00" : Str)) = true) ↔ c = 0 := by
  constructor
  · intro e
    have e' : Str.mk #[c.toNat] = ("\x00" : Str) := eq_of_beq e
    have e2 : c.toNat = 0 := by
      have := congrArg (fun z : Str => z.cps[0]?) e'
      have e3 : some c.toNat = some 0 := this
      exact Option.some.inj e3
    omega
  · intro e
    subst e
    decide
theorem byte_beq (c : Int) (h : 0 ≤ c) (h2 : c < 256) : (((c.toNat.toUInt8.toNat : Nat) : Int) == 0) = true ↔ c = 0 := by
  have : c.toNat.toUInt8.toNat = c.toNat := by
    show c.toNat % 256 = c.toNat
    omega
  rw [this, beq_iff_eq]
  omega
theorem raise_te {w : World} {A : Around} {E : Value → Shared → Prop} {s : Shared} {env env' : Env} {x : Str} {np cpos pos jpos : Pos} {parts : List PySem.Expr} {Q : Flow → Shared → Prop} (hh : A.handled = none)
    (h : wpAny (model PySem.Challenge.rw_kl0055_01.row.prog w) (A.deeper env') (eval (.Name x np) env) (fun f s₁ => f = .type "TypeError" ∧ wpAny (model PySem.Challenge.rw_kl0055_01.row.prog w) (A.deeper env') (spliced (backTo cpos (starEach [.JoinedStr parts jpos] env)))
      (fun vs s₂ => vs.length ≤ sizeLine ∧ ∀ h' e, Heap.MadeExc s₂.heap h' e "TypeError" vs → E (.ref e) { s₂ with heap := h' }) E s₁) E s) :
    wpAny (model PySem.Challenge.rw_kl0055_01.row.prog w) (A.deeper env') (exec (.Raise (some (.Call (.Name x np) [.JoinedStr parts jpos] [] cpos)) none pos) env) Q E s :=
  Raise_madeB PySem.F.excCall_TypeError PySem.F.excRaise_TypeError hh h
theorem len1 {x : Str} : (Str.empty ++ x : Str) = x := by
  show Str.mk (#[] ++ x.cps) = x
  rw [Array.empty_append]
theorem joined_x {w : World} {A : Around} {E : Value → Shared → Prop} {s : Shared} {x : Str} {v : Value} {env : Env} {ve : PySem.Expr} {k1 k2 : Nat} {p1 p2 p3 pos : Pos} {Q : Value → Shared → Prop} {P : Heap → Prop}
    (hx : x.length ≤ 100000)
    (hv : ∀ (Q' : Value → Shared → Prop) s', s'.heap = s.heap → Q' v s' → wpAny (model PySem.Challenge.rw_kl0055_01.row.prog w) A (eval ve env) Q' E s')
    (hr : ∀ (Q' : Value → Shared → Prop) tk, (∀ h' u tk', P h' → Q' (.str x u) { s with heap := h', toks := tk' }) → wpAny (model PySem.Challenge.rw_kl0055_01.row.prog w) A (pyReprObj v) Q' E { s with toks := tk })
    (hQ : ∀ h' u tk, P h' → Q (.str ((Str.ofString "address type of " ++ x) ++ Str.ofString " unrecognized") u) { s with heap := h', toks := tk }) :
    wpAny (model PySem.Challenge.rw_kl0055_01.row.prog w) A (eval (.JoinedStr [.Constant (.str (Str.ofString "address type of ")) k1 p1, .FormattedValue ve 114 none p2, .Constant (.str (Str.ofString " unrecognized")) k2 p3] pos) env) Q E s := by
  have l1 : (Str.ofString "address type of ").length = 16 := by decide
  have l2 : (Str.ofString " unrecognized").length = 13 := by decide
  refine JoinedStr_many (joinParts_cons (Calls.Constant_str ?_))
  dsimp only
  rw [len1]
  have z1 : (Str.ofString "address type of ").length ≤ sizeLine := by rw [l1, sizeLine_eq]; decide
  have z2 : (Str.ofString "address type of " ++ x).length ≤ sizeLine := by rw [strLen_append, l1, sizeLine_eq]; omega
  have z3 : (Str.ofString "address type of " ++ x ++ Str.ofString " unrecognized").length ≤ sizeLine := by rw [strLen_append, strLen_append, l1, l2, sizeLine_eq]; omega
  refine ⟨z1, ?_⟩
  refine joinParts_cons ?_
  refine wpAny_FormattedValue_repr ?_
  refine hv _ _ rfl ?_
  refine hr _ _ fun h' u tk hP => ?_
  refine format_str hx fun u' tk' => ?_
  dsimp only
  refine ⟨z2, ?_⟩
  refine joinParts_consE ?_
  refine joinParts_cons ?_
  refine Calls.Constant_str ?_
  dsimp only
  refine ⟨z3, ?_⟩
  refine joinParts_nilE ?_
  refine' joinParts_nil ?h ?z
  case z => exact z3
  exact hQ h' _ _ hP
theorem joined_abs {w : World} {A : Around} {E : Value → Shared → Prop} {s : Shared} {h₀ : Heap} {L : Addr} {m : Str → Option Value} {led : List (Addr × Obj)} {v : Value} {n : Int} {env : Env} {ve : PySem.Expr} {k1 k2 : Nat} {p1 p2 p3 pos : Pos} {Q : Value → Shared → Prop}
    (O : IsThing w led v n) (S : h₀.NoSeer) (F : Fr h₀ L s.heap m) (N : News h₀ L s.heap led) (h0 : 0 ≤ n) (h1 : n < 2400) (h2 : ¬ n.fmod 6 < 2) (hy : toldOf n = (Str.ofString "address type of " ++ (dataOf n).shown) ++ Str.ofString " unrecognized") (hg : A.guards = some []) (hu : A.units + 4 < cLine)
    (hv : ∀ (Q' : Value → Shared → Prop) s', s'.heap = s.heap → Q' v s' → wpAny (model PySem.Challenge.rw_kl0055_01.row.prog w) A (eval ve env) Q' E s')
    (hQ : ∀ h' u tk, Fr h₀ L h' m → News h₀ L h' led → Q (.str (toldOf n) u) { s with heap := h', toks := tk }) :
    wpAny (model PySem.Challenge.rw_kl0055_01.row.prog w) A (eval (.JoinedStr [.Constant (.str (Str.ofString "address type of ")) k1 p1, .FormattedValue ve 114 none p2, .Constant (.str (Str.ofString " unrecognized")) k2 p3] pos) env) Q E s := by
  have hsh := (data_ok h0 h1).2.2
  have hr : ∀ (Q' : Value → Shared → Prop) tk, (∀ h' u tk', (Fr h₀ L h' m ∧ News h₀ L h' led) → Q' (.str (dataOf n).shown u) { s with heap := h', toks := tk' }) → wpAny (model PySem.Challenge.rw_kl0055_01.row.prog w) A (pyReprObj v) Q' E { s with toks := tk } :=
    fun Q' tk q => pyRepr_K (s := { s with toks := tk }) O S F N h0 h1 h2 hg hu fun h' u tk' F' N' => q h' u tk' ⟨F', N'⟩
  rw [hy] at hQ
  generalize (dataOf n).shown = x at hsh hQ hr
  exact joined_x hsh hv hr fun h' u tk q => hQ h' u tk q.1 q.2
@[irreducible] def Stop (p : Prop) : Prop := p
theorem stop {p : Prop} (h : Stop p) : p := by unfold Stop at h; exact h
theorem go {p : Prop} (h : p) : Stop p := by unfold Stop; exact h
local macro_rules | `(tactic| walk_at "exec Raise some none") => `(tactic| (refine stop ?_))
local macro_rules | `(tactic| walk_at "leaving ref") => `(tactic| (refine stop ?_))
local macro_rules | `(tactic| walk_at "call builtin:isinstance") => `(tactic| (k_here; (with_reducible show wpAny _ _ (call _ [Value.ref _, Value.type _]) _ _ _); k_dflt (refine' kia_one kitx_dict ?X ?c ?ee ?nb ?_; (case c => exact kitAt_N (by assumption) (by assumption) (by assumption)); (case X => k_in); (case ee => kit_is); (case nb => kit_nb); k_whole; intro _)))
theorem abs_code (w : World) (n : Int) (h0 : 0 ≤ n) (h1 : n < 2400) {loose : List Str} {mean : ExcName → Option Value} {mg mb : Str → Option Value} {dp un : Nat} {l : List Env} {s : Shared} {g₀ : Heap} {led : List (Addr × Obj)} {v : Value}
    {R : Result → Shared → Prop} (FF : s.heap.FunFrames g₀ l) (st : g₀.StaysIn s.heap) (X₀ : (hd.heap_39 w.params).In g₀) (T : Top noProg loose mean mg mb g₀) (hl : ∀ q ∈ led, s.heap.get? q.1 = some q.2 ∧ q.1 ∉ fsOf l ∧ g₀.get? q.1 = none)
    (I : IsThing w led v n) (hdp : dp + 20 < recursionLimit) (hun : un + 160 < cLine)
    (hok : ∀ b h' tk, s.heap.StaysIn h' → toldOf n = (if b then Str.ofString "yes" else Str.ofString "no") → R (.ok (.ret (.bool b))) { s with heap := h', toks := tk })
    (hno : ∀ e t u h' tk, Flown l e t [.str (toldOf n) u] s.heap h' → toldOf n ≠ Str.ofString "yes" → toldOf n ≠ Str.ofString "no" → R (.error (.ref e)) { s with heap := h', toks := tk }) :
    codeAny (model PySem.Challenge.rw_kl0055_01.row.prog w) (aroundOf dp un l) (.call (.ref 21) ⟨[v], []⟩) R s := by
  k_dflt k_all
  intro g' L' h3 F' N' B' X' T' S' SS' nL _
  try dsimp only
  try k_fold
  have hk4 := (div6 h0 h1).2
  have hsz := codesOf_len hk4
  have hsh := (data_ok h0 h1).2.2
  have I2 := I
  by_cases ht : truthOf n = true
  · by_cases h2 : n.fmod 6 < 2
    · have hcc : ∃ c r, codesOf (n.fdiv 6) = c :: r := by
        rw [truth_codes (by omega)] at ht
        cases q : codesOf (n.fdiv 6) with
        | nil => rw [q] at ht; cases ht
        | cons c r => exact ⟨c, r, rfl⟩
      obtain ⟨c, r, hc⟩ := hcc
      have hy := first_yes h2 hc
      have hcin := codesOf_in c (by rw [hc]; exact .head _)
      rw [hc] at hsz
      cases I with
      | text e =>
        rw [hc] at I2 F'
        k_steps
        refine hok _ _ _ S' ?_
        rw [hy]
        by_cases q : c = 0
        · rw [if_pos q, if_pos ((str1_beq c hcin.1).mpr q)]
        · rw [if_neg q, if_neg fun z => q ((str1_beq c hcin.1).mp z)]
      | bytes e =>
        rw [hc] at I2 F'
        k_steps
        refine hok _ _ _ S' ?_
        rw [hy]
        by_cases q : c = 0
        · rw [if_pos q, if_pos ((byte_beq c hcin.1 hcin.2).mpr q)]
        · rw [if_neg q, if_neg fun z => q ((byte_beq c hcin.1 hcin.2).mp z)]
      | _ => omega
    · have hy := told_ref h2 h0 ht
      have hn1 := ref_ne (dataOf n).shown (y := Str.ofString "yes") (by decide)
      have hn2 := ref_ne (dataOf n).shown (y := Str.ofString "no") (by decide)
      rw [← hy] at hn1 hn2
      cases I with
      | text e => omega
      | bytes e => omega
      | none e f => rw [truth_five e f] at ht; exact absurd ht (by decide)
      | false e f => rw [truth_five e f] at ht; exact absurd ht (by decide)
      | dict0 e f hm _ hd => rw [truth_five e f] at ht; exact absurd ht (by decide)
      | dict1 e f hm _ hdd hl hi =>
        have hcd := (show _ ∧ _ from hdd.choose_spec.choose_spec.1).1
        k_steps
        refine go ?_
        refine raise_te rfl ?_
        iterate 4 walk1
        refine' joined_abs I2 (Top.seer (p := noProg) T' noImports) F' N' h0 h1 h2 hy rfl (room5 hun) ?hv ?_
        case hv =>
          rintro Q9 ⟨h9, g9, d9, t9, o9⟩ e9 q9
          dsimp only at e9
          subst e9
          k_steps
          exact q9
        intro h8 u8 tk8 F8 N8
        clear F' N'
        dsimp only
        k_steps
        refine go ?_
        rename_i hx
        refine Flown.raised (Heap.MadeExc.of hx) rfl rfl (show ScopeKind.function ≠ ScopeKind.module by decide) F8.ns FF (SS' _ F8.keep N8) nL fun h9 t9 f9 => ?_
        exact hno _ _ _ _ _ f9 hn1 hn2
      | _ =>
        k_steps
        refine go ?_
        refine raise_te rfl ?_
        iterate 4 walk1
        refine' joined_abs I2 (Top.seer (p := noProg) T' noImports) F' N' h0 h1 h2 hy rfl (room5 hun) ?hv ?_
        case hv =>
          rintro Q9 ⟨h9, g9, d9, t9, o9⟩ e9 q9
          dsimp only at e9
          subst e9
          k_steps
          exact q9
        intro h8 u8 tk8 F8 N8
        clear F' N'
        dsimp only
        k_steps
        refine go ?_
        rename_i hx
        refine Flown.raised (Heap.MadeExc.of hx) rfl rfl (show ScopeKind.function ≠ ScopeKind.module by decide) F8.ns FF (SS' _ F8.keep N8) nL fun h9 t9 f9 => ?_
        exact hno _ _ _ _ _ f9 hn1 hn2
  · have hf : truthOf n = false := by simpa using ht
    have hy := told_false h0 hf
    cases I with
    | text e => k_steps; exact hok false _ _ S' hy
    | bytes e => k_steps; exact hok false _ _ S' hy
    | list e hm hi => k_steps; exact hok false _ _ S' hy
    | tuple e hm hi => k_steps; exact hok false _ _ S' hy
    | int e => k_steps; exact hok false _ _ S' hy
    | none e f => k_steps; exact hok false _ _ S' hy
    | false e f => k_steps; exact hok false _ _ S' hy
    | true e f => rw [truth_five e f] at hf; exact absurd hf (by decide)
    | dict0 e f hm _ hd => k_steps; exact hok false _ _ S' hy
    | dict1 e f hm _ hd hl hi => rw [truth_five e f] at hf; exact absurd hf (by decide)
end Mine
end
section
open PySem PySem.W PySem.Spec PySem.Calls PyProof.Rows
theorem Mine.tickAlone (M : Model) (A : Around) (E : Value → Shared → Prop) (s : Shared) (env : Env) (pos : Pos) : wpAny M A (exec (.Pass pos) env) (fun _ _ => True) E s := by
  w_top off
  first | (walk1; fail) | exact wpAny_Pass trivial
end
section
open PySem PySem.W PySem.Spec PySem.Calls PyProof.Rows
set_option maxHeartbeats 8000000
namespace Mine
local macro_rules | `(tactic| k_all) => `(tactic| (refine' code_enter ?k1 ?k2 ?k3 ?k4 ?k5 ?kl ?k6 ?k7 ?k8 ?k9 ?kB ?_ ?c2 ?c3 ?c4 ?c5; (case k1 => exact rfl); (case k2 => assumption); (case k3 => assumption); (case k4 => k_asm); (case k5 => k_asm); (case kl => assumption); (case k6 => k_is); (case k7 => k_is); (case k8 => ktr_room); (case k9 => exact BindsTo.of_eq rfl); (case c5 => decide); (case kB => exact locs rfl); (case c2 => exact rfl); (case c3 => exact rfl); (case c4 => exact rfl); k_whole))
local macro_rules | `(tactic| ktr_unf) => `(tactic| (refine' code_def ?k1 ?k2 ?k3 ?k4 ?k5 ?kA ?kF ?kK ?k6 ?k7 ?k8 ?k9 ?kB ?_ ?c2 ?c3 ?c4 ?c5; (case kA => exact rfl); (case kF => exact rfl); (case kK => exact rfl); (case k1 => k_asm); (case k2 => k_asm); (case k3 => k_asm); (case k4 => k_asm); (case k5 => k_asm); (case k6 => k_is); (case k7 => k_is); (case k8 => ktr_room); (case k9 => exact BindsTo.of_eq rfl); (case c5 => decide); (case kB => exact locs rfl); (case c2 => exact rfl); (case c3 => exact rfl); (case c4 => exact rfl); k_whole; intro g' L' h' FG' F' N' B' X' T'; (try dsimp only); (try k_fold)))
theorem abs_in (w : World) (n : Int) (h0 : 0 ≤ n) (h1 : n < 2400) {loose : List Str} {mean : ExcName → Option Value} {mg mb : Str → Option Value} {dp un : Nat} {l : List Env} {s : Shared} {hC g g₀ : Heap} {L : Addr} {m : Str → Option Value} {env : Env} {led : List (Addr × Obj)} {v : Value}
    {R : Result → Shared → Prop} (I : IsThing w led v n) (F : Fr g L s.heap m) (N : News g L s.heap led) (FF : hC.FunFrames g₀ l) (st : g₀.StaysIn hC) (S : hC.StaysIn s.heap) (nL : hC.get? L = none) (X₀ : (hd.heap_39 w.params).In g₀) (T : Top noProg loose mean mg mb g₀) (hl : ∀ q ∈ led, hC.get? q.1 = some q.2 ∧ q.1 ∉ fsOf l ∧ g₀.get? q.1 = none)
    (hdp : dp + 21 < recursionLimit) (hun : un + 163 < cLine) (hf : env.frame = some L) (hm : env.scope.kind ≠ .module)
    (hok : ∀ b h' tk, s.heap.StaysIn h' → toldOf n = (if b then Str.ofString "yes" else Str.ofString "no") → R (.ok (.ret (.bool b))) { s with heap := h', toks := tk })
    (hno : ∀ e t u h' tk, Flown (env :: l) e t [.str (toldOf n) u] s.heap h' → toldOf n ≠ Str.ofString "yes" → toldOf n ≠ Str.ofString "no" → R (.error (.ref e)) { s with heap := h', toks := tk }) :
    codeAny (model PySem.Challenge.rw_kl0055_01.row.prog w) ((aroundOf dp un l).deeper env) (.call (.ref 21) ⟨[v], []⟩) R s := by
  have FF1 : s.heap.FunFrames g₀ (env :: l) := Heap.FunFrames.cons hm hf F.ns (by
    cases q : g₀.get? L with
    | none => rfl
    | some o => rw [st _ _ q] at nL; cases nL) (FF.of_keeps fun b o q _ => ⟨o, S b o q, rfl⟩)
  have hl1 : ∀ q ∈ led, s.heap.get? q.1 = some q.2 ∧ q.1 ∉ fsOf (env :: l) ∧ g₀.get? q.1 = none := fun q hq => ⟨(N q hq).1, fun z => by
    rw [fsOf_cons hf] at z
    rcases List.mem_cons.mp z with z | z
    · exact (N q hq).2.1 z
    · exact (hl q hq).2.1 z, (hl q hq).2.2⟩
  exact abs_code w n h0 h1 (dp := dp + 1) (un := un + 3) FF1 (fun b o e => S _ _ (st b o e)) X₀ T hl1 I (by omega) (by omega) hok hno
theorem stays_base {g₀ g h : Heap} {l : List Env} {led : List (Addr × Obj)} (FF : h.FunFrames g₀ l) (st : g₀.StaysIn h) (hl : ∀ q ∈ led, h.get? q.1 = some q.2 ∧ q.1 ∉ fsOf l ∧ g₀.get? q.1 = none)
    (hs : ∀ b o, h.get? b = some o → (b, o) ∈ led ∨ g.get? b = some o) : ∀ b o, g₀.get? b = some o → (hideAll g (fsOf l)).get? b = some o := fun b o e => by
  refine hideAll_get _ ?_ fun z => ?_
  · rcases hs b o (st b o e) with q | q
    · have := (hl _ q).2.2
      rw [e] at this; cases this
    · exact q
  · have := (FF.mem z).1
    rw [e] at this; cases this
theorem dicts_base {g₀ g h : Heap} {l : List Env} {led : List (Addr × Obj)} (D : KtsDicts (fsOf l) h) (hl : ∀ q ∈ led, h.get? q.1 = some q.2 ∧ q.1 ∉ fsOf l ∧ g₀.get? q.1 = none)
    (hs : ∀ b o, h.get? b = some o → (b, o) ∈ led ∨ g.get? b = some o) : KtsDicts (fsOf l) g := fun b m => by
  obtain ⟨o, es, n, ho, hd⟩ := D b m
  rcases hs b o ho with q | q
  · exact absurd m (hl _ q).2.1
  · exact ⟨o, es, n, q, hd⟩
theorem alone_code (w : World) (n : Int) (h0 : 0 ≤ n) (h1 : n < 2400) {loose : List Str} {mean : ExcName → Option Value} {mg mb : Str → Option Value} {dp un : Nat} {l : List Env} {s : Shared} {g₀ : Heap} {led : List (Addr × Obj)} {v : Value}
    {R : Result → Shared → Prop} (FF : s.heap.FunFrames g₀ l) (st : g₀.StaysIn s.heap) (X₀ : (hd.heap_39 w.params).In g₀) (T : Top noProg loose mean mg mb g₀) (hl : ∀ q ∈ led, s.heap.get? q.1 = some q.2 ∧ q.1 ∉ fsOf l ∧ g₀.get? q.1 = none)
    (D : KtsDicts (fsOf l) s.heap) (I : IsThing w led v n) (hdp : dp + 30 < recursionLimit) (hun : un + 240 < cLine)
    (hok : ∀ u h' tk, KeptF l s.heap h' → R (.ok (.ret (.str (toldOf n) u))) { s with heap := h', toks := tk }) :
    codeAny (model PySem.Challenge.rw_kl0055_01.row.prog w) (aroundOf dp un l) (.call (.ref 112) ⟨[v], []⟩) R s := by
  k_dflt k_all
  intro g' L' h3 F' N' B' X' T' S' SS' nL hs'
  try dsimp only
  try k_fold
  k_steps
  refine wpAny_call (abs_in w n h0 h1 I F' N' FF st S' nL X₀ T hl (by omega) (by omega) rfl (show ScopeKind.function ≠ ScopeKind.module by decide) ?hok ?hno)
  case hok =>
    intro b h4 tk4 hk4 hb
    have F4 := F'.keeps hk4
    have N4 : News g' L' h4 led := fun p hp => ⟨hk4 _ _ (N' p hp).1, (N' p hp).2⟩
    clear F' N'
    dsimp only
    cases b
    · k_steps
      refine wpAny_call ?_
      k_dflt ktr_unf
      k_steps
      rename_i kF kN _ _
      have z := hok tk _ (tk + 1) (KeptF.of_stays (SS' _ kF.keep kN))
      have hb' : toldOf n = Str.ofString "no" := hb
      rw [hb'] at z
      exact z
    · k_steps
      refine wpAny_call ?_
      k_dflt ktr_unf
      k_steps
      rename_i kF kN _ _
      have z := hok tk _ (tk + 1) (KeptF.of_stays (SS' _ kF.keep kN))
      have hb' : toldOf n = Str.ofString "yes" := hb
      rw [hb'] at z
      exact z
  case hno =>
    intro e t u h4 tk4 hf hy hn
    dsimp only
    obtain ⟨R4, FG, US⟩ := flown_S hf F' N' B'
    have sb := stays_base FF st hl hs'
    refine caught_SB (s' := { s with heap := h4, toks := tk4 }) (T' := "TypeError") R4 FG B' US (X₀.keeps sb) (T.keeps sb) (dicts_base D hl hs') KtsTurn.refl ?ex PyProof.Rows.Boot.«TypeError» (by decide) PySem.F.isExc_TypeError PySem.F.notTuple_TypeError (by rw [isSubtype_type]; kernel_rfl) ?_
    case ex => k_is
    intro h5 g5 news5 tk5 T5 F5 N5 G5 N5' B5 X5 P5 D5
    dsimp only
    try k_fold
    k_steps
    rename_i kF kN
    exact hok u _ _ (KeptF.of_turn hs' T5 kF.keep kN)
end Mine
end
section
open PySem PySem.W PySem.Spec PySem.Calls PyProof.Rows
theorem Mine.tickListIt (M : Model) (A : Around) (E : Value → Shared → Prop) (s : Shared) (env : Env) (pos : Pos) : wpAny M A (exec (.Pass pos) env) (fun _ _ => True) E s := by
  w_top off
  first | (walk1; fail) | exact wpAny_Pass trivial
end
section
open PySem PySem.W PySem.Spec PySem.Calls PyProof.Rows
namespace Mine
abbrev lst (acc : List Value) (c : Nat) : Obj := { cls := .type "list", dict := none, data := .seq acc.toArray c, slots := #[] }
structure Steps (prog : Program) (w : World) (A : Around) (I S : Addr) (n : Nat) (St : Nat → List Value → Shared → Prop) (Mid : Nat → List Value → Value → Shared → Prop) (Done : List Value → Shared → Prop) (Bad : Nat → Value → Shared → Prop) : Prop where
  step : ∀ i acc s (Q : Option Value → Shared → Prop) E, i < n → St i acc s → (∀ x s', Mid i acc x s' → Q (some x) s') → (∀ e s', Bad i e s' → E e s') → wpAny (model prog w) A (pyNext (.ref I)) Q E s
  last : ∀ acc s (Q : Option Value → Shared → Prop) E, St n acc s → (∀ s', Done acc s' → Q none s') → wpAny (model prog w) A (pyNext (.ref I)) Q E s
  here : ∀ i acc x s, Mid i acc x s → ∃ c, s.heap.get? S = some (lst acc c)
  push : ∀ i acc x s, i < n → Mid i acc x s → St (i + 1) (acc ++ [x]) { s with heap := s.heap.update S (Obj.mapSeq (·.push x)) }
section
variable {prog : Program} {w : World} {A : Around} {I S : Addr} {n : Nat} {St : Nat → List Value → Shared → Prop} {Mid : Nat → List Value → Value → Shared → Prop} {Done : List Value → Shared → Prop} {Bad : Nat → Value → Shared → Prop} {R : Result → Shared → Prop}
theorem loop_it (W : Steps prog w A.in1 I S n St Mid Done Bad) (hn : n ≤ sizeLine) (res : Value)
    (hR : ∀ acc s', acc.length = n → Done acc s' → R (.ok (.ret res)) s') (hX : ∀ i e s', i < n → Bad i e s' → R (.error e) s') :
    ∀ (k i : Nat) (s : Shared) (acc : List Value), n - i = k → i ≤ n → acc.length = i → St i acc s →
    codeAny (model prog w) A (.builtin "list.extend.loop" ⟨[.ref S, .ref I, res], []⟩) R s := by
  intro k
  induction k with
  | zero =>
    intro i s acc hk hi ha hst
    have hin : i = n := by omega
    subst hin
    refine codeAny_builtin F.entry_extend_loop ?_
    rw [Around.under_plainId F.plain_extend_loop _]
    show wpAny _ A.in1 (pyNext (.ref I) >>= _) _ _ s
    refine wpAny_bind (W.last acc s _ _ hst fun s' hm => ?_)
    exact wpAny_pure (hR acc s' ha hm)
  | succ k ih =>
    intro i s acc hk hi ha hst
    have hlt : i < n := by omega
    refine codeAny_builtin F.entry_extend_loop ?_
    rw [Around.under_plainId F.plain_extend_loop _]
    show wpAny _ A.in1 (pyNext (.ref I) >>= _) _ _ s
    refine wpAny_bind (W.step i acc s _ _ hlt hst (fun v s' hm => ?_) fun e s' hb => hX i e s' hlt hb)
    obtain ⟨c, hS'⟩ := W.here i acc v s' hm
    show wpAny _ A.in1 (updateSeq S (·.push v) >>= _) _ _ _
    refine wpAny_bind ?_
    refine wpAny_updateSeq hS' rfl (wpAny_pure ⟨plainId_quiet F.plain_extend_loop _, ih (i + 1) _ (acc ++ [v]) (by omega) hlt (by rw [List.length_append, ha]; rfl) (W.push i acc v s' hlt hm)⟩)
      (by rw [List.size_toArray, ha]; omega) (by show (acc.toArray.push v).size ≤ sizeLine + 1; rw [Array.size_push, List.size_toArray, ha]; omega)
end
structure Starts (prog : Program) (w : World) (A : Around) (I S : Addr) (t : Value) (Pre : Shared → Prop) : Prop where
  ty : ∀ s (Q : Value → Shared → Prop) E, Pre s → Q t s → wpAny (model prog w) A (typeOf (.ref I)) Q E s
  iter : ∀ s (Q : Value → Shared → Prop) E, Pre s → (∀ s', s.heap.StaysIn s'.heap → Pre s' → Q (.ref I) s') → wpAny (model prog w) A (pyIter (.ref I)) Q E s
  hint : ∀ s (Q : Bool → Shared → Prop) E, Pre s → Q true s → wpAny (model prog w) A (Builtin.List.listLengthHint (.ref I)) Q E s
  but : ∀ s h', Pre s → (∀ b o, b ≠ S → s.heap.get? b = some o → h'.get? b = some o) → Pre { s with heap := h' }
section
variable {prog : Program} {w : World} {A : Around} {E : Value → Shared → Prop} {s : Shared} {I S : Addr} {t : Value} {n : Nat} {Pre : Shared → Prop} {St : Nat → List Value → Shared → Prop} {Mid : Nat → List Value → Value → Shared → Prop} {Done : List Value → Shared → Prop} {Bad : Nat → Value → Shared → Prop} {R : Result → Shared → Prop}
theorem extend_it (W : Steps prog w A.in1 I S n St Mid Done Bad) (V : Starts prog w A.in1 I S t Pre) (hn : n ≤ sizeLine) (res : Value) (hne : S ≠ I) (t1 : (t == .type "list") = false) (t2 : (t == .type "tuple") = false)
    (c₀ : Nat) (hS : s.heap.get? S = some (lst [] c₀)) (hp : Pre s) (h0 : ∀ s c, Pre s → s.heap.get? S = some (lst [] c) → St 0 [] s)
    (hR : ∀ acc s', acc.length = n → Done acc s' → R (.ok (.ret res)) s') (hX : ∀ i e s', i < n → Bad i e s' → R (.error e) s') :
    wpAny (model prog w) A.in1 (Builtin.List.listExtendWith (.ref S) (.ref I) res)
      (fun fin s' => match fin with | .done f => R (.ok f) s' | .again c' => c'.quiet = true ∧ codeAny (model prog w) A c' R s') (fun e s' => R (.error e) s') s := by
  unfold Builtin.List.listExtendWith
  refine wpAny_bind (V.ty _ _ _ hp ?_)
  have h1 : Builtin.List.listSameRef (.ref S) (.ref I) = false := by simp [Builtin.List.listSameRef, hne]
  simp only [h1, t1, t2, Bool.or_false, Bool.false_eq_true, if_false]
  refine wpAny_bind (V.iter _ _ _ hp fun s₁ k₁ p₁ => ?_)
  refine wpAny_bind (wpAny_holding (V.hint _ _ _ p₁ ?_))
  show wpAny _ A.in1 (rule "list.extend.makes-room" >>= fun _ => Builtin.List.listTouch (.ref S) >>= fun _ =>
    again (.builtin "list.extend.loop" ⟨[.ref S, .ref I, res], []⟩)) _ _ _
  refine wpAny_bind (wpAny_rule ?_)
  refine wpAny_bind ?_
  show wpAny _ A.in1 (updateSeq S (·.push .none) >>= fun _ => updateSeq S (·.pop)) _ _ _
  have hS1 := k₁ _ _ hS
  refine wpAny_bind (wpAny_updateSeq hS1 rfl ?_)
  have hS₂ := Heap.get?_update_self (Obj.mapSeq (·.push Value.none)) hS1 rfl
  refine wpAny_updateSeq (hz := by seq_fits) hS₂ rfl ?_
  have hS₃ := Heap.get?_update_self (Obj.mapSeq (·.pop)) hS₂ rfl
  have oth : ∀ b o, b ≠ S → s₁.heap.get? b = some o → ((s₁.heap.update S (Obj.mapSeq (·.push Value.none))).update S (Obj.mapSeq (·.pop))).get? b = some o :=
    fun b o hb e => (Heap.get?_update_other _ _ (Ne.symm hb)).trans ((Heap.get?_update_other _ _ (Ne.symm hb)).trans e)
  exact wpAny_pure ⟨plainId_quiet F.plain_extend_loop _, loop_it W hn res hR hX n 0 _ [] rfl (Nat.zero_le _) rfl (h0 _ _ (V.but s₁ _ p₁ oth) hS₃)⟩
theorem init_it (W : Steps prog w A.in1 I S n St Mid Done Bad) (V : Starts prog w A.in1 I S t Pre) (hn : n ≤ sizeLine) (hne : S ≠ I) (t1 : (t == .type "list") = false) (t2 : (t == .type "tuple") = false)
    (hS : s.heap.get? S = some { cls := .type "list", data := .seq #[] }) (hp : Pre s) (h0 : ∀ s c, Pre s → s.heap.get? S = some (lst [] c) → St 0 [] s)
    (hR : ∀ acc s', acc.length = n → Done acc s' → R (.ok (.ret .none)) s') (hX : ∀ i e s', i < n → Bad i e s' → R (.error e) s') :
    wpAny (model prog w) A.in1 (Builtin.«list.__init__» ⟨[.ref S, .ref I], []⟩)
      (fun fin s' => match fin with | .done f => R (.ok f) s' | .again c' => c'.quiet = true ∧ codeAny (model prog w) A c' R s') (fun e s' => R (.error e) s') s := by
  show wpAny _ A.in1 (do let old ← Builtin.List.listItems (.ref S); Builtin.List.listUpdate (.ref S) (fun _ => #[]); letGo old.toList.reverse; Builtin.List.listExtendWith (.ref S) (.ref I) .none) _ _ s
  refine wpAny_bind ?_
  unfold Builtin.List.listItems
  refine wpAny_bind (wpAny_seqItems hS rfl (wpAny_pure ?_))
  show wpAny _ A.in1 (updateSeq S (fun _ => #[]) >>= fun _ => letGo (#[] : Array Value).toList.reverse >>= fun _ => Builtin.List.listExtendWith (.ref S) (.ref I) .none) _ _ s
  refine wpAny_bind (wpAny_updateSeq hS rfl ?_)
  have hS₂ := Heap.get?_update_self (Obj.mapSeq (fun _ => (#[] : Array Value))) hS rfl
  have oth : ∀ b o, b ≠ S → s.heap.get? b = some o → (s.heap.update S (Obj.mapSeq (fun _ => (#[] : Array Value)))).get? b = some o :=
    fun b o hb e => (Heap.get?_update_other _ _ (Ne.symm hb)).trans e
  refine wpAny_bind (wpAny_letGo ?_)
  exact extend_it W V hn .none hne t1 t2 _ hS₂ (V.but _ _ hp oth) h0 hR hX
theorem call_list_it {Q : Value → Shared → Prop} (W : Steps prog w A.in1.in1 I s.heap.objs.size n St Mid Done Bad) (V : Starts prog w A.in1.in1 I s.heap.objs.size t Pre) (hn : n ≤ sizeLine) (hne : I < s.heap.objs.size) (t1 : (t == .type "list") = false) (t2 : (t == .type "tuple") = false)
    (hp : Pre s) (h0 : ∀ s' c, Pre s' → s'.heap.get? s.heap.objs.size = some (lst [] c) → St 0 [] s')
    (hR : ∀ acc s', acc.length = n → Done acc s' → Q (.ref s.heap.objs.size) s') (hX : ∀ i e s', i < n → Bad i e s' → E e s') :
    wpAny (model prog w) A (call (.type "list") [.ref I]) Q E s := by
  refine callType_codes (Q₁ := fun obj s₁ => obj = .ref s.heap.objs.size ∧ s₁ = { s with heap := s.heap.push { cls := .type "list", data := .seq #[] } }) F.called_list (F.typeCall_list_1 _) F.entry_list_init
    (code_list_new _ ⟨rfl, rfl⟩) fun obj s₁ h₁ => ?_
  obtain ⟨rfl, rfl⟩ := h₁
  have hS : (s.heap.push { cls := .type "list", data := .seq #[] }).get? s.heap.objs.size = some { cls := .type "list", data := .seq #[] } := Heap.get?_push_size _ rfl
  refine ⟨⟨_, hS, rfl⟩, F.args_list_init_2 _ _, init_it W V hn (Nat.ne_of_gt hne) t1 t2 hS (V.but _ _ hp fun b o _ e => Heap.get?_push_of_some _ e) h0 (fun acc s' ha hd => ?_) fun i e s' hi hb => ?_⟩
  · exact ⟨rfl, hR acc s' ha hd⟩
  · exact hX i e s' hi hb
end
end Mine
end
section
open PySem PySem.W PySem.Spec PySem.Calls PyProof.Rows
theorem Mine.tickMapIt (M : Model) (A : Around) (E : Value → Shared → Prop) (s : Shared) (env : Env) (pos : Pos) : wpAny M A (exec (.Pass pos) env) (fun _ _ => True) E s := by
  w_top off
  first | (walk1; fail) | exact wpAny_Pass trivial
end
section
open PySem PySem.W PySem.Spec PySem.Calls PyProof.Rows
namespace Mine
theorem owner_map : Manifest.owners.lookup (String.ofList ['p', 'a', 'm'].reverse) = some Manifest.sig_map := by kernel_rfl
theorem slot_map_next : Slot "map" "__next__" "map.__next__" :=
  .of (owner := "map") (n := "__next__") (by rw [typeLookup_type, builtinLookup_eq_fast]; kernel_rfl) (by decide +kernel) (by decide +kernel) (by decide +kernel)
    (by first | exact .inl (by decide +kernel) | exact .inr (by decide +kernel)) (by rw [isSubtype_type]; kernel_rfl)
theorem entry_map_next : entryFor table "map.__next__" = some Builtin.«map.__next__» := entryFor_of_tree (by kernel_rfl)
theorem args_map_next (a : Value) : argsOk "map.__next__" ⟨[a], []⟩ := by
  unfold argsOk; rw [signature?_of (id := "map.__next__") (n := ['_', '_', 't', 'x', 'e', 'n', '_', '_']) (o := ['p', 'a', 'm']) (by kernel_rfl) owner_map]; kernel_rfl
theorem slot_map_iter : Slot "map" "__iter__" "map.__iter__" :=
  .of (owner := "map") (n := "__iter__") (by rw [typeLookup_type, builtinLookup_eq_fast]; kernel_rfl) (by decide +kernel) (by decide +kernel) (by decide +kernel)
    (by first | exact .inl (by decide +kernel) | exact .inr (by decide +kernel)) (by rw [isSubtype_type]; kernel_rfl)
theorem args_map_iter (a : Value) : argsOk "map.__iter__" ⟨[a], []⟩ := by
  unfold argsOk; rw [signature?_of (id := "map.__iter__") (n := ['_', '_', 'r', 'e', 't', 'i', '_', '_']) (o := ['p', 'a', 'm']) (by kernel_rfl) owner_map]; kernel_rfl
theorem entry_map_iter : entryFor table "map.__iter__" = some Builtin.«dict_keyiterator.__iter__» :=
  entryFor_alias (id' := "dict_keyiterator.__iter__") (by kernel_rfl) (by first | rfl | decide +kernel | (unfold String.splitOn; simp +decide [String.splitOnAux])) (by decide +kernel) (by kernel_rfl)
theorem slot_map_init : Slot "map" "__init__" "object.__init__" :=
  .of (owner := "object") (n := "__init__") (by rw [typeLookup_type, builtinLookup_eq_fast]; kernel_rfl) (by decide +kernel) (by decide +kernel) (by decide +kernel)
    (by first | exact .inl (by decide +kernel) | exact .inr (by decide +kernel)) (by rw [isSubtype_type]; kernel_rfl)
theorem mro_map : mroOf (.type "map") = pure [.type "map", .type "object"] := by rw [mroOf_type]; kernel_rfl
theorem lookup_map_new : typeLookup (.type "map") "__new__" = pure (some (.builtin "map.__new__")) := by rw [typeLookup_type, builtinLookup_eq_fast]; kernel_rfl
theorem called_map : TypeCalled "map" "map.__new__" "object.__init__" :=
  ⟨by decide +kernel, by decide +kernel, ⟨_, _, mro_map⟩, madeBy_type mro_map lookup_map_new (by decide +kernel), by decide +kernel, by rw [isSubtype_type]; kernel_rfl, slot_map_init⟩
theorem typeCall_map_2 (a b : Value) : checkTypeCall "map" ⟨[a, b], []⟩ = pure () := by kernel_rfl
theorem newCall_map_2 (a b : Value) : checkBuiltinCall "map.__new__" ⟨[.type "map", a, b], []⟩ = pure () := by kernel_rfl
theorem entry_map_new : entryFor table "map.__new__" = some Builtin.«map.__new__» := entryFor_of_tree (by kernel_rfl)
theorem sub_map : isSubtype (.type "map") (.type "map") = pure true := by rw [isSubtype_type]; kernel_rfl
abbrev mapObj (T : Addr) (f : Value) : Obj := { cls := .type "map", dict := none, data := .fields #[.ref T, f], slots := #[] }
abbrev oneObj (it : Addr) : Obj := { cls := .type "tuple", data := .seq #[.ref it] }
section
variable {prog : Program} {w : World} {A : Around} {E : Value → Shared → Prop} {s : Shared}
theorem map_iter {M T : Addr} {f : Value} {Q : Value → Shared → Prop} (hm : s.heap.get? M = some (mapObj T f)) (h : Q (.ref M) s) : wpAny (model prog w) A (pyIter (.ref M)) Q E s := by
  have hT : s.TypeIs (.ref M) "map" := ⟨_, hm, rfl⟩
  refine wpAny_pyIter_slot hT slot_map_iter (wpAny_call_entry slot_map_iter hT entry_map_iter ?_ (args_map_iter _))
  show wpAny _ _ (ret (.ref M)) _ _ s
  exact wpAny_pure ⟨_, rfl, "map", _, hT, slot_map_next.lookup, h⟩
theorem sub_stop_type : isSubtype (.type "TypeError") (.type "StopIteration") = pure false := by rw [isSubtype_type]; kernel_rfl
theorem map_next_item {M T it l : Addr} {k : Nat} {xs : Array Value} {x f : Value} {Q : Value → Shared → Prop} (hm : s.heap.get? M = some (mapObj T f)) (hT : s.heap.get? T = some (oneObj it)) (hit : s.heap.IsListIter it l k) (hl : s.heap.IsList l xs) (hx : xs[k]? = some x) (hMi : M ≠ it)
    (hf : ∀ h', h'.IsListIter it l (k + 1) → Heap.SameBut it s.heap h' → wpAny (model prog w) A (call f [x]) Q E { s with heap := h' }) :
    wpAny (model prog w) A (Builtin.«map.__next__» ⟨[.ref M], []⟩) (fun fin s' => ∃ v, fin = .done (.ret v) ∧ Q v s') E s := by
  show wpAny _ _ (field (.ref M) 0 >>= _) _ _ _
  refine wpAny_bind (wpAny_field hm rfl (x := .ref T) rfl ?_)
  refine wpAny_bind (wpAny_seqItems hT rfl ?_)
  try dsimp only
  refine wpAny_bind ?_
  simp only [List.forIn_toArray, List.forIn_cons, List.forIn_nil]
  refine wpAny_bind ?_
  refine wpAny_bind (wpAny_holding (wpAny_nextOf_list_item hit hl hx fun h' hit' hs => ?_))
  refine wpAny_pure ?_
  try dsimp only
  refine wpAny_pure ?_
  try dsimp only
  have hm' : h'.get? M = some (mapObj T f) := hs.extBut _ _ hMi hm
  refine wpAny_bind (wpAny_field hm' rfl (x := f) rfl ?_)
  refine wpAny_bind (wpAny_holding ?_)
  refine wpAny_mono (hf h' hit' hs) (fun r s₂ hq => ?_) fun _ _ y => y
  refine wpAny_bind (wpAny_letGo ?_)
  exact wpAny_pure ⟨r, rfl, hq⟩
theorem map_next_end {M T it l : Addr} {k : Nat} {xs : Array Value} {f : Value} {Q : Value → Shared → Prop} (hh : A.handled = none) (hm : s.heap.get? M = some (mapObj T f)) (hT : s.heap.get? T = some (oneObj it)) (hit : s.heap.IsListIter it l k) (hl : s.heap.IsList l xs) (hx : xs[k]? = none)
    (hE : ∀ h' e, Heap.ExtBut it s.heap h' → (∃ o, h'.get? e = some o ∧ o.cls = .type "StopIteration") → E (.ref e) { s with heap := h' }) :
    wpAny (model prog w) A (Builtin.«map.__next__» ⟨[.ref M], []⟩) (fun fin s' => ∃ v, fin = .done (.ret v) ∧ Q v s') E s := by
  show wpAny _ _ (field (.ref M) 0 >>= _) _ _ _
  refine wpAny_bind (wpAny_field hm rfl (x := .ref T) rfl ?_)
  refine wpAny_bind (wpAny_seqItems hT rfl ?_)
  try dsimp only
  refine wpAny_bind ?_
  simp only [List.forIn_toArray, List.forIn_cons, List.forIn_nil]
  refine wpAny_bind ?_
  exact wpAny_bind (wpAny_holding (wpAny_nextOf_list_end hh hit hl hx hE))
end
end Mine
end
section
open PySem PySem.W PySem.Spec PySem.Calls PyProof.Rows
theorem Mine.tickMapIt3 (M : Model) (A : Around) (E : Value → Shared → Prop) (s : Shared) (env : Env) (pos : Pos) : wpAny M A (exec (.Pass pos) env) (fun _ _ => True) E s := by
  w_top off
  first | (walk1; fail) | exact wpAny_Pass trivial
end
section
open PySem PySem.W PySem.Spec PySem.Calls PyProof.Rows
namespace Mine
section
variable {prog : Program} {w : World} {A : Around} {E : Value → Shared → Prop} {s : Shared}
theorem pyNext_map_item {M T it l : Addr} {k : Nat} {xs : Array Value} {x f : Value} {Q : Option Value → Shared → Prop} (hm : s.heap.get? M = some (mapObj T f)) (hT : s.heap.get? T = some (oneObj it)) (hit : s.heap.IsListIter it l k) (hl : s.heap.IsList l xs) (hx : xs[k]? = some x) (hMi : M ≠ it)
    (hf : ∀ h', h'.IsListIter it l (k + 1) → Heap.SameBut it s.heap h' → wpAny (model prog w) A.in1 (call f [x]) (fun r s' => Q (some r) s') (fun e s' => s'.TypeIs e "TypeError" ∧ E e s') { s with heap := h' }) :
    wpAny (model prog w) A (pyNext (.ref M)) Q E s := by
  have hTy : s.TypeIs (.ref M) "map" := ⟨_, hm, rfl⟩
  unfold pyNext
  refine wpAny_bind (wpAny_attempt (wpAny_callSpecial?_slot (name := Str.ofString "__next__") hTy slot_map_next
    (wpAny_call_entry slot_map_next hTy entry_map_next (wpAny_mono (map_next_item (E := fun e s' => s'.TypeIs e "TypeError" ∧ E e s') hm hT hit hl hx hMi hf) (fun fin s' h => ?_) fun e s' h => ?_) (args_map_next _))))
  · obtain ⟨v, rfl, hq⟩ := h
    exact ⟨v, rfl, wpAny_pure hq⟩
  · refine wpAny_bind (wpAny_isInstance (T := "TypeError") (b := false) h.1 sub_stop_type ?_)
    rw [if_neg Bool.false_ne_true]
    exact wpAny_throw h.2
theorem pyNext_map_end {M T it l : Addr} {k : Nat} {xs : Array Value} {f : Value} {Q : Option Value → Shared → Prop} (hh : A.handled = none) (hm : s.heap.get? M = some (mapObj T f)) (hT : s.heap.get? T = some (oneObj it)) (hit : s.heap.IsListIter it l k) (hl : s.heap.IsList l xs) (hx : xs[k]? = none)
    (hQ : ∀ h', Heap.ExtBut it s.heap h' → Q none { s with heap := h' }) : wpAny (model prog w) A (pyNext (.ref M)) Q E s := by
  have hTy : s.TypeIs (.ref M) "map" := ⟨_, hm, rfl⟩
  unfold pyNext
  refine wpAny_bind (wpAny_attempt (wpAny_callSpecial?_slot (name := Str.ofString "__next__") hTy slot_map_next
    (wpAny_call_entry slot_map_next hTy entry_map_next (map_next_end hh hm hT hit hl hx fun h' e hk he => ?_) (args_map_next _))))
  obtain ⟨o, ho, hc⟩ := he
  refine wpAny_bind (wpAny_isInstance (T := "StopIteration") (b := true) ⟨o, ho, hc⟩ isSubtype_stop ?_)
  exact wpAny_pure (hQ _ hk)
end
end Mine
end
section
open PySem PySem.W PySem.Spec PySem.Calls PyProof.Rows
theorem Mine.tickMapIt4 (M : Model) (A : Around) (E : Value → Shared → Prop) (s : Shared) (env : Env) (pos : Pos) : wpAny M A (exec (.Pass pos) env) (fun _ _ => True) E s := by
  w_top off
  first | (walk1; fail) | exact wpAny_Pass trivial
end
section
open PySem PySem.W PySem.Spec PySem.Calls PyProof.Rows
namespace Mine
theorem meets_map_new (f : Value) (it l : Addr) (k : Nat) :
    Meets (Builtin.«map.__new__» ⟨[.type "map", f, .ref it], []⟩) (fun _ R s => s.heap.IsListIter it l k ∧
      R (.ok (.ret (.ref (s.heap.push (oneObj it)).objs.size))) { s with heap := (s.heap.push (oneObj it)).push (mapObj s.heap.objs.size f) }) :=
  .of_wp fun prog w A R s h => by
    obtain ⟨hp, g, d, tk, os⟩ := s; obtain ⟨hl1, h⟩ := h
    have hsub := sub_map
    have hL1 : Heap.IsListIter (Shared.heap ⟨hp, g, d, tk, os⟩) it l k := hl1
    wp_walk using wpAny_pyIter_listiter hL1
    exact ⟨_, rfl, h⟩
section
variable {prog : Program} {w : World} {A : Around} {E : Value → Shared → Prop} {s : Shared}
theorem call_map {f : Value} {it l : Addr} {k : Nat} {Q : Value → Shared → Prop} (hit : s.heap.IsListIter it l k)
    (h : ∀ h', h'.get? (s.heap.objs.size + 1) = some (mapObj s.heap.objs.size f) → h'.get? s.heap.objs.size = some (oneObj it) → h'.objs.size = s.heap.objs.size + 2 → s.heap.StaysIn h' → Q (.ref (s.heap.objs.size + 1)) { s with heap := h' }) :
    wpAny (model prog w) A (call (.type "map") [f, .ref it]) Q E s := by
  refine callType_new called_map (by decide) (typeCall_map_2 _ _) (newCall_map_2 _ _) (fun obj => F.args_object_init_3 obj _ _) entry_map_new (meets_map_new f it l k) ⟨hit, ?_⟩
  have z1 : (s.heap.push (oneObj it)).objs.size = s.heap.objs.size + 1 := Heap.size_push ..
  have g2 : ((s.heap.push (oneObj it)).push (mapObj s.heap.objs.size f)).get? (s.heap.push (oneObj it)).objs.size = some _ := Heap.get?_push_size _ rfl
  have g1 : ((s.heap.push (oneObj it)).push (mapObj s.heap.objs.size f)).get? s.heap.objs.size = some _ := Heap.get?_push_of_some _ (Heap.get?_push_size _ rfl)
  rw [z1] at g2
  show _ ∧ _
  rw [z1]
  exact ⟨⟨_, g2, rfl⟩, h _ g2 g1 (by rw [Heap.size_push, z1]) fun b o e => Heap.get?_push_of_some _ (Heap.get?_push_of_some _ e)⟩
end
end Mine
end
section
open PySem PySem.W PySem.Spec PySem.Calls PyProof.Rows
theorem Mine.tickMapIt5 (M : Model) (A : Around) (E : Value → Shared → Prop) (s : Shared) (env : Env) (pos : Pos) : wpAny M A (exec (.Pass pos) env) (fun _ _ => True) E s := by
  w_top off
  first | (walk1; fail) | exact wpAny_Pass trivial
end
section
open PySem PySem.W PySem.Spec PySem.Calls PyProof.Rows
namespace Mine
theorem map_no_len : typeLookup (.type "map") "__len__" = pure none := by rw [typeLookup_type, builtinLookup_eq_fast]; kernel_rfl
theorem map_no_hint : typeLookup (.type "map") "__length_hint__" = pure none := by rw [typeLookup_type, builtinLookup_eq_fast]; kernel_rfl
section
variable {prog : Program} {w : World} {A : Around} {E : Value → Shared → Prop} {s : Shared}
theorem map_hint {M T : Addr} {f : Value} {Q : Bool → Shared → Prop} (hm : s.heap.get? M = some (mapObj T f)) (h : Q true s) : wpAny (model prog w) A (Builtin.List.listLengthHint (.ref M)) Q E s := by
  have hT : s.TypeIs (.ref M) "map" := ⟨_, hm, rfl⟩
  unfold Builtin.List.listLengthHint
  refine wpAny_bind (wpAny_specialOf hT map_no_len ?_)
  show wpAny _ A (specialOf (Value.ref M) (Str.ofString "__length_hint__") >>= _) _ _ _
  refine wpAny_bind (wpAny_specialOf hT map_no_hint ?_)
  exact wpAny_pure h
theorem starts_map {M T S : Addr} {f : Value} (hne : M ≠ S) : Starts prog w A M S (.type "map") (fun s => s.heap.get? M = some (mapObj T f)) where
  ty := fun s Q E hp hq => wpAny_typeOf ⟨_, hp, rfl⟩ hq
  iter := fun s Q E hp hq => map_iter hp (hq s (fun _ _ e => e) hp)
  hint := fun s Q E hp hq => map_hint hp hq
  but := fun s h' hp k => k _ _ hne hp
end
end Mine
end
section
open PySem PySem.W PySem.Spec PySem.Calls PyProof.Rows
theorem Mine.tickEnterC (M : Model) (A : Around) (E : Value → Shared → Prop) (s : Shared) (env : Env) (pos : Pos) : wpAny M A (exec (.Pass pos) env) (fun _ _ => True) E s := by
  w_top off
  first | (walk1; fail) | exact wpAny_Pass trivial
end
section
open PySem PySem.W PySem.Spec PySem.Calls PyProof.Rows
namespace Mine
theorem code_enterC {prog : Program} {w : World} {A : Around} {s : Shared} {g₀ : Heap} {l : List Env} {led : List (Addr × Obj)} {K : Frag} {p : Program} {loose : List Str} {mean : ExcName → Option Value} {mg mb : Str → Option Value}
    {R : Result → Shared → Prop} {name qual : Str} {params : Arguments} {body : List Stmt} {scope : Scope} {dV kV doc pm cdv ct oc : Value} {an od : Option Addr} {osl : Array (Option Value)} {f : Addr} {args : Args} {binds : List (Str × Value)}
    (hA : A.frames = some l) (FF : s.heap.FunFrames g₀ l) (st : g₀.StaysIn s.heap) (X₀ : K.In g₀) (T : Top p loose mean mg mb g₀) (hl : ∀ q ∈ led, s.heap.get? q.1 = some q.2 ∧ q.1 ∉ fsOf l ∧ g₀.get? q.1 = none)
    (ho : K.lookup f = some ⟨oc, od, .func (fnOf name qual params body scope dV kV doc pm an cdv ct), osl⟩) (hcd : codeIn K cdv qual = true) (hroom : A.depth < recursionLimit)
    (hbind : BindsTo s (fnOf name qual params body scope dV kV doc pm an cdv ct) args binds) (hkind : (binds.all fun y => scope.names.lookup y.1 == some .local || scope.names.lookup y.1 == some .cell) = true)
    (hnd : ((cellsFrom 0 scope.names []).map (·.1)).Nodup)
    (h : ∀ g L' h₁ tk cells, Fr g L' h₁ (bindL (envOfC qual scope L' f cdv).kindOf binds fun _ => none) → News g L' h₁ (cells ++ led) →
      CellsAre (bindC (envOfC qual scope L' f cdv).kindOf binds fun _ => none) (cellsFrom (L' + 1) scope.names []) cells → Below A (hideAll g (fsOf l)) l g → K.In g → Top p loose mean mg mb g → s.heap.StaysIn h₁ → s.heap.get? L' = none →
      (∀ b o, s.heap.get? b = some o → (b, o) ∈ led ∨ g.get? b = some o) → (∀ q ∈ led, q.1 < L') →
      wpAny (model prog w) (A.deeper (envOfC qual scope L' f cdv)) (execs body (envOfC qual scope L' f cdv))
        (fun fl s' => R (.ok (.ret (match fl with | .ret v => v | _ => .none))) s')
        (fun e s' => wpAny (model prog w) (A.deeper (envOfC qual scope L' f cdv)) (leaving (envOfC qual scope L' f cdv) e) (fun _ s'' => R (.error e) s'') (fun e' s'' => R (.error e') s'') s')
        { s with heap := h₁, toks := tk })
    (hco : scope.isCoroutine = false) (hgen : scope.isGenerator = false) (hk : scope.kind = .function) : codeAny (model prog w) A (.call (.ref f) args) R s := by
  have nm : ∀ b o, g₀.get? b = some o → b ∉ led.map (·.1) := fun b o e q => by
    obtain ⟨p, hp, rfl⟩ := List.mem_map.mp q
    rw [(hl p hp).2.2] at e; cases e
  have st' : g₀.StaysIn (hideAll s.heap (led.map (·.1))) := fun b o e => hideAll_get _ (st b o e) (nm b o e)
  have hin : ∀ env ∈ l, ∀ a, env.frame = some a → a ∈ fsOf l := fun env he a ha => List.mem_filterMap.mpr ⟨env, he, ha⟩
  have FG : (hideAll s.heap (led.map (·.1))).FunFrames g₀ l := funFrames_hideAll FF fun env he a ha hf => by
    obtain ⟨p, hp, rfl⟩ := List.mem_map.mp ha
    exact (hl p hp).2.1 (hin env he _ hf)
  refine codeAny_call_function hroom ((X₀.keeps st) _ _ ho) rfl hco hgen rfl (codeRec_of (X₀.keeps st) hcd) (hbind _ _ _ _ ?_)
  refine wpAny_newFunctionEnv_cells hk (kindsX hkind _) fun env' he s' x => ?_
  subst he
  refine ⟨(T.nolimit.keeps st).keeps x.toInCall.keep, codeAny_func ?_⟩
  obtain ⟨h₁, tk, rfl, _⟩ := x.done
  have hk₁ := x.toInCall.keep
  obtain ⟨cells, NC, Y⟩ := Cl.news (h₀ := s.heap) (Nat.le_refl _) fun n c hm => ⟨x.cell n c (lookup_of_mem_nodup (cellsFrom_names scope.names 0 (s.heap.objs.size + 1) [] [] rfl ▸ hnd) hm), x.above n c hm⟩
  refine h (hideAll s.heap (led.map (·.1))) s.heap.objs.size h₁ tk cells ⟨x.toInCall.ns, fun b o e => hk₁ b o (of_hideAll _ e), Nat.le_of_eq (hideAll_size _ _)⟩ (fun p hp => ?_) Y
    ⟨hA, fun b o e => of_hideAll _ e, funFrames_hide FG hin⟩ (by exact X₀.keeps st') (by exact T.keeps st') (fun b o e => hk₁ b o e) (Heap.get?_none_of_le (Nat.le_refl _)) (fun b o e => ?_) (fun q hq => Heap.lt_size (hl q hq).1)
  · rcases List.mem_append.mp hp with hp | hp
    · refine ⟨(NC p hp).1, (NC p hp).2.1, ?_⟩
      cases q : (hideAll s.heap (led.map (·.1))).get? p.1 with
      | none => rfl
      | some o => have := of_hideAll _ q; rw [(NC p hp).2.2] at this; cases this
    · exact ⟨hk₁ _ _ (hl p hp).1, Nat.ne_of_lt (Heap.lt_size (hl p hp).1), hideAll_none _ (List.mem_map_of_mem hp)⟩
  · by_cases q : b ∈ led.map (·.1)
    · obtain ⟨p, hp, rfl⟩ := List.mem_map.mp q
      rw [(hl p hp).1] at e
      cases e
      exact .inl hp
    · exact .inr (hideAll_get _ e q)
end Mine
end
section
open PySem PySem.W PySem.Spec PySem.Calls PyProof.Rows
theorem Mine.tickAsks (M : Model) (A : Around) (E : Value → Shared → Prop) (s : Shared) (env : Env) (pos : Pos) : wpAny M A (exec (.Pass pos) env) (fun _ _ => True) E s := by
  w_top off
  first | (walk1; fail) | exact wpAny_Pass trivial
end
section
open PySem PySem.W PySem.Spec PySem.Calls PyProof.Rows
set_option maxHeartbeats 8000000
namespace Mine
theorem code_enterX {prog : Program} {w : World} {A : Around} {s : Shared} {g₀ : Heap} {l : List Env} {led : List (Addr × Obj)} {K : Frag} {p : Program} {loose : List Str} {mean : ExcName → Option Value} {mg mb : Str → Option Value}
    {R : Result → Shared → Prop} {name qual : Str} {params : Arguments} {body : List Stmt} {scope : Scope} {cl : List (Str × Addr)} {dV kV doc pm cdv ct : Value} {an : Option Addr} {fo : Obj} {f : Addr} {args : Args} {binds : List (Str × Value)}
    (hA : A.frames = some l) (FF : s.heap.FunFrames g₀ l) (st : g₀.StaysIn s.heap) (X₀ : K.In g₀) (T : Top p loose mean mg mb g₀) (hl : ∀ q ∈ led, s.heap.get? q.1 = some q.2 ∧ q.1 ∉ fsOf l ∧ g₀.get? q.1 = none)
    (ho : s.heap.get? f = some fo) (hfd : fo.data = .func (fnX name qual params body scope cl dV kV doc pm an cdv ct)) (hcd : s.heap.CodeRec cdv qual) (hroom : A.depth < recursionLimit)
    (hbind : BindsTo s (fnX name qual params body scope cl dV kV doc pm an cdv ct) args binds) (hloc : ∀ y ∈ binds, scope.names.lookup y.1 = some .local)
    (h : ∀ g L' h₁, Fr g L' h₁ (fun y => binds.reverse.lookup y) → News g L' h₁ led → Below A (hideAll g (fsOf l)) l g → K.In g → Top p loose mean mg mb g → s.heap.StaysIn h₁ → s.heap.get? L' = none →
      (∀ b o, s.heap.get? b = some o → (b, o) ∈ led ∨ g.get? b = some o) → (∀ q ∈ led, q.1 < L') →
      wpAny (model prog w) (A.deeper (envX qual scope L' f cdv cl)) (execs body (envX qual scope L' f cdv cl))
        (fun fl s' => R (.ok (.ret (match fl with | .ret v => v | _ => .none))) s')
        (fun e s' => wpAny (model prog w) (A.deeper (envX qual scope L' f cdv cl)) (leaving (envX qual scope L' f cdv cl) e) (fun _ s'' => R (.error e) s'') (fun e' s'' => R (.error e') s'') s')
        { s with heap := h₁, toks := s.toks + binds.length })
    (hcell : ∀ x ∈ scope.names, x.2 ≠ .cell) (hco : scope.isCoroutine = false) (hgen : scope.isGenerator = false) (hk : scope.kind = .function) : codeAny (model prog w) A (.call (.ref f) args) R s := by
  have hin : ∀ env ∈ l, ∀ a, env.frame = some a → a ∈ fsOf l := fun env he a ha => List.mem_filterMap.mpr ⟨env, he, ha⟩
  have st' : g₀.StaysIn (hideAll s.heap (led.map (·.1))) := fun b o e => hideAll_get _ (st b o e) fun q => by
    obtain ⟨p, hp, rfl⟩ := List.mem_map.mp q
    rw [(hl p hp).2.2] at e; cases e
  have FG := funFrames_hideAll (as := led.map (·.1)) FF fun env he a ha hf => by
    obtain ⟨p, hp, rfl⟩ := List.mem_map.mp ha
    exact (hl p hp).2.1 (hin env he _ hf)
  refine codeAny_call_def (fd := fnX name qual params body scope cl dV kV doc pm an cdv ct) (body := body) (binds := binds) hroom ho hfd (T.nolimit.keeps st) hcd rfl hbind hcell hloc (fun h₁ hns hk₁ => ?_) hco hgen hk
  refine h (hideAll s.heap (led.map (·.1))) s.heap.objs.size h₁ ⟨hns, fun b o e => hk₁ b o (of_hideAll _ e), Nat.le_of_eq (hideAll_size _ _)⟩
    (fun p hp => ⟨hk₁ _ _ (hl p hp).1, Nat.ne_of_lt (Heap.lt_size (hl p hp).1), hideAll_none _ (List.mem_map_of_mem hp)⟩)
    ⟨hA, fun b o e => of_hideAll _ e, funFrames_hide FG hin⟩ (by exact X₀.keeps st') (by exact T.keeps st') (fun b o e => hk₁ b o e) (Heap.get?_none_of_le (Nat.le_refl _)) (fun b o e => ?_) (fun q hq => Heap.lt_size (hl q hq).1)
  by_cases q : b ∈ led.map (·.1)
  · obtain ⟨p, hp, rfl⟩ := List.mem_map.mp q
    rw [(hl p hp).1] at e
    cases e
    exact .inl hp
  · exact .inr (hideAll_get _ e q)
def ButKept (ds : List Addr) (h h' : Heap) : Prop := ∀ b o, b ∉ ds → h.get? b = some o → h'.get? b = some o
def listAt (h : Heap) (a : Addr) (xs : List Value) : Prop := ∃ c, h.get? a = some (W.listOf xs.toArray c)
def Asks (w : World) (loose : List Str) (mean : ExcName → Option Value) (mg mb : Str → Option Value) (f la : Addr) (led : List (Addr × Obj)) (ns : List Int) : Prop :=
  ∀ (dp un : Nat) (l : List Env) (s : Shared) (g₀ : Heap) (xs : List Value) (c2 i : Nat) (tt : Tok) (n : Int) (R : Result → Shared → Prop),
    s.heap.FunFrames g₀ l → g₀.StaysIn s.heap → (hd.heap_39 w.params).In g₀ → Top noProg loose mean mg mb g₀ →
    (∀ q ∈ (la, W.listOf xs.toArray c2) :: led, s.heap.get? q.1 = some q.2 ∧ q.1 ∉ fsOf l ∧ g₀.get? q.1 = none) → ns[i]? = some n → xs.length ≤ 14 → dp + 30 < recursionLimit → un + 200 < cLine →
    (∀ b h' tk, ButKept [la] s.heap h' → listAt h' la (xs ++ [Value.int i tt]) → toldOf n = (if b then Str.ofString "yes" else Str.ofString "no") → R (.ok (.ret (.bool b))) { s with heap := h', toks := tk }) →
    (∀ e t u h₁ h' tk, ButKept [la] s.heap h₁ → listAt h₁ la (xs ++ [Value.int i tt]) → Flown l e t [.str (toldOf n) u] h₁ h' → toldOf n ≠ Str.ofString "yes" → toldOf n ≠ Str.ofString "no" → R (.error (.ref e)) { s with heap := h', toks := tk }) →
    codeAny (model PySem.Challenge.rw_kl0055_01.row.prog w) (aroundOf dp un l) (.call (.ref f) ⟨[.int i tt], []⟩) R s
theorem butKept_split {la L : Addr} {s g h : Heap} {m : Str → Option Value} {oa ob : Obj} {led : List (Addr × Obj)} (F : Fr g L h m) (N : News g L h ((la, ob) :: led)) (hs : ∀ b o, s.get? b = some o → (b, o) ∈ (la, oa) :: led ∨ g.get? b = some o) : ButKept [la] s h := fun b o nb e => by
  rcases hs b o e with q | q
  · rcases List.mem_cons.mp q with q | q
    · cases q; exact absurd (List.mem_singleton.mpr rfl) nb
    · exact (N _ (.tail _ q)).1
  · exact F.keep _ _ q
theorem ask_tail (w : World) (n : Int) (h0 : 0 ≤ n) (h1 : n < 2400) {loose : List Str} {mean : ExcName → Option Value} {mg mb : Str → Option Value} {dp un : Nat} {l : List Env} {s : Shared} {h3 g g₀ : Heap} {tk : Nat} {L la : Addr} {m : Str → Option Value} {env : Env} {led led0 : List (Addr × Obj)} {v : Value} {oa : Obj} {xs : List Value} {c : Nat}
    {Q E : Value → Shared → Prop} (I : IsThing w led v n) (F : Fr g L h3 m) (N : News g L h3 ((la, W.listOf xs.toArray c) :: led0)) (sub : ∀ p ∈ led, p ∈ led0) (hne : ∀ p ∈ led, p.1 ≠ la) (FF : s.heap.FunFrames g₀ l) (st : g₀.StaysIn s.heap) (nL : s.heap.get? L = none) (X₀ : (hd.heap_39 w.params).In g₀) (T : Top noProg loose mean mg mb g₀)
    (hl : ∀ q ∈ (la, oa) :: led0, s.heap.get? q.1 = some q.2 ∧ q.1 ∉ fsOf l ∧ g₀.get? q.1 = none) (hs : ∀ b o, s.heap.get? b = some o → (b, o) ∈ (la, oa) :: led0 ∨ g.get? b = some o)
    (hdp : dp + 21 < recursionLimit) (hun : un + 163 < cLine) (hf : env.frame = some L) (hm : env.scope.kind ≠ .module)
    (hok : ∀ b h' tk', ButKept [la] s.heap h' → listAt h' la xs → toldOf n = (if b then Str.ofString "yes" else Str.ofString "no") → Q (.bool b) { s with heap := h', toks := tk' })
    (hno : ∀ e t u h' tk', Flown (env :: l) e t [.str (toldOf n) u] h3 h' → toldOf n ≠ Str.ofString "yes" → toldOf n ≠ Str.ofString "no" → E (.ref e) { s with heap := h', toks := tk' }) :
    wpAny (model PySem.Challenge.rw_kl0055_01.row.prog w) ((aroundOf dp un l).deeper env) (call (.ref 21) [v]) Q E { s with heap := h3, toks := tk } := by
  have bk : ButKept [la] s.heap h3 := butKept_split F N hs
  have FFc : (hideAll s.heap [la]).FunFrames g₀ l := funFrames_hideAll FF fun env he a ha hf => by
    rw [List.mem_singleton] at ha
    subst ha
    exact (hl _ (.head _)).2.1 (List.mem_filterMap.mpr ⟨env, he, hf⟩)
  have stc : g₀.StaysIn (hideAll s.heap [la]) := fun b o e => hideAll_get _ (st b o e) fun q => by
    rw [List.mem_singleton] at q
    subst q
    have := (hl _ (.head _)).2.2
    rw [e] at this; cases this
  have S : (hideAll s.heap [la]).StaysIn h3 := fun b o e => bk b o (fun q => by rw [hideAll_none _ q] at e; cases e) (of_hideAll _ e)
  have nLc : (hideAll s.heap [la]).get? L = none := by
    cases q : (hideAll s.heap [la]).get? L with
    | none => rfl
    | some o => rw [of_hideAll _ q] at nL; cases nL
  have hlc : ∀ q ∈ led, (hideAll s.heap [la]).get? q.1 = some q.2 ∧ q.1 ∉ fsOf l ∧ g₀.get? q.1 = none := fun q hq => by
    have z := hl q (.tail _ (sub q hq))
    exact ⟨hideAll_get _ z.1 fun e => hne q hq (List.mem_singleton.mp e), z.2⟩
  refine wpAny_call (abs_in w n h0 h1 I (s := { s with heap := h3, toks := tk }) F (fun p hp => N p (.tail _ (sub p hp))) FFc stc S nLc X₀ T hlc hdp hun hf hm ?_ ?_)
  · intro b h' tk' hk hb
    exact hok b h' tk' (fun b o nb e => hk _ _ (bk b o nb e)) ⟨c, hk _ _ (N _ (.head _)).1⟩ hb
  · intro e t u h' tk' hf' a b
    exact hno e t u h' tk' hf' a b
end Mine
end
section
open PySem PySem.W PySem.Spec PySem.Calls PyProof.Rows
theorem Mine.tickMapRun (M : Model) (A : Around) (E : Value → Shared → Prop) (s : Shared) (env : Env) (pos : Pos) : wpAny M A (exec (.Pass pos) env) (fun _ _ => True) E s := by
  w_top off
  first | (walk1; fail) | exact wpAny_Pass trivial
end
section
open PySem PySem.W PySem.Spec PySem.Calls PyProof.Rows
set_option maxHeartbeats 2000000
namespace Mine
theorem funFrames_but {ds : List Addr} {g₀ h h' : Heap} {l : List Env} (FF : h.FunFrames g₀ l) (hd : ∀ d ∈ ds, d ∉ fsOf l) (k : ButKept ds h h') : h'.FunFrames g₀ l := by
  have F2 : (hideAll h ds).FunFrames g₀ l := funFrames_hideAll FF fun env he a ha hf => hd a ha (List.mem_filterMap.mpr ⟨env, he, hf⟩)
  refine F2.of_keeps fun b o q _ => ⟨o, k b o (fun m => ?_) (of_hideAll _ q), rfl⟩
  rw [hideAll_none _ m] at q; cases q
theorem stays_but {ds : List Addr} {g₀ h h' : Heap} (st : g₀.StaysIn h) (hd : ∀ d ∈ ds, g₀.get? d = none) (k : ButKept ds h h') : g₀.StaysIn h' := fun b o e => k b o (fun m => by rw [hd b m] at e; cases e) (st b o e)
def Calm (n : Int) : Prop := toldOf n = Str.ofString "yes" ∨ toldOf n = Str.ofString "no"
def ansOf (n : Int) : Value := .bool (toldOf n == Str.ofString "yes")
theorem ans_eq {n : Int} {b : Bool} (h : toldOf n = (if b then Str.ofString "yes" else Str.ofString "no")) : Value.bool b = ansOf n ∧ Calm n := by
  cases b
  · have h' : toldOf n = Str.ofString "no" := h
    refine ⟨?_, .inr h'⟩
    unfold ansOf
    rw [h']
    rfl
  · have h' : toldOf n = Str.ofString "yes" := h
    refine ⟨?_, .inl h'⟩
    unfold ansOf
    rw [h', beq_self_eq_true]
structure Feed (w : World) (loose : List Str) (mean : ExcName → Option Value) (mg mb : Str → Option Value) (l : List Env) (g₀ hB : Heap) (f la I M T D S : Addr) (led : List (Addr × Obj)) (ns : List Int) (ds : List Value) : Prop where
  asks : Asks w loose mean mg mb f la led ns
  ff : hB.FunFrames g₀ l
  st : g₀.StaysIn hB
  frag : (hd.heap_39 w.params).In g₀
  top : Top noProg loose mean mg mb g₀
  hl : ∀ q ∈ led, hB.get? q.1 = some q.2 ∧ q.1 ∉ fsOf l ∧ g₀.get? q.1 = none
  hlo : ∀ q ∈ led, q.1 ∉ [la, I, S]
  out : ∀ d ∈ [la, I, S], d ∉ fsOf l ∧ g₀.get? d = none
  ne1 : la ≠ I
  ne2 : la ≠ S
  ne3 : I ≠ S
  hM : hB.get? M = some (mapObj T (.ref f))
  oM : M ∉ [la, I, S]
  hT : hB.get? T = some (oneObj I)
  oT : T ∉ [la, I, S]
  hD : hB.IsList D ds.toArray
  oD : D ∉ [la, I, S]
  len : ds.length = ns.length
  few : ds.length ≤ 14
  at_ : ∀ (j : Nat), j < ds.length → ∃ t, ds[j]? = some (.int j t)
structure Run (sB : Shared) (la I S D : Addr) (ds : List Value) (k : Nat) (s : Shared) : Prop where
  same : ∃ h tk, s = { sB with heap := h, toks := tk }
  kept : ButKept [la, I, S] sB.heap s.heap
  asked : listAt s.heap la (ds.take k)
  feed : s.heap.IsListIter I D k
structure Ran (sB : Shared) (la I S : Addr) (ds : List Value) (s : Shared) : Prop where
  same : ∃ h tk, s = { sB with heap := h, toks := tk }
  kept : ButKept [la, I, S] sB.heap s.heap
  asked : listAt s.heap la ds
structure Fell (l : List Env) (sB : Shared) (la I S D : Addr) (ns : List Int) (ds : List Value) (p i : Nat) (e : Value) (s : Shared) : Prop where
  ex : ∃ (n : Int) (t er : Addr) (u : Tok) (h₁ h' : Heap) (tk : Nat), ns[p + i]? = some n ∧ ¬ Calm n ∧ e = .ref er ∧ s = { sB with heap := h', toks := tk } ∧ ButKept [la, I, S] sB.heap h₁ ∧ listAt h₁ la (ds.take (p + i + 1)) ∧ h₁.IsListIter I D (p + i + 1) ∧
    Flown l er t [.str (toldOf n) u] h₁ h'
  calm : ∀ n ∈ (ns.drop p).take i, Calm n
def accOf (ns : List Int) (p i : Nat) : List Value := ((ns.drop p).take i).map ansOf
def StR (sB : Shared) (la I S D : Addr) (ns : List Int) (ds : List Value) (p i : Nat) (acc : List Value) (s : Shared) : Prop :=
  Run sB la I S D ds (p + i) s ∧ acc = accOf ns p i ∧ (∀ n ∈ (ns.drop p).take i, Calm n) ∧ ∃ c, s.heap.get? S = some (lst acc c)
def MidR (sB : Shared) (la I S D : Addr) (ns : List Int) (ds : List Value) (p i : Nat) (acc : List Value) (x : Value) (s : Shared) : Prop :=
  Run sB la I S D ds (p + i + 1) s ∧ acc = accOf ns p i ∧ (∀ n ∈ (ns.drop p).take i, Calm n) ∧ (∃ c, s.heap.get? S = some (lst acc c)) ∧ ∃ n, ns[p + i]? = some n ∧ x = ansOf n ∧ Calm n
def DoneR (sB : Shared) (la I S : Addr) (ns : List Int) (ds : List Value) (p : Nat) (acc : List Value) (s : Shared) : Prop :=
  Ran sB la I S ds s ∧ acc = accOf ns p (ns.length - p) ∧ (∀ n ∈ ns.drop p, Calm n) ∧ ∃ c, s.heap.get? S = some (lst acc c)
theorem take_next {α : Type} {xs : List α} {p i : Nat} {x : α} (h : xs[p + i]? = some x) : (xs.drop p).take (i + 1) = (xs.drop p).take i ++ [x] := by
  rw [List.take_add_one]
  congr 1
  rw [List.getElem?_drop, h]; rfl
theorem take_one {α : Type} {xs : List α} {k : Nat} {x : α} (h : xs[k]? = some x) : xs.take k ++ [x] = xs.take (k + 1) := by
  rw [List.take_add_one, h]; rfl
theorem map_steps {w : World} {loose : List Str} {mean : ExcName → Option Value} {mg mb : Str → Option Value} {l : List Env} {g₀ : Heap} {sB : Shared} {f la I M T D S : Addr} {led : List (Addr × Obj)} {ns : List Int} {ds : List Value} {p dp un : Nat}
    (F : Feed w loose mean mg mb l g₀ sB.heap f la I M T D S led ns ds) (hp : p ≤ ns.length) (hdp : dp + 30 < recursionLimit) (hun : un + 210 < cLine) :
    Steps PySem.Challenge.rw_kl0055_01.row.prog w (aroundOf dp un l) M S (ns.length - p) (StR sB la I S D ns ds p) (MidR sB la I S D ns ds p) (DoneR sB la I S ns ds p) (Fell l sB la I S D ns ds p) where
  step := by
    intro i acc s Q E hi ⟨r, ha, hc, cS, hS⟩ hq he
    obtain ⟨⟨h, tk, rfl⟩, kept, asked, feed⟩ := r
    have hlt : p + i < ns.length := by omega
    obtain ⟨tt, hx⟩ := F.at_ (p + i) (by rw [F.len]; exact hlt)
    obtain ⟨n, hn⟩ : ∃ n, ns[p + i]? = some n := ⟨_, List.getElem?_eq_getElem hlt⟩
    have hM : h.get? M = some (mapObj T (.ref f)) := kept _ _ F.oM F.hM
    have hT : h.get? T = some (oneObj I) := kept _ _ F.oT F.hT
    have hD : h.IsList D ds.toArray := by
      obtain ⟨o, ho, r⟩ := F.hD
      exact ⟨o, kept _ _ F.oD ho, r⟩
    refine pyNext_map_item hM hT feed hD (by simpa using hx) (fun q => F.oM (by rw [q]; simp)) fun h1 feed1 hsame => ?_
    have kept1 : ButKept [la, I, S] sB.heap h1 := fun b o nb e => (hsame.2 b (fun q => nb (by rw [q]; simp))).trans (kept b o nb e)
    obtain ⟨c2, hla⟩ := asked
    have hla1 : h1.get? la = some (W.listOf (ds.take (p + i)).toArray c2) := (hsame.2 la F.ne1).trans hla
    have hS1 : h1.get? S = some (lst acc cS) := (hsame.2 S (Ne.symm F.ne3)).trans hS
    refine wpAny_call (F.asks dp (un + 1) l { sB with heap := h1, toks := tk } g₀ (ds.take (p + i)) c2 (p + i) tt n _ (funFrames_but F.ff (fun d hd => (F.out d hd).1) kept1) (stays_but F.st (fun d hd => (F.out d hd).2) kept1) F.frag F.top ?_ hn ?_ hdp (by omega) ?_ ?_)
    · intro q hq
      rcases List.mem_cons.mp hq with rfl | hq
      · exact ⟨hla1, F.out _ (by simp)⟩
      · exact ⟨kept1 _ _ (F.hlo q hq) (F.hl q hq).1, (F.hl q hq).2⟩
    · rw [List.length_take]; have := F.few; omega
    · intro b h2 tk2 k2 l2 hb
      obtain ⟨e1, e2⟩ := ans_eq hb
      have nI : I ∉ [la] := fun q => F.ne1 (List.mem_singleton.mp q).symm
      have nS : S ∉ [la] := fun q => F.ne2 (List.mem_singleton.mp q).symm
      refine hq _ _ ⟨⟨⟨h2, tk2, rfl⟩, fun b o nb e => k2 b o (fun q => nb (by rw [List.mem_singleton.mp q]; simp)) (kept1 b o nb e), ?_, ?_⟩, ha, hc, ⟨cS, k2 _ _ nS hS1⟩, n, hn, e1, e2⟩
      · rw [take_one hx] at l2; exact l2
      · obtain ⟨o, ho, r⟩ := feed1
        exact ⟨o, k2 _ _ nI ho, r⟩
    · intro e t u h₁ h' tk2 k2 l2 fl a b
      have nI : I ∉ [la] := fun q => F.ne1 (List.mem_singleton.mp q).symm
      obtain ⟨oe, ws, hoe, hoec, hoed, hoe0⟩ := fl.fly.first
      refine ⟨⟨oe, hoe, hoec⟩, he _ _ ⟨⟨n, t, e, u, h₁, h', tk2, hn, fun q => q.elim a b, rfl, rfl, fun b o nb e => k2 b o (fun q => nb (by rw [List.mem_singleton.mp q]; simp)) (kept1 b o nb e), ?_, ?_, fl⟩, hc⟩⟩
      · rw [take_one hx] at l2; exact l2
      · obtain ⟨o, ho, r⟩ := feed1
        exact ⟨o, k2 _ _ nI ho, r⟩
  last := by
    intro acc s Q E ⟨r, ha, hc, cS, hS⟩ hq
    obtain ⟨⟨h, tk, rfl⟩, kept, asked, feed⟩ := r
    have hpn : p + (ns.length - p) = ns.length := by omega
    rw [hpn] at asked feed
    have hM : h.get? M = some (mapObj T (.ref f)) := kept _ _ F.oM F.hM
    have hT : h.get? T = some (oneObj I) := kept _ _ F.oT F.hT
    have hD : h.IsList D ds.toArray := by
      obtain ⟨o, ho, r⟩ := F.hD
      exact ⟨o, kept _ _ F.oD ho, r⟩
    refine pyNext_map_end rfl hM hT feed hD (by rw [← F.len]; simp) fun h1 hx1 => ?_
    refine hq _ ⟨⟨⟨h1, tk, rfl⟩, fun b o nb e => hx1 b o (fun q => nb (by rw [q]; simp)) (kept b o nb e), ?_⟩, ha, ?_, ⟨cS, hx1 _ _ (Ne.symm F.ne3) hS⟩⟩
    · obtain ⟨c2, hla⟩ := asked
      rw [← F.len, List.take_length] at hla
      exact ⟨c2, hx1 _ _ F.ne1 hla⟩
    · rw [List.take_of_length_le (by rw [List.length_drop]; omega)] at hc
      exact hc
  here := fun i acc x s hm => hm.2.2.2.1
  push := by
    intro i acc x s hi ⟨r, ha, hc, ⟨cS, hS⟩, n, hn, hx, hcn⟩
    obtain ⟨⟨h, tk, rfl⟩, kept, asked, feed⟩ := r
    have oth : ∀ b, b ≠ S → (h.update S (Obj.mapSeq (·.push x))).get? b = h.get? b := fun b hb => Heap.get?_update_other _ _ (Ne.symm hb)
    have hS2 : (h.update S (Obj.mapSeq (·.push x))).get? S = _ := Heap.get?_update_self (Obj.mapSeq (·.push x)) hS rfl
    refine ⟨⟨⟨_, tk, rfl⟩, fun b o nb e => (oth b (fun q => nb (by rw [q]; simp))).trans (kept b o nb e), ?_, ?_⟩, ?_, ?_, ?_⟩
    · obtain ⟨c2, hla⟩ := asked
      exact ⟨c2, (oth _ F.ne2).trans hla⟩
    · obtain ⟨o, ho, r⟩ := feed
      exact ⟨o, (oth _ F.ne3).trans ho, r⟩
    · unfold accOf at ha ⊢
      rw [take_next hn, List.map_append, ha, hx]; rfl
    · rw [take_next hn]
      intro n' hn'
      rcases List.mem_append.mp hn' with hn' | hn'
      · exact hc n' hn'
      · rw [List.mem_singleton.mp hn']; exact hcn
    · exact ⟨cS + 1, hS2.trans (by simp [lst, Obj.mapSeq])⟩
end Mine
end
section
open PySem PySem.W PySem.Spec PySem.Calls PyProof.Rows
theorem Mine.tickStar (M : Model) (A : Around) (E : Value → Shared → Prop) (s : Shared) (env : Env) (pos : Pos) : wpAny M A (exec (.Pass pos) env) (fun _ _ => True) E s := by
  w_top off
  first | (walk1; fail) | exact wpAny_Pass trivial
end
section
open PySem PySem.W PySem.Spec PySem.Calls PyProof.Rows
set_option maxHeartbeats 2000000
namespace Mine
local macro_rules | `(tactic| k_all) => `(tactic| (refine' code_enter ?k1 ?k2 ?k3 ?k4 ?k5 ?kl ?k6 ?k7 ?k8 ?k9 ?kB ?_ ?c2 ?c3 ?c4 ?c5; (case k1 => exact rfl); (case k2 => assumption); (case k3 => assumption); (case k4 => k_asm); (case k5 => k_asm); (case kl => assumption); (case k6 => k_is); (case k7 => k_is); (case k8 => ktr_room); (case k9 => exact BindsTo.of_eq rfl); (case c5 => decide); (case kB => exact locs rfl); (case c2 => exact rfl); (case c3 => exact rfl); (case c4 => exact rfl); k_whole))
theorem callWith_ST {M : Model} {A : Around} {E : Value → Shared → Prop} {s : Shared} {env : Env} {pos p : Pos} {T : String} {first : List Value} {Q : Value → Shared → Prop} {e : Expr}
    (h : wpAny M A (eval e env) (fun v s₁ => StarOf M A E v (fun vs s₂ => wpAny M A (call (.type T) (first ++ vs)) Q E s₂) s₁) E s)
    (he : starEach [.Starred e p] env = [(true, eval e env)] := by rfl) :
    wpAny M A (callWith pos (.type T) first (backTo pos (starEach [.Starred e p] env)) []) Q E s := by
  rw [he]
  refine ks_call (P := fun _ => True) rfl (fun h _ => ⟨.machine, .inr (.inl rfl), fun A Q E s _ hq => wpAny_pure hq⟩) (ks_lone (wpAny_mono h (fun v s₁ h₁ => ?_) fun _ _ x => x))
  unfold StarOf at h₁ ⊢
  exact wpAny_mono h₁ (fun b s₂ h₂ => ⟨h₂.1, wpAny_mono h₂.2 (fun vs s₃ h₃ => ⟨trivial, h₃⟩) fun _ _ x => x⟩) fun _ _ x => x
local macro_rules | `(tactic| walk_at "callWith type:map") => `(tactic| ((with_reducible show wpAny _ _ (callWith _ (Value.type _) _ (backTo _ (starEach [Expr.Starred _ _] _)) []) _ _ _); refine callWith_ST ?_))
theorem map_K {prog : Program} {w : World} {A : Around} {E : Value → Shared → Prop} {s : Shared} {h₀ : Heap} {L I D : Addr} {k : Nat} {oI : Obj} {f : Value} {m : Str → Option Value} {news : List (Addr × Obj)} {Q : Value → Shared → Prop} (F : Fr h₀ L s.heap m) (N : News h₀ L s.heap news) (hp : (I, oI) ∈ news) (hc : oI.cls = .type "list_iterator") (hd : oI.data = .fields #[.ref D, .int k 0])
    (h : ∀ (M T : Addr) h', Fr h₀ L h' m → News h₀ L h' ((M, mapObj T f) :: (T, oneObj I) :: news) → s.heap.StaysIn h' → @LT.lt Nat _ T M → (∀ p ∈ news, @LT.lt Nat _ p.1 T) → Q (.ref M) { s with heap := h' }) :
    wpAny (model prog w) A (call (.type "map") [f, .ref I]) Q E s := by
  obtain ⟨oL, _, _, hL, _⟩ := id F.ns
  have fz : ∀ a : Nat, s.heap.objs.size ≤ a → h₀.get? a = none := fun a ha => by
    cases q : h₀.get? a with
    | none => rfl
    | some o => exact absurd (Heap.lt_size (F.keep _ _ q)) (Nat.not_lt.mpr ha)
  refine call_map ⟨oI, (N _ hp).1, hc, hd⟩ fun h' hM hT hz hk => h _ _ h' (F.keeps hk) ?_ hk (Nat.lt_succ_self _) (fun p hq => Heap.lt_size (N p hq).1)
  intro q hq
  rcases List.mem_cons.mp hq with rfl | hq
  · exact ⟨hM, Nat.ne_of_gt (Nat.lt_succ_of_lt (Heap.lt_size hL)), fz _ (Nat.le_succ _)⟩
  rcases List.mem_cons.mp hq with rfl | hq
  · exact ⟨hT, Nat.ne_of_gt (Heap.lt_size hL), fz _ (Nat.le_refl _)⟩
  · exact ⟨hk _ _ (N _ hq).1, (N _ hq).2⟩
theorem map_t1 : (Value.type "map" == .type "list") = false := by decide
theorem map_t2 : (Value.type "map" == .type "tuple") = false := by decide
theorem star_tail (w : World) {loose : List Str} {mean : ExcName → Option Value} {mg mb : Str → Option Value} {dp un : Nat} {l : List Env} {s : Shared} {hC g g₀ : Heap} {led : List (Addr × Obj)} {M T I f la D L : Addr} {oI oT0 : Obj} {T0 : Addr} {cL cD p : Nat} {ns : List Int} {ds : List Value} {env : Env} {m : Str → Option Value}
    {Q E : Value → Shared → Prop} (F : Fr g L s.heap m) (N : News g L s.heap ((M, mapObj T (.ref f)) :: (T, oneObj I) :: (T0, oT0) :: (I, oI) :: (la, W.listOf (ds.take p).toArray cL) :: (D, W.listOf ds.toArray cD) :: led))
    (TM : @LT.lt Nat _ T M) (lT : ∀ q ∈ (T0, oT0) :: (I, oI) :: (la, W.listOf (ds.take p).toArray cL) :: (D, W.listOf ds.toArray cD) :: led, @LT.lt Nat _ q.1 T)
    (hAsk : Asks w loose mean mg mb f la led ns) (FF : hC.FunFrames g₀ l) (st : g₀.StaysIn hC) (SS : hC.StaysIn s.heap) (nL : hC.get? L = none) (X₀ : (hd.heap_39 w.params).In g₀) (Tp : Top noProg loose mean mg mb g₀)
    (hl : ∀ q ∈ (T0, oT0) :: (I, oI) :: (la, W.listOf (ds.take p).toArray cL) :: (D, W.listOf ds.toArray cD) :: led, hC.get? q.1 = some q.2 ∧ q.1 ∉ fsOf l ∧ g₀.get? q.1 = none)
    (hI1 : oI.cls = .type "list_iterator") (hI2 : oI.data = .fields #[.ref D, .int p 0]) (ne1 : la ≠ I) (nD : D ∉ [la, I]) (nled : ∀ q ∈ led, q.1 ∉ [la, I]) (hlen : ds.length = ns.length) (few : ds.length ≤ 14) (hat : ∀ (j : Nat), j < ds.length → ∃ t, ds[j]? = some (.int j t)) (hp : p ≤ ns.length)
    (hdp : dp + 40 < recursionLimit) (hun : un + 240 < cLine) (hf : env.frame = some L) (hm : env.scope.kind ≠ .module)
    (hok : ∀ acc s', DoneR s la I s.heap.objs.size ns ds p acc s' → Q (.ref s.heap.objs.size) s')
    (hno : ∀ i er s', Fell (env :: l) s la I s.heap.objs.size D ns ds p i er s' → E er s') :
    wpAny (model PySem.Challenge.rw_kl0055_01.row.prog w) ((aroundOf dp un l).deeper env) (call (.type "list") [.ref M]) Q E s := by
  have FF1 : s.heap.FunFrames g₀ (env :: l) := Heap.FunFrames.cons hm hf F.ns (by
    cases q : g₀.get? L with
    | none => rfl
    | some o => rw [st _ _ q] at nL; cases nL) (FF.of_keeps fun b o q _ => ⟨o, SS b o q, rfl⟩)
  have sz : ∀ q ∈ (M, mapObj T (.ref f)) :: (T, oneObj I) :: (T0, oT0) :: (I, oI) :: (la, W.listOf (ds.take p).toArray cL) :: (D, W.listOf ds.toArray cD) :: led, q.1 ≠ s.heap.objs.size := fun q hq => Nat.ne_of_lt (Heap.lt_size (N q hq).1)
  have mI : (I, oI) ∈ (T0, oT0) :: (I, oI) :: (la, W.listOf (ds.take p).toArray cL) :: (D, W.listOf ds.toArray cD) :: led := .tail _ (.head _)
  have mla : (la, W.listOf (ds.take p).toArray cL) ∈ (T0, oT0) :: (I, oI) :: (la, W.listOf (ds.take p).toArray cL) :: (D, W.listOf ds.toArray cD) :: led := .tail _ (.tail _ (.head _))
  have mD : (D, W.listOf ds.toArray cD) ∈ (T0, oT0) :: (I, oI) :: (la, W.listOf (ds.take p).toArray cL) :: (D, W.listOf ds.toArray cD) :: led := .tail _ (.tail _ (.tail _ (.head _)))
  have mled : ∀ q ∈ led, q ∈ (T0, oT0) :: (I, oI) :: (la, W.listOf (ds.take p).toArray cL) :: (D, W.listOf ds.toArray cD) :: led := fun q hq => .tail _ (.tail _ (.tail _ (.tail _ hq)))
  have up : ∀ q, q ∈ (T0, oT0) :: (I, oI) :: (la, W.listOf (ds.take p).toArray cL) :: (D, W.listOf ds.toArray cD) :: led → q ∈ (M, mapObj T (.ref f)) :: (T, oneObj I) :: (T0, oT0) :: (I, oI) :: (la, W.listOf (ds.take p).toArray cL) :: (D, W.listOf ds.toArray cD) :: led := fun q hq => .tail _ (.tail _ hq)
  have offf : ∀ q ∈ (T0, oT0) :: (I, oI) :: (la, W.listOf (ds.take p).toArray cL) :: (D, W.listOf ds.toArray cD) :: led, q.1 ∉ fsOf (env :: l) := fun q hq z => by
    rw [fsOf_cons hf] at z
    rcases List.mem_cons.mp z with z | z
    · exact (N q (up q hq)).2.1 z
    · exact (hl q hq).2.1 z
  have Sout : s.heap.objs.size ∉ fsOf (env :: l) := fun z => by
    obtain ⟨_, o, ho, _⟩ := FF1.mem z
    exact absurd (Heap.lt_size ho) (Nat.lt_irrefl _)
  have Snone : g₀.get? s.heap.objs.size = none := by
    cases q : g₀.get? s.heap.objs.size with
    | none => rfl
    | some o => exact absurd (Heap.lt_size (SS _ _ (st _ _ q))) (Nat.lt_irrefl _)
  have mem3 : ∀ {a b : Addr}, a ∉ [b, I] → a ≠ s.heap.objs.size → a ∉ [b, I, s.heap.objs.size] := fun {a b} h1 h2 z => by
    rcases List.mem_cons.mp z with z | z
    · exact h1 (by rw [z]; exact .head _)
    rcases List.mem_cons.mp z with z | z
    · exact h1 (by rw [z]; exact .tail _ (.head _))
    · exact h2 (List.mem_singleton.mp z)
  have nT : ∀ {a : Addr}, @LE.le Nat _ T a → a ∉ [la, I] := fun {a} h1 z => by
    rcases List.mem_cons.mp z with z | z
    · have := lT _ mla; rw [z] at h1; exact Nat.lt_irrefl _ (Nat.lt_of_lt_of_le this h1)
    · have := lT _ mI; rw [List.mem_singleton.mp z] at h1; exact Nat.lt_irrefl _ (Nat.lt_of_lt_of_le this h1)
  have Fd : Feed w loose mean mg mb (env :: l) g₀ s.heap f la I M T D s.heap.objs.size led ns ds :=
    { asks := hAsk, ff := FF1, st := fun b o e => SS _ _ (st b o e), frag := X₀, top := Tp
      hl := fun q hq => ⟨(N q (up q (mled q hq))).1, offf q (mled q hq), (hl q (mled q hq)).2.2⟩
      hlo := fun q hq => mem3 (nled q hq) (sz q (up q (mled q hq)))
      out := fun d hd => by
        rcases List.mem_cons.mp hd with rfl | hd
        · exact ⟨offf _ mla, (hl _ mla).2.2⟩
        rcases List.mem_cons.mp hd with rfl | hd
        · exact ⟨offf _ mI, (hl _ mI).2.2⟩
        · rw [List.mem_singleton.mp hd]; exact ⟨Sout, Snone⟩
      ne1 := ne1, ne2 := sz _ (up _ mla), ne3 := sz _ (up _ mI)
      hM := (N _ (.head _)).1, oM := mem3 (nT (Nat.le_of_lt TM)) (sz _ (.head _))
      hT := (N _ (.tail _ (.head _))).1, oT := mem3 (nT (Nat.le_refl _)) (sz _ (.tail _ (.head _)))
      hD := ⟨_, (N _ (up _ mD)).1, rfl, _, rfl⟩, oD := mem3 nD (sz _ (up _ mD))
      len := hlen, few := few, at_ := hat }
  have V : Starts PySem.Challenge.rw_kl0055_01.row.prog w ((aroundOf dp un l).deeper env).in1.in1 M s.heap.objs.size (.type "map") (fun s' => s'.heap.get? M = some (mapObj T (.ref f)) ∧ Run s la I s.heap.objs.size D ds p s') :=
    { ty := fun s' Q E hp' hq => wpAny_typeOf ⟨_, hp'.1, rfl⟩ hq
      iter := fun s' Q E hp' hq => map_iter hp'.1 (hq s' (fun _ _ e => e) hp')
      hint := fun s' Q E hp' hq => map_hint hp'.1 hq
      but := fun s' h' hp' k => by
        obtain ⟨hM', ⟨h, tk, rfl⟩, kept, ⟨c, hla⟩, ⟨o, ho, r⟩⟩ := hp'
        exact ⟨k _ _ (sz _ (.head _)) hM', ⟨h', tk, rfl⟩, fun b o nb e => k b o (fun q => nb (by rw [q]; simp)) (kept b o nb e), ⟨c, k _ _ (sz _ (up _ mla)) hla⟩, ⟨o, k _ _ (sz _ (up _ mI)) ho, r⟩⟩ }
  refine call_list_it (A := (aroundOf dp un l).deeper env) (map_steps (dp := dp + 1) (un := un + 5) Fd hp (by omega) (by omega)) V (by rw [sizeLine_eq]; omega) (Heap.lt_size (N _ (.head _)).1) map_t1 map_t2 ?_ ?_ ?_ ?_
  · exact ⟨(N _ (.head _)).1, ⟨s.heap, s.toks, rfl⟩, fun b o _ e => e, ⟨cL, (N _ (up _ mla)).1⟩, ⟨oI, (N _ (up _ mI)).1, hI1, hI2⟩⟩
  · intro s' c hp' hS
    refine ⟨hp'.2, ?_, ?_, ⟨c, hS⟩⟩
    · simp [accOf]
    · simp
  · intro acc s' _ hd
    exact hok acc s' hd
  · intro i er s' _ hb
    exact hno i er s' hb
end Mine
end
section
open PySem PySem.W PySem.Spec PySem.Calls PyProof.Rows
theorem Mine.tickStarC (M : Model) (A : Around) (E : Value → Shared → Prop) (s : Shared) (env : Env) (pos : Pos) : wpAny M A (exec (.Pass pos) env) (fun _ _ => True) E s := by
  w_top off
  first | (walk1; fail) | exact wpAny_Pass trivial
end
section
open PySem PySem.W PySem.Spec PySem.Calls PyProof.Rows
set_option maxHeartbeats 2000000
namespace Mine
local macro_rules | `(tactic| k_all) => `(tactic| (refine' code_enter ?k1 ?k2 ?k3 ?k4 ?k5 ?kl ?k6 ?k7 ?k8 ?k9 ?kB ?_ ?c2 ?c3 ?c4 ?c5; (case k1 => exact rfl); (case k2 => assumption); (case k3 => assumption); (case k4 => k_asm); (case k5 => k_asm); (case kl => assumption); (case k6 => k_is); (case k7 => k_is); (case k8 => ktr_room); (case k9 => exact BindsTo.of_eq rfl); (case c5 => decide); (case kB => exact locs rfl); (case c2 => exact rfl); (case c3 => exact rfl); (case c4 => exact rfl); k_whole))
local macro_rules | `(tactic| walk_at "callWith type:map") => `(tactic| ((with_reducible show wpAny _ _ (callWith _ (Value.type _) _ (backTo _ (starEach [Expr.Starred _ _] _)) []) _ _ _); refine callWith_ST ?_))
theorem star_code (w : World) {loose : List Str} {mean : ExcName → Option Value} {mg mb : Str → Option Value} {dp un : Nat} {l : List Env} {s : Shared} {g₀ : Heap} {led : List (Addr × Obj)} {I f la D : Addr} {oI : Obj} {T0 : Addr} {c cL cD p : Nat} {ns : List Int} {ds : List Value}
    {R : Result → Shared → Prop} (FF : s.heap.FunFrames g₀ l) (st : g₀.StaysIn s.heap) (X₀ : (hd.heap_39 w.params).In g₀) (T : Top noProg loose mean mg mb g₀)
    (hl : ∀ q ∈ (T0, ({ cls := .type "tuple", data := .seq #[.ref f, .ref I] c } : Obj)) :: (I, oI) :: (la, W.listOf (ds.take p).toArray cL) :: (D, W.listOf ds.toArray cD) :: led, s.heap.get? q.1 = some q.2 ∧ q.1 ∉ fsOf l ∧ g₀.get? q.1 = none)
    (hAsk : Asks w loose mean mg mb f la led ns) (hI1 : oI.cls = .type "list_iterator") (hI2 : oI.data = .fields #[.ref D, .int p 0]) (ne1 : la ≠ I) (nD : D ∉ [la, I]) (nled : ∀ q ∈ led, q.1 ∉ [la, I]) (hlen : ds.length = ns.length) (few : ds.length ≤ 14) (hat : ∀ (j : Nat), j < ds.length → ∃ t, ds[j]? = some (.int j t)) (hp : p ≤ ns.length)
    (hdp : dp + 60 < recursionLimit) (hun : un + 400 < cLine)
    (hok : ∀ S' h' tk, ButKept [la, I] s.heap h' → listAt h' la ds → (∀ b o, s.heap.get? b = some o → @LT.lt Nat _ b S') → (∃ c, h'.get? S' = some (lst (accOf ns p (ns.length - p)) c)) → (∀ n ∈ ns.drop p, Calm n) → R (.ok (.ret (.ref S'))) { s with heap := h', toks := tk })
    (hno : ∀ (i : Nat) (n : Int) (e t : Addr) (u : Tok) (h₁ h' : Heap) (tk : Nat), ns[p + i]? = some n → ¬ Calm n → (∀ n' ∈ (ns.drop p).take i, Calm n') → ButKept [la, I] s.heap h₁ → listAt h₁ la (ds.take (p + i + 1)) → h₁.IsListIter I D (p + i + 1) →
      Flown l e t [.str (toldOf n) u] h₁ h' → R (.error (.ref e)) { s with heap := h', toks := tk }) :
    codeAny (model PySem.Challenge.rw_kl0055_01.row.prog w) (aroundOf dp un l) (.call (.ref 28) ⟨[.ref T0], []⟩) R s := by
  k_dflt k_all
  intro g' L' h3 F' N' B' X' T' S' SS' nL hs'
  try dsimp only
  try k_fold
  k_steps
  rename_i h4 F4 N4
  refine map_K F4 N4 (.tail _ (.head _)) hI1 hI2 fun M Tm h5 F5 N5 k5 TM lT => ?_
  dsimp only
  k_steps
  have S5 : s.heap.StaysIn h5 := SS' h5 F5.keep (fun p hp => N5 p (.tail _ (.tail _ hp)))
  have nS : ∀ b o, s.heap.get? b = some o → b ≠ h5.objs.size := fun b o e => Nat.ne_of_lt (Heap.lt_size (S5 b o e))
  have b3 : ∀ b, b ∉ [la, I] → b ≠ h5.objs.size → b ∉ [la, I, h5.objs.size] := fun b h1 h2 z => by
    rcases List.mem_cons.mp z with z | z
    · exact h1 (by rw [z]; exact .head _)
    rcases List.mem_cons.mp z with z | z
    · exact h1 (by rw [z]; exact .tail _ (.head _))
    · exact h2 (List.mem_singleton.mp z)
  refine star_tail w (s := { s with heap := h5, toks := tk }) (hC := s.heap) F5 N5 TM lT hAsk FF st S5 nL X₀ T hl hI1 hI2 ne1 nD nled hlen few hat hp (by omega) (by omega) rfl (show ScopeKind.function ≠ ScopeKind.module by decide) ?hok2 ?hno2
  case hok2 =>
    rintro acc s' ⟨⟨⟨h', tk', rfl⟩, kept, asked⟩, rfl, hc, hS⟩
    exact hok _ h' tk' (fun b o nb e => kept b o (b3 b nb (nS b o e)) (S5 b o e)) asked (fun b o e => Heap.lt_size (S5 b o e)) hS hc
  case hno2 =>
    rintro i er s' ⟨⟨n, t, e, u, h₁, h', tk', hn, nc, rfl, rfl, kept, asked, feed, fl⟩, hc⟩
    refine Flown.pass (h := hideAll h₁ [L']) fl rfl rfl (fun b o e => of_hideAll _ e) (hideAll_none _ (List.mem_singleton.mpr rfl)) fun h'' hf2 => ?_
    refine hno i n e t u _ h'' tk' hn nc hc (fun b o nb eb => hideAll_get _ (kept b o (b3 b nb (nS b o eb)) (S5 b o eb)) fun q => ?_) ?_ ?_ hf2
    · rw [List.mem_singleton.mp q, nL] at eb; cases eb
    · obtain ⟨c', hc'⟩ := asked
      exact ⟨c', hideAll_get _ hc' fun q => (N5 _ (.tail _ (.tail _ (.tail _ (.tail _ (.head _)))))).2.1 (List.mem_singleton.mp q)⟩
    · obtain ⟨o, ho, r⟩ := feed
      exact ⟨o, hideAll_get _ ho fun q => (N5 _ (.tail _ (.tail _ (.tail _ (.head _))))).2.1 (List.mem_singleton.mp q), r⟩
end Mine
end
section
open PySem PySem.W PySem.Spec PySem.Calls PyProof.Rows
theorem Mine.tickCatchX (M : Model) (A : Around) (E : Value → Shared → Prop) (s : Shared) (env : Env) (pos : Pos) : wpAny M A (exec (.Pass pos) env) (fun _ _ => True) E s := by
  w_top off
  first | (walk1; fail) | exact wpAny_Pass trivial
end
section
open PySem PySem.W PySem.Spec PySem.Calls PyProof.Rows
set_option maxHeartbeats 2000000
namespace Mine
section
variable {prog : Program} {w : World} {A₀ : Around} {E : Value → Shared → Prop} {s' : Shared} {g h₁ : Heap} {l : List Env} {L a e t : Addr} {m : Str → Option Value} {cn : Str} {cs : Scope} {ccd : Value} {cl : List (Str × Addr)}
  {vs : List Value} {n : Str} {b₀ : Stmt} {suite : List Stmt} {pos np : Pos} {rest : List ExceptHandler} {Q : Flow → Shared → Prop} {news : List (Addr × Obj)} {KF : Frag} {p : Program} {loose : List Str} {mean : ExcName → Option Value} {mg mb : Str → Option Value}

structure Ground (A₀ : Around) (l : List Env) (g : Heap) (L : Addr) (m : Str → Option Value) (news : List (Addr × Obj)) (h g' : Heap) : Prop where
  turn : KtsTurn (fsOf l) g g'
  fr : Fr g' L h m
  below : Below A₀ (hideAll g (fsOf l)) l g'
  news : News g' L h news
theorem ground_at {h : Heap} (cn : Str) (cs : Scope) (a : Addr) (ccd : Value) (F : Fr g L h₁ m) (N : News g L h₁ news) (B : Below A₀ (hideAll g (fsOf l)) l g) (hB : (hideAll h₁ (L :: fsOf l)).StaysIn h) (up : h₁.UpToSlots h) : ∃ g', Ground A₀ l g L m news h g' := by
  obtain ⟨g', T, F', B'⟩ := kts_ground (name := cn) (scope := cs) (L := L) (a := a) (cd := ccd) (B := hideAll h₁ (L :: fsOf l)) B F (fun b o q nm => hideAll_get _ q (by rw [← fsOf_cons (env := envOf cn cs L a ccd) rfl]; exact nm)) hB up
  refine ⟨g', T, F', B', fun q hq => ⟨hB _ _ (hideAll_get _ (N q hq).1 fun z => ?_), (N q hq).2.1, T.none_ _ (N q hq).2.2⟩⟩
  rcases List.mem_cons.mp z with z | z
  · exact (N q hq).2.1 z
  · obtain ⟨_, o, ho, _⟩ := B.frames.mem z
    rw [(N q hq).2.2] at ho; cases ho
theorem fresh_at {h : Heap} {b : Addr} {ob : Obj} (F : Fr g L h₁ m) (D : KtsDicts (fsOf l) g) (up : h₁.UpToSlots h) (hb : (hideAll h₁ (L :: fsOf l)).get? b = none) (ho : h.get? b = some ob) (hd : ∀ es n, ob.data ≠ .dict es n) : g.get? b = none := by
  cases q : g.get? b with
  | none => rfl
  | some o =>
    by_cases m : b ∈ fsOf l
    · obtain ⟨o', es, k, ho', hd'⟩ := D b m
      obtain ⟨sl, hs⟩ := up b o' (F.keep _ _ ho') (fun vs z => by rw [hd'] at z; cases z)
      rw [ho] at hs
      cases hs
      exact absurd hd' (hd es k)
    · rw [hideAll_get _ (F.keep _ _ q) fun z => by
        rcases List.mem_cons.mp z with z | z
        · rw [z, kts_self F] at q; cases q
        · exact m z] at hb
      cases hb
theorem caughtX {x : Str} {X T' : String} (fl : Flown (envX cn cs L a ccd cl :: l) e t vs h₁ s'.heap) (hX : X = "TypeError") (F : Fr g L h₁ m) (N : News g L h₁ news) (B : Below A₀ (hideAll g (fsOf l)) l g)
    (XB : KF.In (hideAll g (fsOf l))) (TB : Top p loose mean mg mb (hideAll g (fsOf l))) (D : KtsDicts (fsOf l) g)
    (ex : nsIn KF mainGlobals x = some none) (hv : bootBuiltins x = some (.type T')) (hn' : x ≠ "__name__")
    (hexc : isSubtype (.type T') (.type "BaseException") = pure true) (hnt : isSubtype (.type ((Manifest.find? T').elim "type" fun y => y.metatype)) (.type "tuple") = pure false) (hsub : isSubtype (.type X) (.type T') = pure true)
    (k : ∀ h' g' tk oe ot, KtsTurn (fsOf l) g g' → Fr g' L h' (fun y => if y = n then some (.ref e) else m y) → News g' L h' ((e, oe) :: (t, ot) :: news) → Got ((e, oe) :: (t, ot) :: news) e t (.type X) vs → Below A₀ (hideAll g (fsOf l)) l g' → KF.In g' → Top p loose mean mg mb g' → KtsDicts (fsOf l) g' →
      wpAny (model prog w) ((A₀.deeper (envX cn cs L a ccd cl)).mark (some (.ref e))) (execs (b₀ :: suite) (envX cn cs L a ccd cl))
        (fun f s₄ => wpAny (model prog w) (A₀.deeper (envX cn cs L a ccd cl)) (do bindName (envX cn cs L a ccd cl) n .none; unbindBehindTheSuite (envX cn cs L a ccd cl) n pos) (fun _ s₅ => Q f s₅) E s₄)
        (AsSuiteRaised (model prog w) ((A₀.deeper (envX cn cs L a ccd cl)).mark (some (.ref e))) (envX cn cs L a ccd cl) n pos (notedBy (model prog w) ((A₀.deeper (envX cn cs L a ccd cl)).mark (some (.ref e))) (envX cn cs L a ccd cl) (cameBackBy (model prog w) (A₀.deeper (envX cn cs L a ccd cl)) (envX cn cs L a ccd cl) E)))
        { s' with heap := h', toks := tk })
    (hk : cs.kind = .function := by rfl) (hlo : (envX cn cs L a ccd cl).kindOf n = some .local := by rfl) (hx : (envX cn cs L a ccd cl).kindOf x = some .globalImplicit := by rfl) (hd : (x == ("__debug__" : Str)) = false := by decide) :
    wpAny (model prog w) (A₀.deeper (envX cn cs L a ccd cl)) (noteFrame (.ref e) (envX cn cs L a ccd cl))
      (fun _ s₂ => wpAny (model prog w) (A₀.deeper (envX cn cs L a ccd cl)) (setFlight (.ref e) none) (fun _ s₃ =>
        wpAny (model prog w) (A₀.deeper (envX cn cs L a ccd cl)) (handleBy (.ref e) (envX cn cs L a ccd cl) (.ExceptHandler (some (.Name x np)) (some n) (b₀ :: suite) pos :: rest)) Q E s₃) E s₂) E s' := by
  subst hX
  obtain ⟨fly, tup, new, up⟩ := fl
  rw [fsOf_cons (L := L) rfl] at fly new
  refine wpAny_looks_onW (Around.frames_deeper B.stack) rfl fly fun ha held upa => wpAny_landsW held fun hb flb upb => ?_
  have up5 := up.trans (upa.trans upb)
  obtain ⟨gb, Gb⟩ := ground_at cn cs a ccd F N B flb.1 up5
  obtain ⟨ob, hob, hobc⟩ := flb.there
  refine wpAny_handleBy_builtin_as (X := "TypeError") (T := T') (b := true) hexc hnt hsub (nameX_B Gb.fr (XB.keeps Gb.below.stays) (topRead_of (TB.keeps Gb.below.stays)) ex hv hn' ⟨rfl, ⟨ob, hob, hobc⟩, ?_⟩ hk hx hd)
  refine lands_againW flb fun hc flc upc => ?_
  have up6 := up5.trans upc
  obtain ⟨gc, Gc⟩ := ground_at cn cs a ccd F N B flc.1 up6
  obtain ⟨oe, ws, hoe, hoec, hoed, hoe0⟩ := flc.first
  obtain ⟨ot, nt, hot, hotc, hotd⟩ := tup.of_slots ((upa.trans upb).trans upc)
  have ne := Gc.turn.none_ _ (fresh_at F D up6 flc.2.1 hoe fun es k q => by rw [hoed] at q; cases q)
  have nt6 := Gc.turn.none_ _ (fresh_at F D up6 new hot fun es k q => by rw [hotd] at q; cases q)
  have N6 := News.more Gc.fr (News.more Gc.fr Gc.news hot (fun es n q => by rw [hotd] at q; cases q) nt6) hoe (fun es n q => by rw [hoed] at q; cases q) ne
  refine storeX_L Gc.fr N6 (fun hd' Fd Nd => ?_) hk hlo
  exact k hd' gc _ oe ot Gc.turn Fd Nd ⟨oe, ot, ws, nt, .head _, .tail _ (.head _), hoec, hoed, hoe0, hotc, hotd⟩ Gc.below (XB.keeps Gc.below.stays) (TB.keeps Gc.below.stays) (D.turn Gc.turn)
end
end Mine
end
section
open PySem PySem.W PySem.Spec PySem.Calls PyProof.Rows
theorem Mine.tickReprB (M : Model) (A : Around) (E : Value → Shared → Prop) (s : Shared) (env : Env) (pos : Pos) : wpAny M A (exec (.Pass pos) env) (fun _ _ => True) E s := by
  w_top off
  first | (walk1; fail) | exact wpAny_Pass trivial
end
section
open PySem PySem.W PySem.Spec PySem.Calls PyProof.Rows
set_option maxHeartbeats 2000000
namespace Mine
def yesD (n : Int) : PyData := .bool (toldOf n == Str.ofString "yes")
def yesText (ns : List Int) : Str := (PyData.list (ns.map yesD)).shown
theorem shortYes {ns : List Int} : PyData.leavesShortAll 16 (ns.map yesD) = true ∧ PyData.showableAll (ns.map yesD) = true ∧ PyData.weightAll (ns.map yesD) ≤ 9 * ns.length ∧ PyData.depthAll (ns.map yesD) = 0 := by
  induction ns with
  | nil => exact ⟨rfl, rfl, Nat.le_refl _, rfl⟩
  | cons a r ih =>
    obtain ⟨i1, i2, i3, i4⟩ := ih
    simp only [List.map_cons, List.length_cons, PyData.leavesShortAll, PyData.showableAll, PyData.weightAll, PyData.depthAll]
    rw [show yesD a = PyData.bool (toldOf a == Str.ofString "yes") from rfl]
    generalize (toldOf a == Str.ofString "yes") = b
    refine ⟨?_, ?_, ?_, ?_⟩
    · rw [i1]; cases b <;> decide +kernel
    · rw [i2]; cases b <;> decide +kernel
    · have : PyData.weight (.bool b) ≤ 8 := by cases b <;> decide +kernel
      omega
    · rw [i4]; cases b <;> rfl
theorem yes_ok {ns : List Int} (h : ns.length ≤ 14) : (PyData.list (ns.map yesD)).showable = true ∧ (PyData.list (ns.map yesD)).depth ≤ 2 ∧ (PyData.list (ns.map yesD)).shown.length ≤ 100000 := by
  obtain ⟨c1, c2, c3, c4⟩ := shortYes (ns := ns)
  have key : (PyData.list (ns.map yesD)).leavesShort 16 = true ∧ (PyData.list (ns.map yesD)).showable = true ∧ (PyData.list (ns.map yesD)).depth ≤ 2 ∧ (PyData.list (ns.map yesD)).weight ≤ 3700 := by
    simp only [PyData.leavesShort, PyData.showable, PyData.depth, PyData.weight, c1, c2, c4]; exact ⟨trivial, trivial, by decide, by omega⟩
  have := PyData.shown_le 16 (by decide) _ key.1
  exact ⟨key.2.1, key.2.2.1, by omega⟩
theorem readsAll_yes {h : Heap} : ∀ ns : List Int, ReadsAll h (ns.map ansOf) (ns.map yesD) []
  | [] => .nil
  | _ :: ns => .cons (.bool _) (readsAll_yes ns)
section
variable {w : World} {A : Around} {E : Value → Shared → Prop} {s : Shared} {Q : Value → Shared → Prop} {h₀ : Heap} {L S : Addr} {led : List (Addr × Obj)} {c : Nat} {ns : List Int}
theorem repr_yes (Z : h₀.NoSeer) (N : News h₀ L s.heap led) (hm : (S, lst (ns.map ansOf) c) ∈ led) (hn : ns.length ≤ 14) (hg : A.guards = some []) (hu : A.units + 4 < cLine)
    (hQ : ∀ h' u tk, s.heap.StaysIn h' → Q (.str (yesText ns) u) { s with heap := h', toks := tk }) :
    wpAny (model PySem.Challenge.rw_kl0055_01.row.prog w) A (call (.builtin "repr") [.ref S]) Q E s := by
  obtain ⟨k1, k2, k3⟩ := yes_ok hn
  have hz : (PyData.list (ns.map yesD)).shown.length ≤ sizeLine := by rw [sizeLine_eq]; omega
  have R : Reads s.heap (.ref S) (PyData.list (ns.map yesD)) [S] := .list (N.get hm) rfl rfl (readsAll_yes ns)
  have hsm : sysModules ∉ [S] := fun q => not_sysModules Z N hm (List.mem_singleton.mp q)
  unfold yesText at hQ
  generalize hd : PyData.list (ns.map yesD) = d at *
  exact repr_of_reads' R k1 (fun _ => hsm) hg (by omega) (fun _ _ e => e) hQ hz
end
end Mine
end
section
open PySem PySem.W PySem.Spec PySem.Calls PyProof.Rows
theorem Mine.tickForOwn (M : Model) (A : Around) (E : Value → Shared → Prop) (s : Shared) (env : Env) (pos : Pos) : wpAny M A (exec (.Pass pos) env) (fun _ _ => True) E s := by
  w_top off
  first | (walk1; fail) | exact wpAny_Pass trivial
end
section
open PySem PySem.W PySem.Spec PySem.Calls PyProof.Rows
set_option maxHeartbeats 2000000
namespace Mine
def Turn (J : Nat → Shared → Prop) (R : Result → Shared → Prop) (i : Nat) (f : Flow) (s : Shared) : Prop :=
  match f with | .next => J (i + 1) s | .ret v => R (.ok (.ret v)) s | _ => False
theorem for_own {prog : Program} {w : World} {A : Around} {s : Shared} {env : Env} {x : Str} {px : Pos} {body : List Stmt} {R : Result → Shared → Prop} (J : Nat → Shared → Prop) (I : Addr) (n : Nat)
    (h0 : J 0 s) (it : ∀ i s, J i s → IsRangeIter s.heap I i ((n : Int) - i) 1) (low : ∀ i s, J i s → i < n)
    (step : ∀ i s₁ h₁ (E' : Value → Shared → Prop), J i s₁ → IsRangeIter h₁ I ((i : Int) + 1) ((n : Int) - i - 1) 1 → Heap.SameBut I s₁.heap h₁ →
      wpAny (model prog w) A (storeName env x (.int i s₁.toks)) (fun _ s₂ => wpAny (model prog w) A (execs body env) (Turn J R i) E' s₂) E' { s₁ with heap := h₁, toks := s₁.toks + 1 }) :
    codeAny (model prog w) A (.forLoop (.Name x px) (.ref I) body [] env) R s := by
  refine codeAny_forLoop (fun k s' => ∃ i, k = n - i ∧ J i s') ?_ n ⟨0, rfl, h0⟩
  rintro k s' ⟨i, rfl, hJ⟩
  have hi := low _ _ hJ
  refine wpAny_pyNext_range_item (it _ _ hJ) (by omega) fun h₁ hit hs => ?_
  refine wpAny_assign_Name ?_
  refine wpAny_mono (step i s' h₁ (notedBy (model prog w) A env fun e s' => R (.error e) s') hJ hit hs) (fun _ s₂ h₂ => ?_) fun _ _ e => e
  refine wpAny_mono h₂ (fun f s₃ h₃ => ?_) fun _ _ e => e
  cases f with
  | next => exact ⟨n - (i + 1), by have := low _ _ h₃; omega, i + 1, rfl, h₃⟩
  | ret v => exact h₃
  | brk => exact h₃.elim
  | cont => exact h₃.elim
theorem Fr.but {ds : List Addr} {g h h' : Heap} {L : Addr} {m : Str → Option Value} (F : Fr g L h m) (hd : ∀ d ∈ ds, d ≠ L ∧ g.get? d = none) (k : ButKept ds h h') : Fr g L h' m := by
  obtain ⟨oL, es, ep, hL, r⟩ := F.ns
  exact ⟨⟨oL, es, ep, k _ _ (fun q => (hd _ q).1 rfl) hL, r⟩, fun b o e => k _ _ (fun q => by rw [(hd _ q).2] at e; cases e) (F.keep b o e), F.above⟩
def calmB (n : Int) : Bool := toldOf n == Str.ofString "yes" || toldOf n == Str.ofString "no"
theorem calm_iff {n : Int} : calmB n = true ↔ Calm n := by
  unfold calmB Calm
  rw [Bool.or_eq_true, beq_iff_eq, beq_iff_eq]
def refusedOf (ns : List Int) : List Int := ns.filter fun n => !calmB n
theorem refused_more {ns : List Int} {p i : Nat} {n : Int} (hn : ns[p + i]? = some n) (nc : ¬ Calm n) (hc : ∀ n' ∈ (ns.drop p).take i, Calm n') : refusedOf (ns.take (p + i + 1)) = refusedOf (ns.take p) ++ [n] := by
  have z : ((ns.drop p).take i).filter (fun n => !calmB n) = [] := List.filter_eq_nil_iff.mpr fun a ha => by simp [calm_iff.mpr (hc a ha)]
  have y : [n].filter (fun n => !calmB n) = [n] := by
    have b : calmB n = false := Bool.eq_false_iff.mpr fun q => nc (calm_iff.mp q)
    simp [b]
  unfold refusedOf
  rw [← take_one hn, List.take_add, List.filter_append, List.filter_append, z, y, List.append_nil]
theorem refused_end {ns : List Int} {p : Nat} (hc : ∀ n' ∈ ns.drop p, Calm n') : refusedOf ns = refusedOf (ns.take p) := by
  conv => lhs; rw [← List.take_append_drop p ns]
  have z : (ns.drop p).filter (fun n => !calmB n) = [] := List.filter_eq_nil_iff.mpr fun a ha => by simp [calm_iff.mpr (hc a ha)]
  unfold refusedOf
  rw [List.filter_append, z, List.append_nil]
theorem refused_lt {ns : List Int} {p : Nat} (h : ∃ n ∈ ns, Calm n) : (refusedOf (ns.take p)).length < ns.length := by
  obtain ⟨n, hn, hc⟩ := h
  have h1 : (refusedOf (ns.take p)).length ≤ (refusedOf ns).length := ((List.take_sublist p ns).filter _).length_le
  have h2 : (refusedOf ns).length < ns.length := by
    refine Nat.lt_of_le_of_ne (List.length_filter_le _ _) fun q => ?_
    have := List.length_filter_eq_length_iff.mp q n hn
    rw [calm_iff.mpr hc] at this
    cases this
  omega
end Mine
end
section
open PySem PySem.W PySem.Spec PySem.Calls PyProof.Rows
theorem Mine.tickRunsJ (M : Model) (A : Around) (E : Value → Shared → Prop) (s : Shared) (env : Env) (pos : Pos) : wpAny M A (exec (.Pass pos) env) (fun _ _ => True) E s := by
  w_top off
  first | (walk1; fail) | exact wpAny_Pass trivial
end
section
open PySem PySem.W PySem.Spec PySem.Calls PyProof.Rows
set_option maxHeartbeats 2000000
namespace Mine
theorem funFrames_base {h base base' : Heap} (st : base'.StaysIn base) : ∀ {l : List Env}, h.FunFrames base l → h.FunFrames base' l
  | [], _ => trivial
  | env :: _, ⟨hk, ⟨L, o, hf, hn, ho, hd⟩, hr⟩ => ⟨hk, ⟨L, o, hf, (by
      cases q : base'.get? L with
      | none => rfl
      | some o' => rw [st _ _ q] at hn; cases hn), ho, hd⟩, funFrames_base st hr⟩
theorem below_self {A₀ : Around} {l : List Env} {base g : Heap} (B : Below A₀ base l g) : Below A₀ (hideAll g (fsOf l)) l g :=
  ⟨B.stack, fun b o e => of_hideAll _ e, funFrames_hide B.frames fun env he a ha => List.mem_filterMap.mpr ⟨env, he, ha⟩⟩
theorem base_next {l : List Env} {g₀ g g' : Heap} (SB : g₀.StaysIn (hideAll g (fsOf l))) (T : KtsTurn (fsOf l) g g') : g₀.StaysIn (hideAll g' (fsOf l)) := fun b o e => by
  have z := SB b o e
  have nm : b ∉ fsOf l := fun q => by rw [hideAll_none _ q] at z; cases z
  exact hideAll_get _ (T.other b o (of_hideAll _ z) nm) nm
theorem news_head {g h h' : Heap} {L a : Addr} {o o' : Obj} {rest : List (Addr × Obj)} (N : News g L h ((a, o) :: rest)) (ne : ∀ q ∈ rest, q.1 ≠ a) (hs : Heap.SameBut a h h') (ho : h'.get? a = some o') : News g L h' ((a, o') :: rest) := fun q hq => by
  rcases List.mem_cons.mp hq with rfl | hq
  · exact ⟨ho, (N _ (.head _)).2⟩
  · exact ⟨(hs.2 _ (ne q hq)).trans (N q (.tail _ hq)).1, (N q (.tail _ hq)).2⟩
theorem news_two {g h h' : Heap} {L x y : Addr} {ox ox' oy oy' : Obj} (A B : List (Addr × Obj)) {C : List (Addr × Obj)} (N : News g L h (A ++ (x, ox) :: (B ++ (y, oy) :: C))) (off : ∀ q ∈ A ++ (B ++ C), q.1 ∉ [y, x]) (k : ButKept [y, x] h h') (hx : h'.get? x = some ox') (hy : h'.get? y = some oy') :
    News g L h' (A ++ (x, ox') :: (B ++ (y, oy') :: C)) := fun q hq => by
  rcases List.mem_append.mp hq with hq | hq
  · have z := N q (List.mem_append_left _ hq)
    exact ⟨k _ _ (off q (List.mem_append_left _ hq)) z.1, z.2⟩
  rcases List.mem_cons.mp hq with rfl | hq
  · exact ⟨hx, (N _ (List.mem_append_right _ (.head _))).2⟩
  rcases List.mem_append.mp hq with hq | hq
  · have z := N q (List.mem_append_right _ (.tail _ (List.mem_append_left _ hq)))
    exact ⟨k _ _ (off q (List.mem_append_right _ (List.mem_append_left _ hq))) z.1, z.2⟩
  rcases List.mem_cons.mp hq with rfl | hq
  · exact ⟨hy, (N _ (List.mem_append_right _ (.tail _ (List.mem_append_right _ (.head _))))).2⟩
  · have z := N q (List.mem_append_right _ (.tail _ (List.mem_append_right _ (.tail _ hq))))
    exact ⟨k _ _ (off q (List.mem_append_right _ (List.mem_append_right _ hq))) z.1, z.2⟩
section
variable {A₀ : Around} {l : List Env} {g₀ g h : Heap} {L : Addr} {m : Str → Option Value} {led : List (Addr × Obj)} {env : Env}
theorem hl_of (N : News g L h led) (B : Below A₀ (hideAll g (fsOf l)) l g) (SB : g₀.StaysIn (hideAll g (fsOf l))) (hf : env.frame = some L) : ∀ q ∈ led, h.get? q.1 = some q.2 ∧ q.1 ∉ fsOf (env :: l) ∧ g₀.get? q.1 = none := fun q hq => by
  obtain ⟨n1, n2, n3⟩ := N q hq
  refine ⟨n1, fun z => ?_, ?_⟩
  · rw [fsOf_cons hf] at z
    rcases List.mem_cons.mp z with z | z
    · exact n2 z
    · obtain ⟨_, o, ho, _⟩ := B.frames.mem z
      rw [n3] at ho; cases ho
  · cases e : g₀.get? q.1 with
    | none => rfl
    | some o => rw [of_hideAll _ (SB _ _ e)] at n3; cases n3
theorem ff_of (F : Fr g L h m) (B : Below A₀ (hideAll g (fsOf l)) l g) (SB : g₀.StaysIn (hideAll g (fsOf l))) (hf : env.frame = some L) (hm : env.scope.kind ≠ .module) : h.FunFrames g₀ (env :: l) :=
  Heap.FunFrames.cons hm hf F.ns (by
    cases e : g₀.get? L with
    | none => rfl
    | some o => have := of_hideAll _ (SB _ _ e); rw [kts_self F] at this; cases this) (funFrames_base SB (B.frames.of_keeps fun b o q _ => ⟨o, F.keep b o q, rfl⟩))
end
theorem star_call (w : World) {loose : List Str} {mean : ExcName → Option Value} {mg mb : Str → Option Value} {dp un : Nat} {l : List Env} {s : Shared} {g g₀ : Heap} {L : Addr} {m : Str → Option Value} {env : Env} {led all : List (Addr × Obj)} {I f la D : Addr} {oI : Obj} {T0 : Addr} {c cL cD p : Nat} {ns : List Int} {ds : List Value}
    {Q E : Value → Shared → Prop} (F : Fr g L s.heap m) (N : News g L s.heap all) (sub : ∀ q ∈ (T0, ({ cls := .type "tuple", data := .seq #[.ref f, .ref I] c } : Obj)) :: (I, oI) :: (la, W.listOf (ds.take p).toArray cL) :: (D, W.listOf ds.toArray cD) :: led, q ∈ all)
    (B : Below (aroundOf dp un l) (hideAll g (fsOf l)) l g) (SB : g₀.StaysIn (hideAll g (fsOf l))) (X₀ : (hd.heap_39 w.params).In g₀) (T : Top noProg loose mean mg mb g₀)
    (hAsk : Asks w loose mean mg mb f la led ns) (hI1 : oI.cls = .type "list_iterator") (hI2 : oI.data = .fields #[.ref D, .int p 0]) (ne1 : la ≠ I) (nD : D ∉ [la, I]) (nled : ∀ q ∈ led, q.1 ∉ [la, I]) (hlen : ds.length = ns.length) (few : ds.length ≤ 14) (hat : ∀ (j : Nat), j < ds.length → ∃ t, ds[j]? = some (.int j t)) (hp : p ≤ ns.length)
    (hdp : dp + 70 < recursionLimit) (hun : un + 420 < cLine) (hf : env.frame = some L) (hm : env.scope.kind ≠ .module)
    (hok : ∀ S' h' tk, ButKept [la, I] s.heap h' → listAt h' la ds → (∀ b o, s.heap.get? b = some o → @LT.lt Nat _ b S') → (∃ c, h'.get? S' = some (lst (accOf ns p (ns.length - p)) c)) → (∀ n ∈ ns.drop p, Calm n) → Q (.ref S') { s with heap := h', toks := tk })
    (hno : ∀ (i : Nat) (n : Int) (e t : Addr) (u : Tok) (h₁ h' : Heap) (tk : Nat), ns[p + i]? = some n → ¬ Calm n → (∀ n' ∈ (ns.drop p).take i, Calm n') → ButKept [la, I] s.heap h₁ → listAt h₁ la (ds.take (p + i + 1)) → h₁.IsListIter I D (p + i + 1) →
      Flown (env :: l) e t [.str (toldOf n) u] h₁ h' → E (.ref e) { s with heap := h', toks := tk }) :
    wpAny (model PySem.Challenge.rw_kl0055_01.row.prog w) ((aroundOf dp un l).deeper env) (call (.ref 28) [.ref T0]) Q E s := by
  refine wpAny_call (star_code w (dp := dp + 1) (un := un + 3) (l := env :: l) (g₀ := g₀) (ff_of F B SB hf hm) (fun b o e => F.keep _ _ (of_hideAll _ (SB b o e))) X₀ T (fun q hq => hl_of N B SB hf q (sub q hq)) hAsk hI1 hI2 ne1 nD nled hlen few hat hp (by omega) (by omega) ?_ ?_)
  · intro S' h' tk a b c d e
    exact hok S' h' tk a b c d e
  · intro i n e t u h₁ h' tk a b c d x y z
    exact hno i n e t u h₁ h' tk a b c d x y z
abbrev rngObj (i n : Nat) : Obj := { cls := .type "range_iterator", dict := none, data := .fields #[rawInt (i : Int), rawInt ((n : Int) - i), rawInt 1], slots := #[] }
def RunsJ (dp un : Nat) (l : List Env) (sB : Shared) (g₀ g0 : Heap) (L Ir lo I D la f : Addr) (mid tl : List (Addr × Obj)) (ns : List Int) (ds : List Value) (cD : Nat) (i : Nat) (s : Shared) : Prop :=
  ∃ (g h : Heap) (tk p : Nat) (outs : List Value) (oI : Obj) (cL co : Nat) (u : Str → Option Value), s = { sB with heap := h, toks := tk } ∧ KtsTurn (fsOf l) g0 g ∧
    Fr g L h (fun y => if y = Str.ofString "outcomes" then some (.ref lo) else if y = Str.ofString "feed" then some (.ref I) else if y = Str.ofString "_law_ask" then some (.ref f) else u y) ∧
    News g L h ((Ir, rngObj i ns.length) :: (lo, W.listOf outs.toArray co) :: (I, oI) :: (D, W.listOf ds.toArray cD) :: (mid ++ (la, W.listOf (ds.take p).toArray cL) :: tl)) ∧
    Below (aroundOf dp un l) (hideAll g (fsOf l)) l g ∧ g₀.StaysIn (hideAll g (fsOf l)) ∧ KtsDicts (fsOf l) g ∧ oI.cls = .type "list_iterator" ∧ oI.data = .fields #[.ref D, .int p 0] ∧ p ≤ ns.length ∧
    StrsAre outs ((refusedOf (ns.take p)).map toldOf) ∧ (refusedOf (ns.take p)).length = i ∧ (p = 0 ∨ ∃ n, ns[p - 1]? = some n ∧ ¬ Calm n)
theorem off2 {a x y : Addr} (h1 : a ≠ x) (h2 : a ≠ y) : a ∉ [x, y] := fun z => by
  rcases List.mem_cons.mp z with z | z
  · exact h1 z
  · exact h2 (List.mem_singleton.mp z)
theorem places_at {ds : List Value} {n : Nat} (hI : IntsAre ds (rangeKs 0 ((n : Int) - 0).toNat)) : ds.length = n ∧ ∀ (j : Nat), j < ds.length → ∃ t, ds[j]? = some (.int j t) := by
  have e : ((n : Int) - 0).toNat = n := by omega
  rw [e] at hI
  have hl : ds.length = n := hI.length.trans (rangeKs_length ..)
  refine ⟨hl, fun j hj => hI.get j j ?_⟩
  unfold rangeKs
  rw [List.getElem?_map, List.getElem?_range (by omega)]
  simp
theorem news_after {g h h' : Heap} {L la I S : Addr} {oS oa oa' : Obj} {m : Str → Option Value} {all led' : List (Addr × Obj)} (F : Fr g L h m) (N : News g L h all) (k : ButKept [la, I] h h') (hS : h'.get? S = some oS) (lS : ∀ b o, h.get? b = some o → @LT.lt Nat _ b S)
    (mla : (la, oa) ∈ all) (hla : h'.get? la = some oa') (sub : ∀ q ∈ led', q ∈ all ∧ q.1 ∉ [la, I]) : News g L h' ((S, oS) :: (la, oa') :: led') := fun q hq => by
  rcases List.mem_cons.mp hq with rfl | hq
  · obtain ⟨oL, _, _, hL, _⟩ := F.ns
    refine ⟨hS, Nat.ne_of_gt (lS _ _ hL), ?_⟩
    cases e : g.get? S with
    | none => rfl
    | some o => exact absurd (lS _ _ (F.keep _ _ e)) (Nat.lt_irrefl _)
  rcases List.mem_cons.mp hq with rfl | hq
  · exact ⟨hla, (N _ mla).2⟩
  · exact ⟨k _ _ (sub q hq).2 (N q (sub q hq).1).1, (N q (sub q hq).1).2⟩
theorem acc_all {ns : List Int} {p : Nat} : accOf ns p (ns.length - p) = (ns.drop p).map ansOf := by
  unfold accOf
  rw [List.take_of_length_le (by rw [List.length_drop]; omega)]
theorem strs_more {outs : List Value} {ws : List Str} (h : StrsAre outs ws) (w : Str) (u : Tok) : StrsAre (outs ++ [.str w u]) (ws ++ [w]) := strsAre_append h (.cons w u .nil)
theorem nameX_goes {M : Model} {A : Around} {E : Value → Shared → Prop} {s : Shared} {cn : Str} {cs : Scope} {L a : Addr} {ccd : Value} {cl : List (Str × Addr)} {h₀ : Heap} {m : Str → Option Value} {news : List (Addr × Obj)} {n : Str} {pos : Pos} {Q : Unit → Shared → Prop} (F : Fr h₀ L s.heap m) (N : News h₀ L s.heap news)
    (h : ∀ h' v, Fr h₀ L h' (fun x => if x = n then v else m x) → News h₀ L h' news → Q () { s with heap := h', toks := s.toks + 1 })
    (hk : cs.kind = .function := by rfl) (hl : (envX cn cs L a ccd cl).kindOf n = some .local := by rfl) :
    wpAny M A (do bindName (envX cn cs L a ccd cl) n .none; unbindBehindTheSuite (envX cn cs L a ccd cl) n pos) Q E s :=
  wpAny_nameGoes_keeps hl F.ns (by show (cs.kind == .class || (cs.kind == .module && L != mainGlobals)) = false; rw [hk]; rfl) fun h' v hn hs => h h' v (F.set hn hs) (N.set hs)
theorem Fr.three {g h : Heap} {L : Addr} {m : Str → Option Value} {a b c : Str} {va vb vc : Value} (F : Fr g L h m) (ha : m a = some va) (hb : m b = some vb) (hc : m c = some vc) :
    Fr g L h (fun y => if y = a then some va else if y = b then some vb else if y = c then some vc else m y) := by
  have e : (fun y => if y = a then some va else if y = b then some vb else if y = c then some vc else m y) = m := by
    funext y
    by_cases ea : y = a
    · subst ea; rw [if_pos rfl, ha]
    rw [if_neg ea]
    by_cases eb : y = b
    · subst eb; rw [if_pos rfl, hb]
    rw [if_neg eb]
    by_cases ec : y = c
    · subst ec; rw [if_pos rfl, hc]
    rw [if_neg ec]
  rw [e]; exact F
theorem rng_next {i n : Nat} : ({ cls := .type "range_iterator", dict := none, data := .fields #[rawInt ((i : Int) + 1), rawInt ((n : Int) - i - 1), rawInt 1], slots := #[] } : Obj) = rngObj (i + 1) n := by
  have e : (n : Int) - i - 1 = (n : Int) - ((i + 1 : Nat) : Int) := by omega
  unfold rngObj
  rw [e]
  rfl
abbrev litObj (l : Addr) (i : Nat) : Obj := { cls := .type "list_iterator", data := .fields #[.ref l, .int i 0] }
theorem iter_list {prog : Program} {w : World} {A : Around} {E : Value → Shared → Prop} {s : Shared} {h₀ : Heap} {L l : Addr} {xs : Array Value} {c : Nat} {m : Str → Option Value} {news : List (Addr × Obj)} {Q : Value → Shared → Prop} (F : Fr h₀ L s.heap m) (N : News h₀ L s.heap news) (hp : (l, W.listOf xs c) ∈ news)
    (h : ∀ (I : Addr) h', Fr h₀ L h' m → News h₀ L h' ((I, litObj l 0) :: news) → (∀ p ∈ news, p.1 < I) → s.heap.StaysIn h' → @LT.lt Nat _ L I → Q (.ref I) { s with heap := h' }) :
    wpAny (model prog w) A (call (.builtin "iter") [.ref l]) Q E s := by
  refine call_function_entry (by decide +kernel) (by decide +kernel) kdk_entry_iter (kdk_args_iter _) ?_
  unfold Builtin.«iter»
  refine wpAny_bind (m := someArgs "iter" 1 2 _) (wpAny_of_eq (a := [Value.ref l]) (by first | rfl | kernel_rfl!) ?_)
  show wpAny _ _ (pyIter (.ref l) >>= _) _ _ _
  refine wpAny_bind (wpAny_pyIter_list (News.isList N hp) ?_)
  refine wpAny_pure ⟨_, rfl, h _ _ (F.push _) (News.push F N _ rfl) (fun q hq => Heap.lt_size (N q hq).1) (fun b o e => Heap.get?_push_of_some _ e) ?_⟩
  obtain ⟨oL, _, _, hL, _⟩ := F.ns
  exact Heap.lt_size hL
end Mine
end
section
open PySem PySem.W PySem.Spec PySem.Calls PyProof.Rows
theorem Mine.tickNextIt (M : Model) (A : Around) (E : Value → Shared → Prop) (s : Shared) (env : Env) (pos : Pos) : wpAny M A (exec (.Pass pos) env) (fun _ _ => True) E s := by
  w_top off
  first | (walk1; fail) | exact wpAny_Pass trivial
end
section
open PySem PySem.W PySem.Spec PySem.Calls PyProof.Rows
set_option maxHeartbeats 2000000
namespace Mine
section
variable {prog : Program} {w : World} {A : Around} {E : Value → Shared → Prop} {s : Shared}
theorem lit_item {it l : Addr} {i : Nat} {items : Array Value} {x : Value} {Q : Option Value → Shared → Prop} (hit : s.heap.IsListIter it l i) (hl : s.heap.IsList l items) (hx : items[i]? = some x)
    (hQ : ∀ h', h'.IsListIter it l (i + 1) → Heap.SameBut it s.heap h' → Q (some x) { s with heap := h' }) : wpAny (model prog w) A (callSpecial? (.ref it) (Str.ofString "__next__")) Q E s := by
  obtain ⟨o, ho, hc, hd⟩ := id hit
  obtain ⟨ol, hol, _, nl, hdl⟩ := hl
  refine wpAny_callSpecial?_slot (name := Str.ofString "__next__") hit.typeIs slot_listiter_next (wpAny_call_entry slot_listiter_next hit.typeIs entry_listiter_next ?_ (args_listiter_next _))
  show wpAny _ _ (field (.ref it) 0 >>= _) _ _ s
  refine wpAny_bind (wpAny_field ho hd (x := .ref l) rfl ?_)
  show wpAny _ _ (if (Value.ref l == Value.none) = true then _ else _) _ _ s
  rw [if_neg (show ¬ ((Value.ref l == Value.none) = true) from Bool.false_ne_true)]
  show wpAny _ _ (field (.ref it) 1 >>= _) _ _ s
  refine wpAny_bind (wpAny_field ho hd (x := .int i 0) rfl ?_)
  show wpAny _ _ (seqItems? (.ref l) >>= _) _ _ s
  refine wpAny_bind (wpAny_seqItems hol hdl ?_)
  simp only [Int.toNat_natCast, hx]
  refine wpAny_bind (wpAny_setField ho hd (by simp) (wpAny_pure ⟨x, rfl, hQ _ ?_ (Heap.SameBut.update ..)⟩))
  exact ⟨_, Heap.get?_update_self _ ho (Obj.isFreed_of_fields (Obj.data_mapFields hd _)), (Obj.cls_mapFields ..).trans hc, by
    rw [Obj.data_mapFields hd]; simp [rawInt]⟩
theorem lit_end {it l : Addr} {i : Nat} {items : Array Value} {Q : Option Value → Shared → Prop} (hh : A.handled = none) (hit : s.heap.IsListIter it l i) (hl : s.heap.IsList l items) (hx : items[i]? = none)
    (hE : ∀ h1 h' e, Heap.SameBut it s.heap h1 → Heap.MadeExcOf h1 h' e (.type "StopIteration") [] → E (.ref e) { s with heap := h' }) : wpAny (model prog w) A (callSpecial? (.ref it) (Str.ofString "__next__")) Q E s := by
  obtain ⟨o, ho, hc, hd⟩ := id hit
  obtain ⟨ol, hol, _, nl, hdl⟩ := hl
  refine wpAny_callSpecial?_slot (name := Str.ofString "__next__") hit.typeIs slot_listiter_next (wpAny_call_entry slot_listiter_next hit.typeIs entry_listiter_next ?_ (args_listiter_next _))
  show wpAny _ _ (field (.ref it) 0 >>= _) _ _ s
  refine wpAny_bind (wpAny_field ho hd (x := .ref l) rfl ?_)
  show wpAny _ _ (if (Value.ref l == Value.none) = true then _ else _) _ _ s
  rw [if_neg (show ¬ ((Value.ref l == Value.none) = true) from Bool.false_ne_true)]
  show wpAny _ _ (field (.ref it) 1 >>= _) _ _ s
  refine wpAny_bind (wpAny_field ho hd (x := .int i 0) rfl ?_)
  show wpAny _ _ (seqItems? (.ref l) >>= _) _ _ s
  refine wpAny_bind (wpAny_seqItems hol hdl ?_)
  simp only [Int.toNat_natCast, hx]
  refine wpAny_bind (wpAny_rule (wpAny_bind (wpAny_setField ho hd (by simp) ?_)))
  show wpAny _ _ (newExc (.type "StopIteration") [] >>= _) _ _ _
  refine wpAny_bind ?_
  simp only [newExc, newTuple]
  refine wpAny_bind (wpAny_newObj_type ?_ (by size_fits))
  refine wpAny_bind (m := firstArgMember _ _) (wpAny_of_eq (a := Value.none) (by first | rfl | (simp only [firstArgMember]; rfl)) ?_)
  refine wpAny_newObj_type ?_ (by size_fits)
  simp only [raiseNew]
  refine wpAny_bind (wpAny_handled ?_)
  first | rw [show A.in1.handled = none from hh] | rw [hh]
  refine wpAny_bind (wpAny_pure (wpAny_throw ?_))
  refine hE _ _ _ (Heap.SameBut.update ..) ⟨fun b o e => Heap.get?_push_of_some _ (Heap.get?_push_of_some _ e), ?_, _, Heap.get?_push_size _ rfl, Heap.get?_none_of_le (Nat.le_refl _), Heap.get?_push_of_some _ (Heap.get?_push_size _ rfl)⟩
  exact Heap.get?_none_of_le (by rw [Heap.size_push]; exact Nat.le_succ _)
theorem next_item {it l : Addr} {i : Nat} {items : Array Value} {x : Value} {Q : Value → Shared → Prop} (hit : s.heap.IsListIter it l i) (hl : s.heap.IsList l items) (hx : items[i]? = some x)
    (hQ : ∀ h', h'.IsListIter it l (i + 1) → Heap.SameBut it s.heap h' → Q x { s with heap := h' }) : wpAny (model prog w) A (call (.builtin "next") [.ref it]) Q E s := by
  refine call_function_entry (by decide +kernel) (by decide +kernel) kdk_entry_next (kdk_args_next _) ?_
  unfold Builtin.«next»
  refine wpAny_bind (m := someArgs "next" 1 2 _) (wpAny_of_eq (a := [Value.ref it]) (by first | rfl | kernel_rfl!) ?_)
  dsimp only
  refine wpAny_bind (wpAny_specialOf (name := Str.ofString "__next__") hit.typeIs slot_listiter_next.lookup ?_)
  refine wpAny_ite_split (fun hab => absurd hab (by decide)) (fun _ => ?_)
  refine wpAny_bind (lit_item hit hl hx fun h' a b => ?_)
  exact wpAny_pure ⟨_, rfl, hQ h' a b⟩
theorem next_end {it l : Addr} {i : Nat} {items : Array Value} {Q : Value → Shared → Prop} (hh : A.handled = none) (hit : s.heap.IsListIter it l i) (hl : s.heap.IsList l items) (hx : items[i]? = none)
    (hE : ∀ h1 h' e, Heap.SameBut it s.heap h1 → Heap.MadeExcOf h1 h' e (.type "StopIteration") [] → E (.ref e) { s with heap := h' }) : wpAny (model prog w) A (call (.builtin "next") [.ref it]) Q E s := by
  refine call_function_entry (by decide +kernel) (by decide +kernel) kdk_entry_next (kdk_args_next _) ?_
  unfold Builtin.«next»
  refine wpAny_bind (m := someArgs "next" 1 2 _) (wpAny_of_eq (a := [Value.ref it]) (by first | rfl | kernel_rfl!) ?_)
  dsimp only
  refine wpAny_bind (wpAny_specialOf (name := Str.ofString "__next__") hit.typeIs slot_listiter_next.lookup ?_)
  refine wpAny_ite_split (fun hab => absurd hab (by decide)) (fun _ => ?_)
  exact wpAny_bind (lit_end hh hit hl hx hE)
end
structure Stopped (l : List Env) (e : Addr) (h h' : Heap) : Prop where
  fly : ∃ t, Heap.FlyingW (hideAll h (fsOf l)) l e (.type "StopIteration") (.ref t) h'
  up : h.UpToSlots h'
theorem Stopped.raised {M : Model} {A : Around} {E : Value → Shared → Prop} {Q : Unit → Shared → Prop} {l : List Env} {env : Env} {e L : Addr} {h h₁ g₀ : Heap} {m : Str → Option Value} {s : Shared}
    (hx : Heap.MadeExcOf h₁ s.heap e (.type "StopIteration") []) (hA : A.frames = some (env :: l)) (hf : env.frame = some L) (hm : env.scope.kind ≠ .module) (hn : h₁.Ns L m) (FF : h.FunFrames g₀ l) (hk : h.StaysIn h₁) (hL : h.get? L = none)
    (hQ : ∀ h', Stopped l e h h' → Q () { s with heap := h' }) : wpAny M A (leaving env (.ref e)) Q E s := by
  have st : (hideAll h (fsOf l)).StaysIn h₁ := fun b o q => hk b o (of_hideAll _ q)
  have hin : ∀ env ∈ l, ∀ a, env.frame = some a → a ∈ fsOf l := fun env he a ha => List.mem_filterMap.mpr ⟨env, he, ha⟩
  have FF' : h₁.FunFrames (hideAll h (fsOf l)) (env :: l) := by
    refine Heap.FunFrames.cons hm hf hn ?_ ?_
    · cases q : (hideAll h (fsOf l)).get? L with
      | none => rfl
      | some o => rw [of_hideAll _ q] at hL; cases hL
    · have F2 : h.FunFrames (hideAll h (fsOf l)) l := funFrames_hide FF hin
      exact F2.of_keeps fun b o q _ => ⟨o, hk b o q, rfl⟩
  refine wpAny_leaves_madeW hA hf st FF' hx fun h' t f1 f2 f3 f4 => hQ h' ⟨⟨t, f1⟩, ((Heap.UpToSlots.of_keeps hk).trans (Heap.UpToSlots.of_keeps hx.keeps)).trans f4⟩
end Mine
end
section
open PySem PySem.W PySem.Spec PySem.Calls PyProof.Rows
theorem Mine.tickNextC (M : Model) (A : Around) (E : Value → Shared → Prop) (s : Shared) (env : Env) (pos : Pos) : wpAny M A (exec (.Pass pos) env) (fun _ _ => True) E s := by
  w_top off
  first | (walk1; fail) | exact wpAny_Pass trivial
end
section
open PySem PySem.W PySem.Spec PySem.Calls PyProof.Rows
set_option maxHeartbeats 2000000
namespace Mine
theorem abs_tail (w : World) (n : Int) (h0 : 0 ≤ n) (h1 : n < 2400) (calm : Calm n) {loose : List Str} {mean : ExcName → Option Value} {mg mb : Str → Option Value} {dp un : Nat} {l : List Env} {s : Shared} {h3 g g₀ : Heap} {tk : Nat} {L a : Addr} {m : Str → Option Value} {env : Env} {led led0 : List (Addr × Obj)} {v : Value} {oa ob : Obj}
    {Q E : Value → Shared → Prop} (I : IsThing w led v n) (F : Fr g L h3 m) (N : News g L h3 ((a, ob) :: led0)) (sub : ∀ p ∈ led, p ∈ led0) (hne : ∀ p ∈ led, p.1 ≠ a) (FF : s.heap.FunFrames g₀ l) (st : g₀.StaysIn s.heap) (nL : s.heap.get? L = none) (X₀ : (hd.heap_39 w.params).In g₀) (T : Top noProg loose mean mg mb g₀)
    (hl : ∀ q ∈ (a, oa) :: led0, s.heap.get? q.1 = some q.2 ∧ q.1 ∉ fsOf l ∧ g₀.get? q.1 = none) (hs : ∀ b o, s.heap.get? b = some o → (b, o) ∈ (a, oa) :: led0 ∨ g.get? b = some o)
    (hdp : dp + 21 < recursionLimit) (hun : un + 163 < cLine) (hf : env.frame = some L) (hm : env.scope.kind ≠ .module)
    (hok : ∀ h' tk', ButKept [a] s.heap h' → h'.get? a = some ob → Q (ansOf n) { s with heap := h', toks := tk' }) :
    wpAny (model PySem.Challenge.rw_kl0055_01.row.prog w) ((aroundOf dp un l).deeper env) (call (.ref 21) [v]) Q E { s with heap := h3, toks := tk } := by
  have bk : ButKept [a] s.heap h3 := butKept_split F N hs
  have FFc : (hideAll s.heap [a]).FunFrames g₀ l := funFrames_hideAll FF fun env he b hb hf => by
    rw [List.mem_singleton] at hb
    subst hb
    exact (hl _ (.head _)).2.1 (List.mem_filterMap.mpr ⟨env, he, hf⟩)
  have stc : g₀.StaysIn (hideAll s.heap [a]) := fun b o e => hideAll_get _ (st b o e) fun q => by
    rw [List.mem_singleton] at q
    subst q
    have := (hl _ (.head _)).2.2
    rw [e] at this; cases this
  have S : (hideAll s.heap [a]).StaysIn h3 := fun b o e => bk b o (fun q => by rw [hideAll_none _ q] at e; cases e) (of_hideAll _ e)
  have nLc : (hideAll s.heap [a]).get? L = none := by
    cases q : (hideAll s.heap [a]).get? L with
    | none => rfl
    | some o => rw [of_hideAll _ q] at nL; cases nL
  have hlc : ∀ q ∈ led, (hideAll s.heap [a]).get? q.1 = some q.2 ∧ q.1 ∉ fsOf l ∧ g₀.get? q.1 = none := fun q hq => by
    have z := hl q (.tail _ (sub q hq))
    exact ⟨hideAll_get _ z.1 fun e => hne q hq (List.mem_singleton.mp e), z.2⟩
  refine wpAny_call (abs_in w n h0 h1 I (s := { s with heap := h3, toks := tk }) F (fun p hp => N p (.tail _ (sub p hp))) FFc stc S nLc X₀ T hlc hdp hun hf hm ?_ ?_)
  · intro b h' tk' hk hb
    rw [(ans_eq hb).1]
    exact hok h' tk' (fun b o nb e => hk _ _ (bk b o nb e)) (hk _ _ (N _ (.head _)).1)
  · intro e t u h' tk' hf' q1 q2
    exact (calm.elim q1 q2).elim
theorem MethodCall_star {M : Model} {A : Around} {E : Value → Shared → Prop} {s : Shared} {env : Env} {o : PySem.Expr} {name : Str} {apos pos : Pos} {args : List PySem.Expr} {Q : Value → Shared → Prop}
    (h : wpAny M A (eval o env) (fun ov s₁ => wpAny M A (getAttr ov name true) (fun f s₂ => wpAny M A (callWith pos f [] (backTo pos (starEach args env)) []) Q E s₂) E s₁) E s)
    (he : eval (.Call (.Attribute o name apos) args [] pos) env = (do
      let ov ← eval o env
      standAt apos.atName
      let (f, first) ← holding [ov] (do pure (← getAttr ov name true, ([] : List Value)))
      callWith pos f first (backTo pos (starEach args env)) []) := by rfl) :
    wpAny M A (eval (.Call (.Attribute o name apos) args [] pos) env) Q E s := by
  rw [he]
  refine wpAny_bind (wpAny_mono h (fun ov s₁ h₁ => wpAny_bind (wpAny_standAt (wpAny_bind (wpAny_holding (wpAny_bind (wpAny_mono h₁ (fun f s₂ h₂ => wpAny_pure h₂) fun _ _ y => y)))))) fun _ _ y => y)
abbrev smObj (d I : Addr) : Obj := { cls := .ref 61, dict := some d, data := .plain, slots := #[some (.ref 21), some (.ref I)] }
abbrev tup1 (v : Value) (c : Nat) : Obj := { cls := .type "tuple", data := .seq #[v] c }
local macro_rules | `(tactic| k_all) => `(tactic| assumption)
local macro_rules | `(tactic| walk_at "call builtin:next") => `(tactic| refine stop ?_)
theorem next_code (w : World) {loose : List Str} {mean : ExcName → Option Value} {mg mb : Str → Option Value} {dp un : Nat} {l : List Env} {s : Shared} {g₀ : Heap} {led : List (Addr × Obj)} {x d I lk tk : Addr} {oI : Obj} {vk : List Value} {v : Value} {ck k c : Nat} {n : Int}
    {R : Result → Shared → Prop} (FF : s.heap.FunFrames g₀ l) (st : g₀.StaysIn s.heap) (X₀ : (hd.heap_39 w.params).In g₀) (T : Top noProg loose mean mg mb g₀)
    (hl : ∀ q ∈ (I, oI) :: (x, smObj d I) :: (d, dictOf [] 0) :: (lk, W.listOf vk.toArray ck) :: (tk, tup1 v c) :: led, s.heap.get? q.1 = some q.2 ∧ q.1 ∉ fsOf l ∧ g₀.get? q.1 = none)
    (hne : ∀ p ∈ (x, smObj d I) :: (d, dictOf [] 0) :: (lk, W.listOf vk.toArray ck) :: (tk, tup1 v c) :: led, p.1 ≠ I) (hI1 : oI.cls = .type "list_iterator") (hI2 : oI.data = .fields #[.ref lk, .int k 0])
    (hx : vk[k]? = some (.ref tk)) (O : IsThing w led v n) (h0 : 0 ≤ n) (h1 : n < 2400) (calm : Calm n) (hdp : dp + 40 < recursionLimit) (hun : un + 300 < cLine)
    (hok : ∀ h' tk', ButKept [I] s.heap h' → h'.IsListIter I lk (k + 1) → R (.ok (.ret (ansOf n))) { s with heap := h', toks := tk' }) :
    codeAny (model PySem.Challenge.rw_kl0055_01.row.prog w) (aroundOf dp un l) (.call (.ref 57) ⟨[.ref x], []⟩) R s := by
  refine' code_enter ?k1 ?k2 ?k3 ?k4 ?k5 ?kl ?k6 ?k7 ?k8 ?k9 ?kB ?_ ?c2 ?c3 ?c4 ?c5
  (case k1 => exact rfl); (case k2 => assumption); (case k3 => assumption); (case k4 => k_asm); (case k5 => k_asm); (case kl => exact hl); (case k6 => k_is); (case k7 => k_is); (case k8 => ktr_room); (case k9 => exact BindsTo.of_eq rfl); (case c5 => decide); (case kB => exact locs rfl); (case c2 => exact rfl); (case c3 => exact rfl); (case c4 => exact rfl); k_whole
  intro g' L' h3 F' N' B' X' T' S' SS' nL hs'
  try dsimp only
  try k_fold
  k_steps
  refine go ?_
  refine next_item ⟨oI, (N' _ (.head _)).1, hI1, hI2⟩ (News.isList N' (.tail _ (.tail _ (.tail _ (.head _))))) (by simpa using hx) fun h4 it4 sb4 => ?_
  obtain ⟨o4, ho4, c4, d4⟩ := it4
  have F4 := Fr.but F' (ds := [I]) (fun d hd => by rw [List.mem_singleton.mp hd]; exact (N' _ (.head _)).2) (fun b o nb e => (sb4.2 b (fun q => nb (List.mem_singleton.mpr q))).trans e)
  have N4 := news_head N' hne sb4 ho4
  clear F' N'
  dsimp only
  k_steps
  refine MethodCall_star ?_
  k_steps
  rename_i F5 N5
  refine abs_tail w n h0 h1 calm O F5 N5 (fun p hp => .tail _ (.tail _ (.tail _ (.tail _ hp)))) (fun p hp => hne p (.tail _ (.tail _ (.tail _ (.tail _ hp))))) FF st nL X₀ T hl hs' (by omega) (by omega) rfl (show ScopeKind.function ≠ ScopeKind.module by decide) ?hok2
  intro h6 tk6 bk hI6
  exact hok h6 tk6 bk ⟨o4, hI6, c4, d4⟩
theorem next_code_end (w : World) {loose : List Str} {mean : ExcName → Option Value} {mg mb : Str → Option Value} {dp un : Nat} {l : List Env} {s : Shared} {g₀ : Heap} {led : List (Addr × Obj)} {x d I lk : Addr} {oI : Obj} {vk : List Value} {ck k : Nat}
    {R : Result → Shared → Prop} (FF : s.heap.FunFrames g₀ l) (st : g₀.StaysIn s.heap) (X₀ : (hd.heap_39 w.params).In g₀) (T : Top noProg loose mean mg mb g₀)
    (hl : ∀ q ∈ (I, oI) :: (x, smObj d I) :: (d, dictOf [] 0) :: (lk, W.listOf vk.toArray ck) :: led, s.heap.get? q.1 = some q.2 ∧ q.1 ∉ fsOf l ∧ g₀.get? q.1 = none)
    (hne : ∀ p ∈ (x, smObj d I) :: (d, dictOf [] 0) :: (lk, W.listOf vk.toArray ck) :: led, p.1 ≠ I) (hI1 : oI.cls = .type "list_iterator") (hI2 : oI.data = .fields #[.ref lk, .int k 0])
    (hx : vk[k]? = none) (hdp : dp + 40 < recursionLimit) (hun : un + 300 < cLine)
    (hno : ∀ hX e h' tk', ButKept [I] s.heap hX → Stopped l e hX h' → R (.error (.ref e)) { s with heap := h', toks := tk' }) :
    codeAny (model PySem.Challenge.rw_kl0055_01.row.prog w) (aroundOf dp un l) (.call (.ref 57) ⟨[.ref x], []⟩) R s := by
  refine' code_enter ?k1 ?k2 ?k3 ?k4 ?k5 ?kl ?k6 ?k7 ?k8 ?k9 ?kB ?_ ?c2 ?c3 ?c4 ?c5
  (case k1 => exact rfl); (case k2 => assumption); (case k3 => assumption); (case k4 => k_asm); (case k5 => k_asm); (case kl => exact hl); (case k6 => k_is); (case k7 => k_is); (case k8 => ktr_room); (case k9 => exact BindsTo.of_eq rfl); (case c5 => decide); (case kB => exact locs rfl); (case c2 => exact rfl); (case c3 => exact rfl); (case c4 => exact rfl); k_whole
  intro g' L' h3 F' N' B' X' T' S' SS' nL hs'
  try dsimp only
  try k_fold
  k_steps
  refine go ?_
  refine next_end rfl ⟨oI, (N' _ (.head _)).1, hI1, hI2⟩ (News.isList N' (.tail _ (.tail _ (.tail _ (.head _))))) (by simpa using hx) fun h4 h5 e sb4 made => ?_
  dsimp only
  have bk : ButKept [I] s.heap h4 := fun b o nb eb => (sb4.2 b (fun q => nb (List.mem_singleton.mpr q))).trans (S' b o eb)
  have F4 := Fr.but F' (ds := [I]) (fun d hd => by rw [List.mem_singleton.mp hd]; exact (N' _ (.head _)).2) (fun b o nb e => (sb4.2 b (fun q => nb (List.mem_singleton.mpr q))).trans e)
  have bkX : ButKept [I] s.heap (hideAll h4 [L']) := fun b o nb eb => hideAll_get _ (bk b o nb eb) fun q => by
    rw [List.mem_singleton.mp q, nL] at eb; cases eb
  have FX : (hideAll h4 [L']).FunFrames g₀ l := funFrames_but FF (fun d hd => by rw [List.mem_singleton.mp hd]; exact (hl _ (.head _)).2.1) bkX
  refine Stopped.raised (h := hideAll h4 [L']) made rfl rfl (show ScopeKind.function ≠ ScopeKind.module by decide) F4.ns FX (fun b o e => of_hideAll _ e) (hideAll_none _ (List.mem_singleton.mpr rfl)) fun h6 st6 => ?_
  exact hno _ e h6 _ bkX st6
end Mine
end
section
open PySem PySem.W PySem.Spec PySem.Calls PyProof.Rows
theorem Mine.tickSmapRun (M : Model) (A : Around) (E : Value → Shared → Prop) (s : Shared) (env : Env) (pos : Pos) : wpAny M A (exec (.Pass pos) env) (fun _ _ => True) E s := by
  w_top off
  first | (walk1; fail) | exact wpAny_Pass trivial
end
section
open PySem PySem.W PySem.Spec PySem.Calls PyProof.Rows
set_option maxHeartbeats 2000000
namespace Mine
theorem iter_code (w : World) {loose : List Str} {mean : ExcName → Option Value} {mg mb : Str → Option Value} {dp un : Nat} {l : List Env} {s : Shared} {g₀ : Heap} {x : Addr}
    {R : Result → Shared → Prop} (FF : s.heap.FunFrames g₀ l) (st : g₀.StaysIn s.heap) (X₀ : (hd.heap_39 w.params).In g₀) (T : Top noProg loose mean mg mb g₀) (hdp : dp + 40 < recursionLimit) (hun : un + 300 < cLine)
    (hok : ∀ h' tk', s.heap.StaysIn h' → R (.ok (.ret (.ref x))) { s with heap := h', toks := tk' }) :
    codeAny (model PySem.Challenge.rw_kl0055_01.row.prog w) (aroundOf dp un l) (.call (.ref 50) ⟨[.ref x], []⟩) R s := by
  refine' code_enter (led := []) ?k1 ?k2 ?k3 ?k4 ?k5 ?kl ?k6 ?k7 ?k8 ?k9 ?kB ?_ ?c2 ?c3 ?c4 ?c5
  (case k1 => exact rfl); (case k2 => assumption); (case k3 => assumption); (case k4 => k_asm); (case k5 => k_asm); (case kl => exact fun q hq => nomatch hq); (case k6 => k_is); (case k7 => k_is); (case k8 => ktr_room); (case k9 => exact BindsTo.of_eq rfl); (case c5 => decide); (case kB => exact locs rfl); (case c2 => exact rfl); (case c3 => exact rfl); (case c4 => exact rfl); k_whole
  intro g' L' h3 F' N' B' X' T' S' SS' nL hs'
  try dsimp only
  try k_fold
  k_steps
  exact hok _ _ S'
structure SFeed (w : World) (loose : List Str) (mean : ExcName → Option Value) (mg mb : Str → Option Value) (l : List Env) (g₀ hB : Heap) (x d I lk S : Addr) (oI : Obj) (led : List (Addr × Obj)) (ks : List Int) (vk : List Value) (ck : Nat) : Prop where
  ff : hB.FunFrames g₀ l
  st : g₀.StaysIn hB
  frag : (hd.heap_39 w.params).In g₀
  top : Top noProg loose mean mg mb g₀
  hl : ∀ q ∈ (x, smObj d I) :: (d, dictOf [] 0) :: (lk, W.listOf vk.toArray ck) :: led, hB.get? q.1 = some q.2 ∧ q.1 ∉ fsOf l ∧ g₀.get? q.1 = none
  hlo : ∀ q ∈ (x, smObj d I) :: (d, dictOf [] 0) :: (lk, W.listOf vk.toArray ck) :: led, q.1 ∉ [I, S]
  out : ∀ a ∈ [I, S], a ∉ fsOf l ∧ g₀.get? a = none
  ne : I ≠ S
  hI : hB.get? I = some oI
  cI : oI.cls = .type "list_iterator"
  dI : oI.data = .fields #[.ref lk, .int (0 : Nat) 0]
  len : vk.length = ks.length
  few : ks.length ≤ 14
  item : ∀ k, k < ks.length → ∃ tk v c n, vk[k]? = some (.ref tk) ∧ (tk, tup1 v c) ∈ led ∧ ks[k]? = some n ∧ IsThing w led v n ∧ 0 ≤ n ∧ n < 2400 ∧ Calm n
def PreS (sB : Shared) (S : Addr) (s : Shared) : Prop := (∃ h tk, s = { sB with heap := h, toks := tk }) ∧ ButKept [S] sB.heap s.heap
def StS (sB : Shared) (I lk S : Addr) (ks : List Int) (i : Nat) (acc : List Value) (s : Shared) : Prop :=
  (∃ h tk, s = { sB with heap := h, toks := tk }) ∧ ButKept [I, S] sB.heap s.heap ∧ s.heap.IsListIter I lk i ∧ acc = (ks.take i).map ansOf ∧ ∃ c, s.heap.get? S = some (lst acc c)
def MidS (sB : Shared) (I lk S : Addr) (ks : List Int) (i : Nat) (acc : List Value) (x : Value) (s : Shared) : Prop :=
  (∃ h tk, s = { sB with heap := h, toks := tk }) ∧ ButKept [I, S] sB.heap s.heap ∧ s.heap.IsListIter I lk (i + 1) ∧ acc = (ks.take i).map ansOf ∧ (∃ c, s.heap.get? S = some (lst acc c)) ∧ ∃ n, ks[i]? = some n ∧ x = ansOf n
def DoneS (l : List Env) (sB : Shared) (I S : Addr) (ks : List Int) (acc : List Value) (s : Shared) : Prop :=
  ∃ hX e, (∃ h tk, s = { sB with heap := h, toks := tk }) ∧ ButKept [I, S] sB.heap hX ∧ acc = ks.map ansOf ∧ (∃ c, hX.get? S = some (lst acc c)) ∧ Stopped l e hX s.heap
section
variable {w : World} {loose : List Str} {mean : ExcName → Option Value} {mg mb : Str → Option Value} {l : List Env} {g₀ : Heap} {sB : Shared} {x d I lk S : Addr} {oI : Obj} {led : List (Addr × Obj)} {ks : List Int} {vk : List Value} {ck : Nat} {dp un : Nat}
theorem inst_at (F : SFeed w loose mean mg mb l g₀ sB.heap x d I lk S oI led ks vk ck) {h : Heap} (kept : ButKept [I, S] sB.heap h) : InstAt h x (smObj d I) 61 (some (dictOf [] 0)) :=
  ⟨kept _ _ (F.hlo _ (.head _)) (F.hl _ (.head _)).1, rfl, rfl, kept _ _ (F.hlo _ (.tail _ (.head _))) (F.hl _ (.tail _ (.head _))).1⟩
theorem kept_one (h : Heap) {h' : Heap} (k : ButKept [S] h h') : ButKept [I, S] h h' := fun b o nb e => k b o (fun q => nb (.tail _ q)) e
theorem hl_in (F : SFeed w loose mean mg mb l g₀ sB.heap x d I lk S oI led ks vk ck) {h : Heap} {o : Obj} (kept : ButKept [I, S] sB.heap h) (hI : h.get? I = some o) :
    ∀ q ∈ (I, o) :: (x, smObj d I) :: (d, dictOf [] 0) :: (lk, W.listOf vk.toArray ck) :: led, h.get? q.1 = some q.2 ∧ q.1 ∉ fsOf l ∧ g₀.get? q.1 = none := fun q hq => by
  rcases List.mem_cons.mp hq with rfl | hq
  · exact ⟨hI, F.out _ (.head _)⟩
  · exact ⟨kept _ _ (F.hlo q hq) (F.hl q hq).1, (F.hl q hq).2⟩
theorem smap_steps (F : SFeed w loose mean mg mb l g₀ sB.heap x d I lk S oI led ks vk ck) {L : Addr} {gB : Heap} {m : Str → Option Value} (FB : Fr gB L sB.heap m) (XB : (hd.heap_39 w.params).In gB) (hL : ∀ a ∈ [I, S], a ≠ L ∧ gB.get? a = none) (hdp : dp + 50 < recursionLimit) (hun : un + 320 < cLine) :
    Steps PySem.Challenge.rw_kl0055_01.row.prog w (aroundOf dp un l) x S ks.length (StS sB I lk S ks) (MidS sB I lk S ks) (DoneS l sB I S ks) (fun _ _ _ => False) where
  step := by
    rintro i acc s Q E hi ⟨⟨h, tk, rfl⟩, kept, feed, ha, cS, hS⟩ hq _
    obtain ⟨tt, v, c, n, hv, ht, hn, O, h0, h1, calm⟩ := F.item i hi
    obtain ⟨o, ho, c1, d1⟩ := feed
    have FS := Fr.but FB hL kept
    refine owit_next FS XB (inst_at F kept) (f := 57) (by k_is) (by k_is) ?_
    have hl0 := hl_in F kept ho
    refine wpAny_call (next_code w (s := { sB with heap := h, toks := tk }) (g₀ := g₀) (led := led) (x := x) (d := d) (I := I) (ck := ck) (c := c) (oI := o) (funFrames_but F.ff (fun a ha => (F.out a ha).1) kept) (stays_but F.st (fun a ha => (F.out a ha).2) kept) F.frag F.top ?_ ?_ c1 d1 hv O h0 h1 calm (by omega) (by omega) ?_)
    · intro q hq
      rcases List.mem_cons.mp hq with rfl | hq
      · exact hl0 _ (.head _)
      rcases List.mem_cons.mp hq with rfl | hq
      · exact hl0 _ (.tail _ (.head _))
      rcases List.mem_cons.mp hq with rfl | hq
      · exact hl0 _ (.tail _ (.tail _ (.head _)))
      rcases List.mem_cons.mp hq with rfl | hq
      · exact hl0 _ (.tail _ (.tail _ (.tail _ (.head _))))
      rcases List.mem_cons.mp hq with rfl | hq
      · exact hl0 _ (.tail _ (.tail _ (.tail _ (.tail _ ht))))
      · exact hl0 _ (.tail _ (.tail _ (.tail _ (.tail _ hq))))
    · have ne0 : ∀ q ∈ (x, smObj d I) :: (d, dictOf [] 0) :: (lk, W.listOf vk.toArray ck) :: led, q.1 ≠ I := fun q hq e => F.hlo q hq (by rw [e]; exact .head _)
      intro q hq
      rcases List.mem_cons.mp hq with rfl | hq
      · exact ne0 _ (.head _)
      rcases List.mem_cons.mp hq with rfl | hq
      · exact ne0 _ (.tail _ (.head _))
      rcases List.mem_cons.mp hq with rfl | hq
      · exact ne0 _ (.tail _ (.tail _ (.head _)))
      rcases List.mem_cons.mp hq with rfl | hq
      · exact ne0 _ (.tail _ (.tail _ (.tail _ ht)))
      · exact ne0 _ (.tail _ (.tail _ (.tail _ hq)))
    · intro h' tk' bk it'
      have nS : S ∉ [I] := fun q => F.ne (List.mem_singleton.mp q).symm
      exact hq _ _ ⟨⟨h', tk', rfl⟩, fun b o nb e => bk b o (fun q => nb (by rw [List.mem_singleton.mp q]; exact .head _)) (kept b o nb e), it', ha, ⟨cS, bk _ _ nS hS⟩, n, hn, rfl⟩
  last := by
    rintro acc s Q E ⟨⟨h, tk, rfl⟩, kept, feed, ha, cS, hS⟩ hq
    obtain ⟨o, ho, c1, d1⟩ := feed
    have FS := Fr.but FB hL kept
    refine owit_next FS XB (inst_at F kept) (f := 57) (by k_is) (by k_is) ?_
    have hl0 := hl_in F kept ho
    refine wpAny_call (next_code_end w (s := { sB with heap := h, toks := tk }) (g₀ := g₀) (led := led) (funFrames_but F.ff (fun a ha => (F.out a ha).1) kept) (stays_but F.st (fun a ha => (F.out a ha).2) kept) F.frag F.top hl0 (fun q hq e => F.hlo q hq (by rw [e]; exact .head _)) c1 d1 (by rw [← F.len]; simp) (by omega) (by omega) ?_)
    intro hX e h' tk' bk stp
    unfold OwitStop
    obtain ⟨t, fly⟩ := stp.fly
    obtain ⟨oe, ws, hoe, hoec, _⟩ := fly.first
    have nS : S ∉ [I] := fun q => F.ne (List.mem_singleton.mp q).symm
    refine wpAny_isInstance (T := "StopIteration") (b := true) ⟨oe, hoe, hoec⟩ isSubtype_stop ?_
    rw [if_pos rfl]
    rw [List.take_length] at ha
    exact hq _ ⟨hX, e, ⟨h', tk', rfl⟩, fun b o nb eb => bk b o (fun q => nb (by rw [List.mem_singleton.mp q]; exact .head _)) (kept b o nb eb), ha, ⟨cS, bk _ _ nS hS⟩, stp⟩
  here := fun i acc x s hm => hm.2.2.2.2.1
  push := by
    rintro i acc y s hi ⟨⟨h, tk, rfl⟩, kept, feed, ha, ⟨cS, hS⟩, n, hn, hx⟩
    have oth : ∀ b, b ≠ S → (h.update S (Obj.mapSeq (·.push y))).get? b = h.get? b := fun b hb => Heap.get?_update_other _ _ (Ne.symm hb)
    have hS2 : (h.update S (Obj.mapSeq (·.push y))).get? S = _ := Heap.get?_update_self (Obj.mapSeq (·.push y)) hS rfl
    refine ⟨⟨_, tk, rfl⟩, fun b o nb e => (oth b (fun q => nb (by rw [q]; exact .tail _ (.head _)))).trans (kept b o nb e), ?_, ?_, ?_⟩
    · obtain ⟨o, ho, r⟩ := feed
      exact ⟨o, (oth _ F.ne).trans ho, r⟩
    · rw [← take_one hn, List.map_append, ha, hx]; rfl
    · exact ⟨cS + 1, hS2.trans (by simp [lst, Obj.mapSeq])⟩
theorem smap_starts (F : SFeed w loose mean mg mb l g₀ sB.heap x d I lk S oI led ks vk ck) {L : Addr} {gB : Heap} {m : Str → Option Value} (FB : Fr gB L sB.heap m) (XB : (hd.heap_39 w.params).In gB) (hL : ∀ a ∈ [I, S], a ≠ L ∧ gB.get? a = none) (hdp : dp + 50 < recursionLimit) (hun : un + 320 < cLine) :
    Starts PySem.Challenge.rw_kl0055_01.row.prog w (aroundOf dp un l) x S (.ref 61) (PreS sB S) where
  ty := by
    intro s Q E ⟨_, kept⟩ hq
    exact (inst_at F (kept_one _ kept)).type.here hq
  iter := by
    rintro s Q E ⟨⟨h, tk, rfl⟩, kept⟩ hq
    have kept2 := kept_one (I := I) _ kept
    have FS := Fr.but FB hL kept2
    refine owit_iter FS XB (inst_at F kept2) (f := 50) (by k_is) (by k_is) ?_
    refine wpAny_call (iter_code w (s := { sB with heap := h, toks := tk }) (g₀ := g₀) (funFrames_but F.ff (fun a ha => (F.out a ha).1) kept2) (stays_but F.st (fun a ha => (F.out a ha).2) kept2) F.frag F.top (by omega) (by omega) ?_)
    intro h' tk' k
    have kept3 : ButKept [S] sB.heap h' := fun b o nb e => k _ _ (kept b o nb e)
    exact owit_it (s := { sB with heap := h', toks := tk' }) (FS.keeps k) XB (inst_at F (kept_one _ kept3)) (g := .ref 57) (by k_is) (hq _ k ⟨⟨h', tk', rfl⟩, kept3⟩)
  hint := by
    rintro s Q E ⟨⟨h, tk, rfl⟩, kept⟩ hq
    have kept2 := kept_one (I := I) _ kept
    have X := F.frag.keeps (stays_but F.st (fun a ha => (F.out a ha).2) kept2)
    have It := (inst_at F kept2).type (M := model PySem.Challenge.rw_kl0055_01.row.prog w)
    unfold Builtin.List.listLengthHint
    refine wpAny_bind (wpAny_bind (It.here ((looks_findIn X (r := none) (by k_is)).here ?_)))
    show wpAny _ _ (specialOf (Value.ref x) (Str.ofString "__length_hint__") >>= _) _ _ _
    refine wpAny_bind (wpAny_bind (It.here ((looks_findIn X (r := none) (by k_is)).here ?_)))
    exact wpAny_pure hq
  but := by
    rintro s h' ⟨⟨h, tk, rfl⟩, kept⟩ k
    exact ⟨⟨h', tk, rfl⟩, fun b o nb e => k b o (fun q => nb (List.mem_singleton.mpr q)) (kept b o nb e)⟩
end
abbrev lit0 (l : Addr) : Obj := { cls := .type "list_iterator", data := .fields #[.ref l, .int (0 : Nat) 0] }
theorem sm_t1 : (Value.ref 61 == .type "list") = false := by decide
theorem sm_t2 : (Value.ref 61 == .type "tuple") = false := by decide
theorem smap_tail (w : World) {loose : List Str} {mean : ExcName → Option Value} {mg mb : Str → Option Value} {dp un : Nat} {l : List Env} {s : Shared} {g g₀ : Heap} {led : List (Addr × Obj)} {x d I lk L : Addr} {oI oT0 : Obj} {T0 : Addr} {ck : Nat} {ks : List Int} {vk : List Value} {env : Env} {m : Str → Option Value}
    {Q E : Value → Shared → Prop} (F : Fr g L s.heap m) (N : News g L s.heap ((I, oI) :: (x, smObj d I) :: (d, dictOf [] 0) :: (T0, oT0) :: (lk, W.listOf vk.toArray ck) :: led)) (X : (hd.heap_39 w.params).In g)
    (hlt : ∀ q ∈ (x, smObj d I) :: (d, dictOf [] 0) :: (T0, oT0) :: (lk, W.listOf vk.toArray ck) :: led, @LT.lt Nat _ q.1 I) (B : Below (aroundOf dp un l) (hideAll g (fsOf l)) l g) (SB : g₀.StaysIn (hideAll g (fsOf l))) (X₀ : (hd.heap_39 w.params).In g₀) (T : Top noProg loose mean mg mb g₀)
    (cI : oI.cls = .type "list_iterator") (dI : oI.data = .fields #[.ref lk, .int (0 : Nat) 0]) (hlen : vk.length = ks.length) (few : ks.length ≤ 14) (item : ∀ k, k < ks.length → ∃ tk v c n, vk[k]? = some (.ref tk) ∧ (tk, tup1 v c) ∈ led ∧ ks[k]? = some n ∧ IsThing w led v n ∧ 0 ≤ n ∧ n < 2400 ∧ Calm n)
    (hdp : dp + 60 < recursionLimit) (hun : un + 340 < cLine) (hf : env.frame = some L) (hm : env.scope.kind ≠ .module)
    (hok : ∀ acc s', DoneS (env :: l) s I s.heap.objs.size ks acc s' → Q (.ref s.heap.objs.size) s') :
    wpAny (model PySem.Challenge.rw_kl0055_01.row.prog w) ((aroundOf dp un l).deeper env) (call (.type "list") [.ref x]) Q E s := by
  have FF1 := ff_of F B SB hf hm
  have st1 : g₀.StaysIn s.heap := fun b o e => F.keep _ _ (of_hideAll _ (SB b o e))
  have hl1 := hl_of N B SB hf
  have up : ∀ q, q ∈ (x, smObj d I) :: (d, dictOf [] 0) :: (lk, W.listOf vk.toArray ck) :: led → q ∈ (x, smObj d I) :: (d, dictOf [] 0) :: (T0, oT0) :: (lk, W.listOf vk.toArray ck) :: led := fun q hq => by
    rcases List.mem_cons.mp hq with rfl | hq
    · exact .head _
    rcases List.mem_cons.mp hq with rfl | hq
    · exact .tail _ (.head _)
    · exact .tail _ (.tail _ (.tail _ hq))
  have sz : ∀ q ∈ (I, oI) :: (x, smObj d I) :: (d, dictOf [] 0) :: (T0, oT0) :: (lk, W.listOf vk.toArray ck) :: led, q.1 ≠ s.heap.objs.size := fun q hq => Nat.ne_of_lt (Heap.lt_size (N q hq).1)
  have Sout : s.heap.objs.size ∉ fsOf (env :: l) := fun z => by
    obtain ⟨_, o, ho, _⟩ := FF1.mem z
    exact absurd (Heap.lt_size ho) (Nat.lt_irrefl _)
  have Snone : ∀ g' : Heap, g'.StaysIn s.heap → g'.get? s.heap.objs.size = none := fun g' k => by
    cases q : g'.get? s.heap.objs.size with
    | none => rfl
    | some o => exact absurd (Heap.lt_size (k _ _ q)) (Nat.lt_irrefl _)
  have Fd : SFeed w loose mean mg mb (env :: l) g₀ s.heap x d I lk s.heap.objs.size oI led ks vk ck :=
    { ff := FF1, st := st1, frag := X₀, top := T
      hl := fun q hq => hl1 q (.tail _ (up q hq))
      hlo := fun q hq z => by
        rcases List.mem_cons.mp z with z | z
        · exact Nat.ne_of_lt (hlt q (up q hq)) z
        · exact sz q (.tail _ (up q hq)) (List.mem_singleton.mp z)
      out := fun a ha => by
        rcases List.mem_cons.mp ha with rfl | ha
        · exact (hl1 _ (.head _)).2
        · rw [List.mem_singleton.mp ha]; exact ⟨Sout, Snone _ st1⟩
      ne := sz _ (.head _), hI := (N _ (.head _)).1, cI := cI, dI := dI, len := hlen, few := few, item := item }
  have hL : ∀ a ∈ [I, s.heap.objs.size], a ≠ L ∧ g.get? a = none := fun a ha => by
    rcases List.mem_cons.mp ha with rfl | ha
    · exact (N _ (.head _)).2
    · rw [List.mem_singleton.mp ha]
      refine ⟨fun q => Sout ?_, Snone _ F.keep⟩
      rw [fsOf_cons hf, q]; exact .head _
  refine call_list_it (A := (aroundOf dp un l).deeper env) (smap_steps (dp := dp + 1) (un := un + 5) Fd F X hL (by omega) (by omega)) (smap_starts (dp := dp + 1) (un := un + 5) Fd F X hL (by omega) (by omega)) (by rw [sizeLine_eq]; omega) (Heap.lt_size (N _ (.tail _ (.head _))).1) sm_t1 sm_t2 ?_ ?_ ?_ ?_
  · exact ⟨⟨s.heap, s.toks, rfl⟩, fun b o _ e => e⟩
  · rintro s' c ⟨⟨h, tk, rfl⟩, kept⟩ hS
    have nI : I ∉ [s.heap.objs.size] := fun q => sz _ (.head _) (List.mem_singleton.mp q)
    exact ⟨⟨h, tk, rfl⟩, kept_one _ kept, ⟨oI, kept _ _ nI (N _ (.head _)).1, cI, dI⟩, by simp, ⟨c, hS⟩⟩
  · intro acc s' _ hd
    exact hok acc s' hd
  · intro i er s' _ hb
    exact hb.elim
end Mine
end
section
open PySem PySem.W PySem.Spec PySem.Calls PyProof.Rows
theorem Mine.tickSmap (M : Model) (A : Around) (E : Value → Shared → Prop) (s : Shared) (env : Env) (pos : Pos) : wpAny M A (exec (.Pass pos) env) (fun _ _ => True) E s := by
  w_top off
  first | (walk1; fail) | exact wpAny_Pass trivial
end
section
open PySem PySem.W PySem.Spec PySem.Calls PyProof.Rows
set_option maxHeartbeats 2000000
namespace Mine
local macro_rules | `(tactic| k_all) => `(tactic| assumption)
local macro_rules | `(tactic| ktr_unf) => `(tactic| (refine' code_def ?k1 ?k2 ?k3 ?k4 ?k5 ?kA ?kF ?kK ?k6 ?k7 ?k8 ?k9 ?kB ?_ ?c2 ?c3 ?c4 ?c5; (case kA => exact rfl); (case kF => exact rfl); (case kK => exact rfl); (case k1 => k_asm); (case k2 => k_asm); (case k3 => k_asm); (case k4 => k_asm); (case k5 => k_asm); (case k6 => k_is); (case k7 => k_is); (case k8 => ktr_room); (case k9 => exact BindsTo.of_eq rfl); (case c5 => decide); (case kB => exact locs rfl); (case c2 => exact rfl); (case c3 => exact rfl); (case c4 => exact rfl); k_whole; intro g' L' h' FG' F' N' B' X' T'; (try dsimp only); (try k_fold)))
local macro_rules | `(tactic| walk_at "call builtin:iter") => `(tactic| (k_here; (with_reducible show wpAny _ _ (call (Value.builtin "iter") [Value.ref _]) _ _ _); (refine iter_list (by k_asm) (by k_asm) (by k_mem) ?_); intro I' h' F' N' l1 kI' LI'; (try k_lt l1)))
theorem smap_code (w : World) {loose : List Str} {mean : ExcName → Option Value} {mg mb : Str → Option Value} {dp un : Nat} {l : List Env} {s : Shared} {g₀ : Heap} {led : List (Addr × Obj)} {T0 lk : Addr} {vk : List Value} {ks : List Int} {c ck : Nat}
    {R : Result → Shared → Prop} (FF : s.heap.FunFrames g₀ l) (st : g₀.StaysIn s.heap) (X₀ : (hd.heap_39 w.params).In g₀) (T : Top noProg loose mean mg mb g₀)
    (hl : ∀ q ∈ (T0, ({ cls := .type "tuple", data := .seq #[.ref 21, .ref lk] c } : Obj)) :: (lk, W.listOf vk.toArray ck) :: led, s.heap.get? q.1 = some q.2 ∧ q.1 ∉ fsOf l ∧ g₀.get? q.1 = none)
    (hne : ∀ q ∈ led, q.1 ≠ lk) (hlen : vk.length = ks.length) (few : ks.length ≤ 14) (item : ∀ k, k < ks.length → ∃ tk v c n, vk[k]? = some (.ref tk) ∧ (tk, tup1 v c) ∈ led ∧ ks[k]? = some n ∧ IsThing w led v n ∧ 0 ≤ n ∧ n < 2400 ∧ Calm n)
    (hdp : dp + 70 < recursionLimit) (hun : un + 400 < cLine)
    (hok : ∀ S h' tk, KeptF l s.heap h' → (∀ b o, s.heap.get? b = some o → @LT.lt Nat _ b S) → (∃ c, h'.get? S = some (lst (ks.map ansOf) c)) → R (.ok (.ret (.ref S))) { s with heap := h', toks := tk }) :
    codeAny (model PySem.Challenge.rw_kl0055_01.row.prog w) (aroundOf dp un l) (.call (.ref 72) ⟨[.ref T0], []⟩) R s := by
  refine' code_enter ?k1 ?k2 ?k3 ?k4 ?k5 ?kl ?k6 ?k7 ?k8 ?k9 ?kB ?_ ?c2 ?c3 ?c4 ?c5
  (case k1 => exact rfl); (case k2 => assumption); (case k3 => assumption); (case k4 => k_asm); (case k5 => k_asm); (case kl => assumption); (case k6 => k_is); (case k7 => k_is); (case k8 => ktr_room); (case k9 => exact BindsTo.of_eq rfl); (case c5 => decide); (case kB => exact locs rfl); (case c2 => exact rfl); (case c3 => exact rfl); (case c4 => exact rfl); k_whole
  intro g' L' h3 F' N' B' X' T' S' SS' nL hs'
  try dsimp only
  try k_fold
  k_steps
  refine' call_cls F' X' N' ?k4 ?k5 ?k6 ?_
  case k4 => k_is
  case k5 => k_is
  case k6 => k_is
  k_whole
  intro x' d' h' F' N' l1 l2
  k_lt l1
  k_lt2 l2
  have off : ∀ p ∈ led, p.1 ≠ x' := fun p hp => Nat.ne_of_lt (Nat.lt_trans (kst_ltOf l1.2.2 p hp) l2)
  ktr_unf
  k_steps
  rename_i I' h2' kI' LI' lI hm h5 Fi Ni F5 N5 T5 X5
  have S5 : s.heap.StaysIn h5 := SS' h5 F5.keep (fun p hp => N5 p (.tail _ (.tail _ (.tail _ hp))))
  have lI' : ∀ q ∈ (x', smObj d' I') :: (d', dictOf [] 0) :: (T0, ({ cls := .type "tuple", data := .seq #[.ref 21, .ref lk] c } : Obj)) :: (lk, W.listOf vk.toArray ck) :: led, @LT.lt Nat _ q.1 I' := fun q hq => by
    rcases List.mem_cons.mp hq with rfl | hq
    · exact lI.1
    rcases List.mem_cons.mp hq with rfl | hq
    · exact lI.2.1
    rcases List.mem_cons.mp hq with rfl | hq
    · exact lI.2.2.1
    rcases List.mem_cons.mp hq with rfl | hq
    · exact lI.2.2.2.1
    · exact kst_ltOf lI.2.2.2.2 q hq
  refine smap_tail w (s := { s with heap := h5, toks := tk + 1 }) F5 N5 X5 lI' B' (stays_base FF st hl hs') X₀ T rfl rfl hlen few item (by omega) (by omega) rfl (show ScopeKind.function ≠ ScopeKind.module by decide) ?_
  rintro acc s' ⟨hX, e, ⟨h9, tk9, rfl⟩, kept, rfl, ⟨cS, hS⟩, stp⟩
  obtain ⟨tt, fly⟩ := stp.fly
  have nI : ∀ b o, s.heap.get? b = some o → b ≠ I' := fun b o eb q => by
    rcases hs' b o eb with z | z
    · exact Nat.ne_of_lt (lI' (b, o) (by
        rcases List.mem_cons.mp z with z | z
        · rw [z]; exact .tail _ (.tail _ (.head _))
        · exact .tail _ (.tail _ (.tail _ z)))) q
    · rw [q, (N5 _ (.head _)).2.2] at z; cases z
  have kX : ∀ b o, s.heap.get? b = some o → hX.get? b = some o := fun b o eb => kept b o (fun z => by
    rcases List.mem_cons.mp z with z | z
    · exact nI b o eb z
    · exact Nat.ne_of_lt (Heap.lt_size (S5 b o eb)) (List.mem_singleton.mp z)) (S5 b o eb)
  have offS : h5.objs.size ∉ fsOf (envOf "starmapstar" (Scope.mk ScopeKind.function [] false false []) L' 72 (.ref 71) :: l) := fun z => by
    rw [fsOf_cons (L := L') rfl] at z
    rcases List.mem_cons.mp z with z | z
    · obtain ⟨oL, _, _, hL, _⟩ := F5.ns
      exact Nat.ne_of_lt (Heap.lt_size hL) z.symm
    · obtain ⟨_, o, ho, _⟩ := FF.mem z
      exact Nat.lt_irrefl _ (Heap.lt_size (S5 _ _ ho))
  refine hok _ h9 tk9 ⟨fun b o eb nf => ?_, fun b o eb hf => ?_⟩ (fun b o eb => Heap.lt_size (S5 b o eb)) ⟨cS, ?_⟩
  · refine fly.1 _ _ (hideAll_get _ (kX b o eb) fun z => ?_)
    rw [fsOf_cons (L := L') rfl] at z
    rcases List.mem_cons.mp z with z | z
    · rw [z, nL] at eb; cases eb
    · exact nf z
  · obtain ⟨_, o', ho', hd'⟩ := FF.mem hf
    rw [eb] at ho'
    cases ho'
    exact stp.up b o (kX b o eb) hd'
  · exact fly.1 _ _ (hideAll_get _ hS fun z => offS (by rw [fsOf_cons (L := L') rfl] at z ⊢; exact z))
end Mine
end
section
open PySem PySem.W PySem.Spec PySem.Calls PyProof.Rows
theorem Mine.tickRuns (M : Model) (A : Around) (E : Value → Shared → Prop) (s : Shared) (env : Env) (pos : Pos) : wpAny M A (exec (.Pass pos) env) (fun _ _ => True) E s := by
  w_top off
  first | (walk1; fail) | exact wpAny_Pass trivial
end
section
open PySem PySem.W PySem.Spec PySem.Calls PyProof.Rows
set_option maxHeartbeats 8000000
namespace Mine
local macro_rules | `(tactic| ktr_unf) => `(tactic| (refine' code_enterC ?k1 ?k2 ?k3 ?k4 ?k5 ?kl ?k6 ?k7 ?k8 ?k9 ?kB ?kN ?_ ?c2 ?c3 ?c4; (case k1 => exact rfl); (case k2 => assumption); (case k3 => assumption); (case k4 => k_asm); (case k5 => k_asm); (case kl => assumption); (case k6 => k_is); (case k7 => k_is); (case k8 => ktr_room); (case k9 => exact BindsTo.of_eq rfl); (case kB => exact rfl); (case kN => decide); (case c2 => exact rfl); (case c3 => exact rfl); (case c4 => exact rfl); k_whole))
local macro_rules | `(tactic| k_all) => `(tactic| assumption)
theorem len_small {prog : Program} {w : World} {A : Around} {E : Value → Shared → Prop} {s : Shared} {h₀ : Heap} {L l : Addr} {vs : List Value} {c : Nat} {news : List (Addr × Obj)} {Q : Value → Shared → Prop} (N : News h₀ L s.heap news) (hm : (l, W.listOf vs.toArray c) ∈ news) (hz : vs.length ≤ 14)
    (h : ∀ t tk, Q (.int vs.length t) { s with toks := tk }) : wpAny (model prog w) A (call (.builtin "len") [.ref l]) Q E s :=
  call_len_list (News.isList N hm) (by rw [List.size_toArray]; omega) (by rw [List.size_toArray]; exact h _ _)
local macro_rules | `(tactic| walk_at "call builtin:len") => `(tactic| (k_here; (with_reducible show wpAny _ _ (call (Value.builtin "len") [Value.ref _]) _ _ _); (refine len_small (by k_asm) (by k_mem) (by with_reducible assumption) ?_); intro t' tk'))
local macro_rules | `(tactic| walk_at "call builtin:iter") => `(tactic| (k_here; (with_reducible show wpAny _ _ (call (Value.builtin "iter") [Value.ref _]) _ _ _); (refine iter_list (by k_asm) (by k_asm) (by k_mem) ?_); intro I' h' F' N' l1 kI' LI'; (try k_lt l1)))
local macro_rules | `(tactic| walk_at "eval Call Attribute") => `(tactic| refine stop ?_)
local macro_rules | `(tactic| walk_at "eval Subscript") => `(tactic| refine stop ?_)
local macro_rules | `(tactic| walk_at "call builtin:repr") => `(tactic| refine stop ?_)
local macro_rules | `(tactic| walk_at "pyIter ref") => `(tactic| refine stop ?_)
local macro_rules | `(tactic| walk_at "exec For Name Call cons nil") => `(tactic| (refine stop ?_))
theorem runs_code (w : World) (ns : List Int) (hns : ∀ n ∈ ns, 0 ≤ n ∧ n < 2400) {loose : List Str} {mean : ExcName → Option Value} {mg mb : Str → Option Value} {dp un : Nat} {l : List Env} {s : Shared} {g₀ : Heap} {led : List (Addr × Obj)} {vs : List Value} {lt la : Addr} {c1 c2 : Nat}
    {R : Result → Shared → Prop} (FF : s.heap.FunFrames g₀ l) (st : g₀.StaysIn s.heap) (X₀ : (hd.heap_39 w.params).In g₀) (T : Top noProg loose mean mg mb g₀) (hl : ∀ q ∈ (la, W.listOf (#[] : Array Value) c2) :: (lt, W.listOf vs.toArray c1) :: (114, tabObj #[]) :: led, s.heap.get? q.1 = some q.2 ∧ q.1 ∉ fsOf l ∧ g₀.get? q.1 = none)
    (D : KtsDicts (fsOf l) s.heap) (hC : CodeHd g₀ 118 114) (hne : ∀ p ∈ led, p.1 ≠ 114) (ho1 : @Ne Nat 114 lt) (ho2 : @Ne Nat lt la) (ho3 : @Ne Nat 114 la) (hdp : dp + 80 < recursionLimit) (hun : un + 480 < cLine) (hlen : vs.length = ns.length) (hlen2 : ns.length ≤ 14) (hlen3 : vs.length ≤ 14) (hnl : ∀ p ∈ led, p.1 ≠ la) (hcalm : ∃ n ∈ ns, Calm n)
    (hR : ∀ (lo : Addr) (h' : Heap) (tk : Nat) (ds outs : List Value) (p : Nat), (∀ b o, s.heap.get? b = some o → b ∉ fsOf l → b ∉ [la, 114] → h'.get? b = some o) → (∀ b o, s.heap.get? b = some o → b ∈ fsOf l → ∃ sl, h'.get? b = some { o with slots := sl }) → listAt h' la ds → IntsAre ds (rangeKs 0 ns.length) →
      listAt h' lo outs → (∃ ps, h'.get? 114 = some (tabObj ps)) → StrsAre outs ((refusedOf ns).map toldOf ++ [yesText (ns.drop p)]) → (∀ b o, s.heap.get? b = some o → @LT.lt Nat _ b lo) → (p = 0 ∨ ∃ n, ns[p - 1]? = some n ∧ ¬ Calm n) → (∀ n ∈ ns.drop p, Calm n) → R (.ok (.ret (.ref lo))) { s with heap := h', toks := tk }) (hI' : ∀ (i : Nat) (n : Int), ns[i]? = some n → ∃ v, vs[i]? = some v ∧ IsThing w led v n) :
    codeAny (model PySem.Challenge.rw_kl0055_01.row.prog w) (aroundOf dp un l) (.call (.ref 119) ⟨[.ref lt, .ref la], []⟩) R s := by
  k_dflt ktr_unf
  intro g' L' h3 tk3 cells F' N' C' B' X' T' S' nL hs' lt'
  k_cells C'
  have hC' : CodeHd g' 118 114 := hC.keeps fun b o e => of_hideAll _ (stays_base FF st hl hs' b o e)
  try simp only [List.cons_append, List.nil_append] at N'
  try dsimp only
  try k_fold
  have ltA : @LT.lt Nat _ la L' := lt' _ (.head _)
  have ltB : @LT.lt Nat _ lt L' := lt' _ (.tail _ (.head _))
  have ltC : @LT.lt Nat _ 114 L' := lt' _ (.tail _ (.tail _ (.head _)))
  have ho1' : @Ne Nat 114 lt := ho1
  have ho2' : @Ne Nat lt la := ho2
  have ho3' : @Ne Nat 114 la := ho3
  k_steps
  rename_i o' o2' d1 d2 f' c' oc' vs' t' ct' dc' h1' tk1' dd1 dd2 l1 l2 h2' t2' tk2' h3' tk3' t₁ u₁ v₁ rgX k3' D' ds cD h4' tk4' hI l3 I' h5' kI' LI' l4 h6' tk6' lo h7' l5 h8' F9 N9
  generalize hqn : qualnameIn _ _ _ = qn at N9 dd2
  clear hqn
  generalize hfo : fnMade _ _ _ _ _ _ _ _ _ _ = fo at N9
  have d1c : o'.data = .cell (some (.ref la)) := d1
  have d2c : o2'.data = .cell (some (.ref lt)) := d2
  clear d1 d2
  have lk : ∀ q ∈ led, @LT.lt Nat _ q.1 c' := fun q hq => kst_ltOf l1.2.2.2.2.2 q hq
  have hAsk : Asks w loose mean mg mb f' la ((f', fo) :: (c', oc') :: (L' + 1 + 1, o') :: (L' + 1, o2') :: (lt, W.listOf vs.toArray c1) :: led) ns := by
    clear F9 N9 B' X' T' S' FF st X₀ T hl D hC hC' hs' nL lt' rgX k3' kI' hI hdp hun
    have hne : ∀ p ∈ (f', fo) :: (c', oc') :: (L' + 1 + 1, o') :: (L' + 1, o2') :: (lt, W.listOf vs.toArray c1) :: led, p.1 ≠ la := by
      have q1 : @LT.lt Nat _ la c' := l1.2.2.1
      have q2 : @LT.lt Nat _ c' f' := l2
      intro p hp e
      rcases List.mem_cons.mp hp with rfl | hp
      · exact absurd e (Nat.ne_of_gt (Nat.lt_trans q1 q2))
      rcases List.mem_cons.mp hp with rfl | hp
      · exact absurd e (Nat.ne_of_gt q1)
      rcases List.mem_cons.mp hp with rfl | hp
      · exact absurd e (Nat.ne_of_gt (Nat.lt_succ_of_lt (Nat.lt_succ_of_lt ltA)))
      rcases List.mem_cons.mp hp with rfl | hp
      · exact absurd e (Nat.ne_of_gt (Nat.lt_succ_of_lt ltA))
      rcases List.mem_cons.mp hp with rfl | hp
      · exact absurd e ho2'
      · exact hnl p hp e
    intro dp un l s g₀ xs c2 i tt n R FF st X₀ T hl hx hxs hdp hun hok hno
    refine' code_enterX rfl FF st X₀ T hl (hl _ (.tail _ (.head _))).1 ?hfd ?hcd ?k8 ?k9 ?kB ?_ ?c5 ?c2 ?c3 ?c4
    case hfd => rw [← hfo]
    case hcd => exact ⟨_, _, _, _, rfl, (hl _ (.tail _ (.tail _ (.head _)))).1, dd1, dd2⟩
    case k8 => ktr_room
    case k9 => exact BindsTo.of_eq rfl
    case kB => exact locs rfl
    case c5 => decide
    case c2 => exact rfl
    case c3 => exact rfl
    case c4 => exact rfl
    intro g' L' h3 F' N' B' X' T' S' nL hs' lt'
    try dsimp only
    try k_fold
    k_steps
    refine go ?_
    refine MethodCall_ ?_
    refine nameX_F (by assumption) rfl (.tail _ (.tail _ (.tail _ (.head _)))) d1c ?_ rfl rfl
    k_steps
    refine go ?_
    refine Subscript_ ?_
    refine nameX_F (by assumption) rfl (.tail _ (.tail _ (.tail _ (.tail _ (.head _))))) d2c ?_ rfl rfl
    k_steps
    obtain ⟨v, hv, I⟩ := hI' i n hx
    have hi9 : i < vs.length := (List.getElem?_eq_some_iff.mp hv).1
    rename_i F5 N5
    refine item_listL (News.isList N5 (.tail _ (.tail _ (.tail _ (.tail _ (.tail _ (.head _))))))) (Int.natCast_nonneg i) (by omega) (by rw [Int.toNat_natCast]; exact hv) ?_
    k_steps
    obtain ⟨hn0, hn1⟩ := hns n (List.mem_of_getElem? hx)
    refine ask_tail w n hn0 hn1 I F5 N5 (fun p hp => .tail _ (.tail _ (.tail _ (.tail _ (.tail _ hp))))) hnl FF st nL X₀ T hl hs' (by omega) (by omega) rfl (show ScopeKind.function ≠ ScopeKind.module by decide) ?hok2 ?hno2
    case hok2 =>
      intro b h' tk' bk lk hb
      exact hok b h' tk' bk lk hb
    case hno2 =>
      intro e t u h' tk' hf' a b
      have bk : ButKept [la] s.heap _ := butKept_split F5 N5 hs'
      refine Flown.pass (h := hideAll _ [L']) hf' rfl rfl (fun b o e => of_hideAll _ e) (hideAll_none _ (List.mem_singleton.mpr rfl)) fun h'' hf2 => ?_
      refine hno e t u _ h'' tk' ?_ ?_ hf2 a b
      · exact fun b o nb e => hideAll_get _ (bk b o nb e) fun q => by
          rw [List.mem_singleton] at q
          subst q
          rw [nL] at e; cases e
      · exact ⟨_, hideAll_get _ (N5 _ (.head _)).1 fun q => (N5 _ (.head _)).2.1 (List.mem_singleton.mp q)⟩
  refine go ?_
  refine wpAny_For ?_
  k_steps
  rename_i N8 t8 tk8 h9 tk9 r1 r2 r3 rg F9 N9 k9
  refine go ?_
  have hsm : Builtin.Range.small 0 (vs.length : Int) 1 = true := small_one (by decide) (by decide) (by omega) (by omega)
  have hsz : Builtin.Range.rangeSize 0 (vs.length : Int) 1 = (ns.length : Int) := by rw [rangeSize_one]; split <;> omega
  refine wpAny_pyIter_range rg hsm ?_
  rw [hsz]
  have SB0 := stays_base FF st hl hs'
  have DD0 := dicts_base D hl hs'
  have gIr := fun (q : Addr × Obj) hq => Heap.lt_size (N9 q hq).1
  have N10 := News.push F9 N9 ({ cls := .type "range_iterator", dict := none, data := .fields #[rawInt 0, rawInt (ns.length : Int), rawInt 1], slots := #[] } : Obj) rfl
  have F10 := F9.push ({ cls := .type "range_iterator", dict := none, data := .fields #[rawInt 0, rawInt (ns.length : Int), rawInt 1], slots := #[] } : Obj)
  obtain ⟨hlD, hatD⟩ := places_at hI
  have hIn : IntsAre ds (rangeKs 0 ns.length) := by
    have e : ((vs.length : Int) - 0).toNat = ns.length := by omega
    rw [← e]; exact hI
  have q1 : @LT.lt Nat _ la D' := l3.2.2.2.2.1
  have q2 : @LT.lt Nat _ D' I' := l4.1
  have q3 : @LT.lt Nat _ la c' := l1.2.2.1
  have q4 : @LT.lt Nat _ c' f' := l2
  have q5 : @LT.lt Nat _ f' I' := l4.2.1
  have q6 : @LT.lt Nat _ c' I' := l4.2.2.1
  have q7 : @LT.lt Nat _ (L' + 1 + 1) I' := l4.2.2.2.1
  have q8 : @LT.lt Nat _ (L' + 1) I' := l4.2.2.2.2.1
  have q9 : @LT.lt Nat _ la I' := l4.2.2.2.2.2.1
  have qa : @LT.lt Nat _ lt I' := l4.2.2.2.2.2.2.1
  have qb : @LT.lt Nat _ 114 I' := l4.2.2.2.2.2.2.2.1
  have w1 : @LT.lt Nat _ la lo := l5.2.2.2.2.2.2.1
  have w2 : @LT.lt Nat _ lt lo := l5.2.2.2.2.2.2.2.1
  have w3 : @LT.lt Nat _ 114 lo := l5.2.2.2.2.2.2.2.2.1
  have w4 : ∀ q ∈ led, @LT.lt Nat _ q.1 lo := fun q hq => kst_ltOf l5.2.2.2.2.2.2.2.2.2 q hq
  have w5 : @LT.lt Nat _ L' lo := Nat.lt_of_succ_lt l5.2.2.2.2.2.1
  have w6 : @LT.lt Nat _ I' lo := l5.1
  have nD : D' ∉ [la, I'] := off2 (Nat.ne_of_gt q1) (Nat.ne_of_lt q2)
  have of0 : f' ∉ [la, I'] := off2 (Nat.ne_of_gt (Nat.lt_trans q3 q4)) (Nat.ne_of_lt q5)
  have of1 : c' ∉ [la, I'] := off2 (Nat.ne_of_gt q3) (Nat.ne_of_lt q6)
  have of2 : L' + 1 + 1 ∉ [la, I'] := off2 (Nat.ne_of_gt (Nat.lt_succ_of_lt (Nat.lt_succ_of_lt ltA))) (Nat.ne_of_lt q7)
  have of3 : L' + 1 ∉ [la, I'] := off2 (Nat.ne_of_gt (Nat.lt_succ_of_lt ltA)) (Nat.ne_of_lt q8)
  have of4 : lt ∉ [la, I'] := off2 ho2' (Nat.ne_of_lt qa)
  have of5 : 114 ∉ [la, I'] := off2 ho3' (Nat.ne_of_lt qb)
  have of6 : ∀ q ∈ led, q.1 ∉ [la, I'] := fun q hq => off2 (hnl q hq) (Nat.ne_of_lt (Nat.lt_trans (lk q hq) q6))
  have nled : ∀ q ∈ (f', fo) :: (c', oc') :: (L' + 1 + 1, o') :: (L' + 1, o2') :: (lt, W.listOf vs.toArray c1) :: led, q.1 ∉ [la, I'] := by
    intro q hq
    rcases List.mem_cons.mp hq with rfl | hq
    · exact of0
    rcases List.mem_cons.mp hq with rfl | hq
    · exact of1
    rcases List.mem_cons.mp hq with rfl | hq
    · exact of2
    rcases List.mem_cons.mp hq with rfl | hq
    · exact of3
    rcases List.mem_cons.mp hq with rfl | hq
    · exact of4
    · exact of6 q hq
  refine for_own (RunsJ dp un l s g₀ g' L' h9.objs.size lo I' D' la f' [(f', fo), (c', oc'), (L' + 1 + 1, o'), (L' + 1, o2')] ((lt, W.listOf vs.toArray c1) :: (114, tabObj (#[] ++ #[rawInt ↑80, rawInt ↑4, Value.ref c'])) :: led) ns ds cD) _ ns.length ?h0 ?it ?low ?step
  case h0 => exact ⟨g', _, _, 0, [], litObj D' 0, c2, 0, _, rfl, KtsTurn.refl, F10, by simpa [rngObj] using N10, below_self B', SB0, DD0, rfl, rfl, Nat.zero_le _, .nil, rfl, .inl rfl⟩
  case it => 
    rintro i s₁ ⟨g, h, tk, p, outs, oI, cL, co, u, rfl, TT, F, N, B, SB, DD, e1, e2, hp, so, ri, hp0⟩
    exact (N _ (.head _)).1
  case low =>
    rintro i s₁ ⟨g, h, tk, p, outs, oI, cL, co, u, rfl, TT, F, N, B, SB, DD, e1, e2, hp, so, ri, hp0⟩
    rw [← ri]
    exact refused_lt hcalm
  case step =>
    rintro i s₁ h₁ E' ⟨g, h, tk, p, outs, oI, cL, co, u, rfl, TT, F, N, B, SB, DD, e1, e2, hp, so, ri, hp0⟩ hit hsame
    clear N10 F10 N9 F9 N8 rg k9 rgX k3' hsm SB0 DD0 D B' S' kI'
    generalize h9.objs.size = Ir at *
    have ne1 : ∀ q ∈ (lo, W.listOf outs.toArray co) :: (I', oI) :: (D', W.listOf ds.toArray cD) :: ([(f', fo), (c', oc'), (L' + 1 + 1, o'), (L' + 1, o2')] ++ (la, W.listOf (ds.take p).toArray cL) :: (lt, W.listOf vs.toArray c1) :: (114, tabObj (#[] ++ #[rawInt ↑80, rawInt ↑4, Value.ref c'])) :: led), q.1 ≠ Ir := fun q hq => Nat.ne_of_lt (by
      rcases List.mem_cons.mp hq with rfl | hq
      · exact gIr (lo, W.listOf #[] 0) (List.mem_of_getElem? (i := 0) rfl)
      rcases List.mem_cons.mp hq with rfl | hq
      · exact gIr (I', litObj D' 0) (List.mem_of_getElem? (i := 1) rfl)
      rcases List.mem_cons.mp hq with rfl | hq
      · exact gIr _ (List.mem_of_getElem? (i := 2) rfl)
      rcases List.mem_cons.mp hq with rfl | hq
      · exact gIr _ (List.mem_of_getElem? (i := 3) rfl)
      rcases List.mem_cons.mp hq with rfl | hq
      · exact gIr _ (List.mem_of_getElem? (i := 4) rfl)
      rcases List.mem_cons.mp hq with rfl | hq
      · exact gIr _ (List.mem_of_getElem? (i := 5) rfl)
      rcases List.mem_cons.mp hq with rfl | hq
      · exact gIr _ (List.mem_of_getElem? (i := 6) rfl)
      rcases List.mem_cons.mp hq with rfl | hq
      · exact gIr (la, W.listOf #[] c2) (List.mem_of_getElem? (i := 7) rfl)
      rcases List.mem_cons.mp hq with rfl | hq
      · exact gIr _ (List.mem_of_getElem? (i := 8) rfl)
      rcases List.mem_cons.mp hq with rfl | hq
      · exact gIr _ (List.mem_of_getElem? (i := 9) rfl)
      · exact gIr _ (.tail _ (.tail _ (.tail _ (.tail _ (.tail _ (.tail _ (.tail _ (.tail _ (.tail _ (.tail _ hq)))))))))))
    have N1 := news_head N ne1 hsame hit
    have F1 := Fr.but F (ds := [Ir]) (fun d hd => by rw [List.mem_singleton.mp hd]; exact (N _ (.head _)).2) (fun b o nb e => (hsame.2 b (fun q => nb (by rw [q]; exact .head _))).trans e)
    clear F N hit hsame ne1
    simp only [List.cons_append, List.nil_append] at N1
    refine storeX_L F1 N1 (fun h2 F2 N2 => ?_) rfl rfl
    clear F1 N1
    k_steps
    have Xg : (hd.heap_39 w.params).In g := X₀.keeps fun b o e => of_hideAll _ (SB b o e)
    have Tg : Top noProg loose mean mg mb g := T.keeps fun b o e => of_hideAll _ (SB b o e)
    refine wpAny_Try_except ?_
    k_steps
    refine go ?_
    refine MethodCall_ ?_
    k_steps
    rename_i T0 h3 F3 N3 lT0
    refine star_call w (c := 0) (cL := cL) (cD := cD) F3 N3 ?sub B SB X₀ T hAsk e1 e2 (Nat.ne_of_lt q9) nD nled (hlD.trans hlen) (by rw [hlD]; exact hlen3) hatD hp (by omega) (by omega) rfl (show ScopeKind.function ≠ ScopeKind.module by decide) ?hok2 ?hno2
    case sub =>
      intro q hq
      rcases List.mem_cons.mp hq with rfl | hq
      · exact List.mem_of_getElem? (i := 0) rfl
      rcases List.mem_cons.mp hq with rfl | hq
      · exact List.mem_of_getElem? (i := 3) rfl
      rcases List.mem_cons.mp hq with rfl | hq
      · exact List.mem_of_getElem? (i := 9) rfl
      rcases List.mem_cons.mp hq with rfl | hq
      · exact List.mem_of_getElem? (i := 4) rfl
      rcases List.mem_cons.mp hq with rfl | hq
      · exact List.mem_of_getElem? (i := 5) rfl
      rcases List.mem_cons.mp hq with rfl | hq
      · exact List.mem_of_getElem? (i := 6) rfl
      rcases List.mem_cons.mp hq with rfl | hq
      · exact List.mem_of_getElem? (i := 7) rfl
      rcases List.mem_cons.mp hq with rfl | hq
      · exact List.mem_of_getElem? (i := 8) rfl
      rcases List.mem_cons.mp hq with rfl | hq
      · exact List.mem_of_getElem? (i := 10) rfl
      · exact .tail _ (.tail _ (.tail _ (.tail _ (.tail _ (.tail _ (.tail _ (.tail _ (.tail _ (.tail _ (.tail _ (.tail _ hq)))))))))))
    case hok2 =>
      intro S' h4 tk4 bk lk4 lS ⟨cS, hS⟩ hc
      rw [acc_all] at hS
      obtain ⟨cL4, hla4⟩ := lk4
      have F4 := Fr.but F3 (ds := [la, I']) (fun d hd => by
        rcases List.mem_cons.mp hd with rfl | hd
        · exact (N3 _ (List.mem_of_getElem? (i := 9) rfl)).2
        · rw [List.mem_singleton.mp hd]; exact (N3 _ (List.mem_of_getElem? (i := 3) rfl)).2) bk
      have N4 := news_after (led' := (lo, W.listOf outs.toArray co) :: (lt, W.listOf vs.toArray c1) :: (114, tabObj (#[] ++ #[rawInt ↑80, rawInt ↑4, Value.ref c'])) :: led) F3 N3 bk hS lS (List.mem_of_getElem? (i := 9) rfl) hla4 (fun q hq => by
        rcases List.mem_cons.mp hq with rfl | hq
        · exact ⟨List.mem_of_getElem? (i := 2) rfl, off2 (Nat.ne_of_gt l5.2.2.2.2.2.2.1) (Nat.ne_of_gt l5.1)⟩
        rcases List.mem_cons.mp hq with rfl | hq
        · exact ⟨List.mem_of_getElem? (i := 10) rfl, of4⟩
        rcases List.mem_cons.mp hq with rfl | hq
        · exact ⟨List.mem_of_getElem? (i := 11) rfl, of5⟩
        · exact ⟨.tail _ (.tail _ (.tail _ (.tail _ (.tail _ (.tail _ (.tail _ (.tail _ (.tail _ (.tail _ (.tail _ (.tail _ hq))))))))))), of6 q hq⟩)
      have s1 : @LT.lt Nat _ lo S' := lS _ _ (N3 _ (List.mem_of_getElem? (i := 2) rfl)).1
      clear F3 N3 bk lS hS hla4
      dsimp only
      k_steps
      refine go ?_
      refine repr_yes (Top.seer Tg noImports) N4 (.head _) (by rw [List.length_drop]; omega) rfl (by show un + 3 + 4 < cLine; omega) fun h6 u6 tk6 k6 => ?_
      have F6 := F4.keeps k6
      have N6 : News _ _ _ _ := fun q hq => ⟨k6 _ _ (N4 q hq).1, (N4 q hq).2⟩
      clear F4 N4
      dsimp only
      k_steps
      have no : outs.length ≤ 14 := by
        rw [so.length, List.length_map, ri]
        have := refused_lt (p := p) hcalm
        omega
      refine append_K F6 N6 (.tail (Nat.ne_of_gt s1) (.tail (Nat.ne_of_lt w1) (.head fun q hq => by
        rcases List.mem_cons.mp hq with rfl | hq
        · exact Nat.ne_of_lt w2
        rcases List.mem_cons.mp hq with rfl | hq
        · exact Nat.ne_of_lt w3
        · exact Nat.ne_of_lt (w4 q hq)))) (fun h7 F7 N7 => ?_) (by rw [List.size_toArray, sizeLine_eq]; omega)
      clear F6 N6
      k_steps
      refine hR lo h7 _ ds (outs ++ [.str (yesText (ns.drop p)) u6]) p (fun b o e nf nd => ?_) (fun b o e hf => ?_) ⟨_, (N7 _ (.tail _ (.head _))).1⟩ hIn ⟨co + 1, (N7 _ (.tail _ (.tail _ (.head _)))).1.trans (by simp)⟩ ⟨_, (N7 _ (.tail _ (.tail _ (.tail _ (.tail _ (.head _)))))).1⟩ (by rw [refused_end hc]; exact strs_more so _ _) (fun b o e => ?_) hp0 hc
      · rcases hs' b o e with q | q
        · rcases List.mem_cons.mp q with q | q
          · cases q; exact absurd (.head _) nd
          rcases List.mem_cons.mp q with q | q
          · cases q; exact (N7 _ (.tail _ (.tail _ (.tail _ (.head _))))).1
          rcases List.mem_cons.mp q with q | q
          · cases q; exact absurd (.tail _ (.head _)) nd
          · exact (N7 _ (.tail _ (.tail _ (.tail _ (.tail _ (.tail _ q)))))).1
        · exact F7.keep b o (TT.other b o q nf)
      · rcases hs' b o e with q | q
        · exact absurd hf (hl _ q).2.1
        · obtain ⟨sl, z⟩ := TT.frame b o q hf
          exact ⟨sl, F7.keep _ _ z⟩
      · rcases hs' b o e with q | q
        · exact Nat.lt_trans (lt' _ q) w5
        · have z := Heap.lt_size q
          rw [← TT.size] at z
          exact Nat.lt_trans (Nat.lt_of_lt_of_le z F7.above) w5
    case hno2 =>
      intro j n e t u h4 h5 tk5 hn nc hc bk lk4 feed fl
      obtain ⟨cL4, hla4⟩ := lk4
      obtain ⟨oI4, hI4, f1, f2⟩ := feed
      have F4 := Fr.but F3 (ds := [la, I']) (fun d hd => by
        rcases List.mem_cons.mp hd with rfl | hd
        · exact (N3 _ (List.mem_of_getElem? (i := 9) rfl)).2
        · rw [List.mem_singleton.mp hd]; exact (N3 _ (List.mem_of_getElem? (i := 3) rfl)).2) bk
      have q0 : @LT.lt Nat _ lo Ir := gIr _ (.head _)
      have N4 := news_two [_, _, _] [_, _, _, _, _] N3 (fun q hq => by
        rcases List.mem_cons.mp hq with rfl | hq
        · exact off2 (Nat.ne_of_gt lT0.2.2.2.2.2.2.2.2.1) (Nat.ne_of_gt lT0.2.2.1)
        rcases List.mem_cons.mp hq with rfl | hq
        · exact off2 (Nat.ne_of_gt (Nat.lt_trans w1 q0)) (Nat.ne_of_gt (Nat.lt_trans w6 q0))
        rcases List.mem_cons.mp hq with rfl | hq
        · exact off2 (Nat.ne_of_gt w1) (Nat.ne_of_gt w6)
        rcases List.mem_cons.mp hq with rfl | hq
        · exact nD
        rcases List.mem_cons.mp hq with rfl | hq
        · exact of0
        rcases List.mem_cons.mp hq with rfl | hq
        · exact of1
        rcases List.mem_cons.mp hq with rfl | hq
        · exact of2
        rcases List.mem_cons.mp hq with rfl | hq
        · exact of3
        rcases List.mem_cons.mp hq with rfl | hq
        · exact of4
        rcases List.mem_cons.mp hq with rfl | hq
        · exact of5
        · exact of6 q hq) bk hI4 hla4
      clear F3 N3 bk
      simp only [List.cons_append, List.nil_append] at N4
      refine caughtX (s' := { s with heap := h5, toks := tk5 }) fl rfl F4 N4 B (X₀.keeps SB) (T.keeps SB) DD ?ex PyProof.Rows.Boot.«TypeError» (by decide) PySem.F.isExc_TypeError PySem.F.notTuple_TypeError (by rw [isSubtype_type]; kernel_rfl) ?_
      case ex => k_is
      clear F4 N4
      intro h6 g6 tk6 oe ot TT6 F6 N6 G6 B6 X6 T6 D6
      dsimp only
      k_steps
      refine go ?_
      refine MethodCall_ ?_
      k_steps
      have no : outs.length ≤ 14 := by
        rw [so.length, List.length_map, ri]
        have := refused_lt (p := p) hcalm
        omega
      have nel : e ≠ lo ∧ t ≠ lo := by
        have hlo := (N6 _ (List.mem_of_getElem? (i := 4) rfl)).1
        obtain ⟨oe', ot', ws, nt, m1, m2, c1', _, _, c2', _⟩ := G6
        have a1 := (N6 _ m1).1
        have a2 := (N6 _ m2).1
        refine ⟨fun q => ?_, fun q => ?_⟩
        · dsimp only at a1 hlo
          rw [q, hlo] at a1
          cases a1
          exact absurd (show Value.type "list" = Value.type "TypeError" from c1') (by decide)
        · dsimp only at a2 hlo
          rw [q, hlo] at a2
          cases a2
          exact absurd (show Value.type "list" = Value.type "tuple" from c2') (by decide)
      refine append_K F6 N6 (.tail nel.1 (.tail nel.2 (.tail (Nat.ne_of_gt lT0.2.1) (.tail (Nat.ne_of_gt q0) (.head fun q hq => by
        rcases List.mem_cons.mp hq with rfl | hq
        · exact Nat.ne_of_lt w6
        rcases List.mem_cons.mp hq with rfl | hq
        · exact Nat.ne_of_lt (Nat.lt_trans q2 w6)
        rcases List.mem_cons.mp hq with rfl | hq
        · exact Nat.ne_of_lt (Nat.lt_trans q5 w6)
        rcases List.mem_cons.mp hq with rfl | hq
        · exact Nat.ne_of_lt (Nat.lt_trans q6 w6)
        rcases List.mem_cons.mp hq with rfl | hq
        · exact Nat.ne_of_lt (Nat.lt_trans q7 w6)
        rcases List.mem_cons.mp hq with rfl | hq
        · exact Nat.ne_of_lt (Nat.lt_trans q8 w6)
        rcases List.mem_cons.mp hq with rfl | hq
        · exact Nat.ne_of_lt w1
        rcases List.mem_cons.mp hq with rfl | hq
        · exact Nat.ne_of_lt w2
        rcases List.mem_cons.mp hq with rfl | hq
        · exact Nat.ne_of_lt w3
        · exact Nat.ne_of_lt (w4 q hq)))))) (fun h7 F7 N7 => ?_) (by rw [List.size_toArray, sizeLine_eq]; omega)
      have N8 : News _ _ _ _ := fun q hq => N7 q (.tail _ (.tail _ (.tail _ hq)))
      clear F6 N6 N7 G6
      k_steps
      refine nameX_goes F7 N8 (fun h8 v8 F8 N9 => ?_) rfl rfl
      clear F7 N8
      k_steps
      have e1 : outs.toArray.push (Value.str (toldOf n) u) = (outs ++ [Value.str (toldOf n) u]).toArray := by simp
      rw [rng_next, e1] at N9
      have e2 := refused_more hn nc hc
      have hlt : p + j < ns.length := (List.getElem?_eq_some_iff.mp hn).1
      exact ⟨g6, h8, _, p + j + 1, outs ++ [Value.str (toldOf n) u], oI4, cL4, co + 1, _, rfl, TT.trans TT6, Fr.three F8 rfl rfl rfl, N9, below_self B6, base_next SB TT6, D6, f1, f2, hlt, by rw [e2, List.map_append]; exact strs_more so _ _, by rw [e2, List.length_append, ri]; rfl, .inr ⟨n, hn, nc⟩⟩
end Mine
end
section
open PySem PySem.W PySem.Spec PySem.Calls PyProof.Rows
theorem Mine.tickLawLib (M : Model) (A : Around) (E : Value → Shared → Prop) (s : Shared) (env : Env) (pos : Pos) : wpAny M A (exec (.Pass pos) env) (fun _ _ => True) E s := by
  w_top off
  first | (walk1; fail) | exact wpAny_Pass trivial
end
section
open PySem PySem.W PySem.Spec PySem.Calls PyProof.Rows
set_option maxHeartbeats 2000000
namespace Mine
theorem ghost_seer {h : Heap} {tabs : List (Addr × Addr)} (hT : TabsAt tabs h) (S : h.NoSeer) : (ghostOf h tabs).NoSeer where
  statics := let ⟨mc, a, r⟩ := S.statics; ⟨mc, ghost_ns hT a, r⟩
  mods := let ⟨mm, a, r⟩ := S.mods; ⟨mm, ghost_ns hT a, r⟩
  imp := let ⟨mb, a, r⟩ := S.imp; ⟨mb, ghost_ns hT a, r⟩
  main := let ⟨mg, bm, ob, a, b, c, d, e⟩ := S.main; ⟨mg, bm, ob, ghost_ns hT a, b, ghost_get hT c (fun q => by rw [q] at d; cases d), d, e⟩
theorem viewImports : importsNone hd.view_39 = true := by decide +kernel
theorem addl_K {prog : Program} {w : World} {A : Around} {E : Value → Shared → Prop} {s : Shared} {h₀ : Heap} {L a b : Addr} {m : Str → Option Value} {news : List (Addr × Obj)} {vs ws : List Value} {c1 c2 : Nat} {Q : Value → Shared → Prop} (F : Fr h₀ L s.heap m) (N : News h₀ L s.heap news)
    (ma : (a, W.listOf vs.toArray c1) ∈ news) (mb : (b, W.listOf ws.toArray c2) ∈ news) (hz : vs.length + ws.length ≤ 100)
    (h : ∀ (D : Addr) h', Fr h₀ L h' m → News h₀ L h' ((D, W.listOf (vs ++ ws).toArray 0) :: news) → (∀ p ∈ news, @LT.lt Nat _ p.1 D) → Q (.ref D) { s with heap := h' }) :
    wpAny (model prog w) A (binaryOp .Add (.ref a) (.ref b)) Q E s :=
  add_lists F N (News.isList N ma) (News.isList N mb) (fun h' F' N' => h _ h' F' N' fun p hp => Heap.lt_size (N p hp).1) (by rw [sizeLine_eq]; omega)
def ThingsJ (w : World) (L : Nat) (base : List (Addr × Obj)) (ns : List Int) (i : Nat) (ys : List Value) (nw : List (Addr × Obj)) : Prop :=
  ∃ ex, nw = base ++ ex ∧ (∀ p ∈ ex, @LT.lt Nat _ (L + 3) p.1) ∧ ys.length = i ∧ ∀ (j : Nat) (v : Value), ys[j]? = some v → ∃ n, ns[j]? = some n ∧ IsThing w ex v n
theorem thingsJ_zero {w : World} {L : Nat} {base : List (Addr × Obj)} {ns : List Int} : ThingsJ w L base ns 0 [] base := ⟨[], (List.append_nil _).symm, (fun _ h => nomatch h), rfl, fun j v h => by simp at h⟩
theorem calm6 : Calm 6 := .inl (told_yes (by decide) (by
  rw [show (6 : Int).fdiv 6 = 1 from by decide, codesOf_pos (by decide)]
  decide))
theorem not_calm8 : ¬ Calm 8 := by
  have h := told_refN (n := 8) (by decide) (by decide) (by decide)
  unfold Calm
  rw [h]
  exact fun z => z.elim (ref_ne _ (by decide)) (ref_ne _ (by decide))
theorem draws_add {prog : Program} {w : World} {A : Around} {E : Value → Shared → Prop} {s : Shared} {h₀ : Heap} {L a b : Addr} {m : Str → Option Value} {news : List (Addr × Obj)} {t1 t2 t3 t4 : Tok} {ws : List Value} {ds : List Int} {k c1 c2 : Nat} {Q : Value → Shared → Prop} (F : Fr h₀ L s.heap m) (N : News h₀ L s.heap news)
    (ma : (a, W.listOf #[.int 6 t1, .int 8 t2, .int 7 t3, .int 0 t4] c1) ∈ news) (mb : (b, W.listOf ws.toArray c2) ∈ news) (hi : IntsAre ws ds) (hd : DrawsOk k ds)
    (h : ∀ (D : Addr) h' (VS : List Value) (DS : List Int), IntsAre VS DS → (∀ n ∈ DS, 0 ≤ n ∧ n < 2400) → (∃ n ∈ DS, Calm n) → (∃ n ∈ DS, ¬ Calm n) → DS.length ≤ 14 → VS.length ≤ 14 → Fr h₀ L h' m → News h₀ L h' ((D, W.listOf VS.toArray 0) :: news) → (∀ p ∈ news, @LT.lt Nat _ p.1 D) → Q (.ref D) { s with heap := h' }) :
    wpAny (model prog w) A (binaryOp .Add (.ref a) (.ref b)) Q E s := by
  have h10 : ws.length ≤ 10 := by rw [hi.length, hd.1]; omega
  have hDS : IntsAre ([.int 6 t1, .int 8 t2, .int 7 t3, .int 0 t4] ++ ws) ([6, 8, 7, 0] ++ ds) := .cons 6 _ (.cons 8 _ (.cons 7 _ (.cons 0 _ hi)))
  have hlen : ([6, 8, 7, 0] ++ ds).length ≤ 14 := by
    rw [List.length_append, ← hi.length]
    show 4 + _ ≤ 14
    omega
  refine addl_K (vs := [.int 6 t1, .int 8 t2, .int 7 t3, .int 0 t4]) F N ma mb (by show 4 + _ ≤ 100; omega) fun D h' F' N' lt => ?_
  refine h D h' _ _ hDS (fun n hn => ?_) ⟨6, .head _, calm6⟩ ⟨8, .tail _ (.head _), not_calm8⟩ hlen (by rw [hDS.length]; exact hlen) F' N' lt
  rcases List.mem_append.mp hn with hn | hn
  · simp only [List.mem_cons, List.not_mem_nil, or_false] at hn
    omega
  · exact hd.2 n hn
theorem things_end {w : World} {h₀ h6 : Heap} {L I C D : Addr} {LL : Nat} {m : Str → Option Value} {s₁ : Shared} {oI oC : Obj} {S : List (Addr × Obj) → Prop} {base ex tl2 tl' : List (Addr × Obj)} {ys : List Value} {DS : List Int} {i : Nat} {n : Int} {r : Value} {tk6 : Nat} {p3 : Addr × Obj}
    (F6 : Fr h₀ L h6 m) (N6 : News h₀ L h6 (((I, oI) :: (C, oC) :: (D, LCg.lst ys) :: (base ++ ex)) ++ tl2)) (htl : ∀ p ∈ tl', p ∈ ((I, oI) :: (C, oC) :: (D, LCg.lst ys) :: (base ++ ex)) ++ tl2 ∧ ∀ q ∈ (I, oI) :: (C, oC) :: (D, LCg.lst ys) :: (base ++ ex), @LT.lt Nat _ q.1 p.1)
    (O : IsThing w tl' r n) (off : LCg.Off3 I C D (base ++ ex)) (h3 : p3 ∈ base) (h3' : p3.1 = LL + 3) (hS : ∀ nw, (∀ p ∈ base, p ∈ nw) → S nw) (hex : ∀ p ∈ ex, @LT.lt Nat _ (LL + 3) p.1) (hlen : ys.length = i) (hys : ∀ (j : Nat) (v : Value), ys[j]? = some v → ∃ n, DS[j]? = some n ∧ IsThing w ex v n) (hn : DS[i]? = some n) :
    LCg.CompEnd h₀ L m s₁ I oI C oC D (LCg.lst ys) S (fun y nw' => ThingsJ w LL base DS (i + 1) (ys ++ [y]) nw') r { s₁ with heap := h6, toks := tk6 } := by
  refine LCg.CompEnd.intro F6 N6 (base ++ (ex ++ tl')) (fun p hp => ?_) (LCg.Off3.of fun p hp => ?_) (hS _ fun p hp => List.mem_append_left _ hp) ⟨ex ++ tl', rfl, fun p hp => ?_, by rw [List.length_append, hlen]; rfl, fun j v hj => ?_⟩
  · rcases List.mem_cons.mp hp with rfl | hp
    · exact .head _
    rcases List.mem_cons.mp hp with rfl | hp
    · exact .tail _ (.head _)
    rcases List.mem_cons.mp hp with rfl | hp
    · exact .tail _ (.tail _ (.head _))
    rcases List.mem_append.mp hp with hp | hp
    · exact List.mem_append_left _ (.tail _ (.tail _ (.tail _ (List.mem_append_left _ hp))))
    rcases List.mem_append.mp hp with hp | hp
    · exact List.mem_append_left _ (.tail _ (.tail _ (.tail _ (List.mem_append_right _ hp))))
    · exact (htl p hp).1
  · rcases List.mem_append.mp hp with hp | hp
    · exact off.mem p (List.mem_append_left _ hp)
    rcases List.mem_append.mp hp with hp | hp
    · exact off.mem p (List.mem_append_right _ hp)
    · have z := (htl p hp).2
      exact ⟨Nat.ne_of_gt (z _ (.head _)), Nat.ne_of_gt (z _ (.tail _ (.head _))), Nat.ne_of_gt (z _ (.tail _ (.tail _ (.head _))))⟩
  · rcases List.mem_append.mp hp with hp | hp
    · exact hex p hp
    · rw [← h3']
      exact (htl p hp).2 p3 (.tail _ (.tail _ (.tail _ (List.mem_append_left _ h3))))
  · by_cases hlt : j < ys.length
    · rw [List.getElem?_append_left hlt] at hj
      obtain ⟨n', a, b⟩ := hys j v hj
      exact ⟨n', a, b.mono fun p hp => List.mem_append_left _ hp⟩
    · rw [List.getElem?_append_right (by omega)] at hj
      have e : j - ys.length = 0 := by
        cases q : j - ys.length with
        | zero => rfl
        | succ k => rw [q] at hj; simp at hj
      rw [e] at hj
      cases hj
      have : j = i := by omega
      subst this
      exact ⟨n, hn, O.mono fun p hp => List.mem_append_right _ hp⟩
theorem off1_mem {D : Addr} : ∀ {l : List (Addr × Obj)}, LCg.Off1 D l → ∀ p ∈ l, @Ne Nat p.1 D
  | [], _, _, h => nomatch h
  | _ :: _, x, p, h => by
    rcases List.mem_cons.mp h with rfl | h
    · exact x.1
    · exact off1_mem x.2 p h
theorem storeC {M : Model} {A : Around} {E : Value → Shared → Prop} {s : Shared} {cn : Str} {cs : Scope} {L a : Addr} {ccd : Value} {cl : List (Str × Addr)} {h₀ : Heap} {m : Str → Option Value} {news : List (Addr × Obj)} {x : Str} {v : Value} {c : Addr} {o : Obj} {v0 : Option Value} {Q : Unit → Shared → Prop}
    (F : Fr h₀ L s.heap m) (N : News h₀ L s.heap news) (hc : cl.lookup x = some c) (hm : (c, o) ∈ news) (hd : o.data = .cell v0) (led' : List (Addr × Obj)) (sub : ∀ p ∈ led', p ∈ news ∧ p.1 ≠ c)
    (h : ∀ h' o', Fr h₀ L h' m → News h₀ L h' ((c, o') :: led') → o'.data = .cell (some v) → Q () { s with heap := h' })
    (hk : cs.kind = .function := by rfl) (hx : (envX cn cs L a ccd cl).kindOf x = some .cell := by rfl) : wpAny M A (storeName (envX cn cs L a ccd cl) x v) Q E s :=
  storeX_C F (fun p hp => N p (by
    rcases List.mem_cons.mp hp with rfl | hp
    · exact hm
    · exact (sub p hp).1)) hc (.head fun p hp => (sub p hp).2) hd h hk hx
theorem keep_end {h₀ h6 : Heap} {L I C D : Addr} {m : Str → Option Value} {s₁ : Shared} {oI oC oD : Obj} {S : List (Addr × Obj) → Prop} {base all : List (Addr × Obj)} {rest : Value → List (Addr × Obj) → Prop} {r : Value} {tk6 : Nat}
    (F6 : Fr h₀ L h6 m) (N6 : News h₀ L h6 all) (sub : ∀ p ∈ (I, oI) :: (C, oC) :: (D, oD) :: base, p ∈ all) (off : LCg.Off3 I C D base) (hS : S base) (hr : rest r base) :
    LCg.CompEnd h₀ L m s₁ I oI C oC D oD S rest r { s₁ with heap := h6, toks := tk6 } := LCg.CompEnd.intro F6 N6 base sub off hS hr
def ToldJ (base : List (Addr × Obj)) (ns : List Int) (i : Nat) (ys : List Value) (nw : List (Addr × Obj)) : Prop := nw = base ∧ StrsAre ys ((ns.take i).map toldOf)
theorem told_next {base : List (Addr × Obj)} {ns : List Int} {i : Nat} {ys : List Value} {n : Int} {t : Tok} (hn : ns[i]? = some n) (h : StrsAre ys ((ns.take i).map toldOf)) : ToldJ base ns (i + 1) (ys ++ [.str (toldOf n) t]) base := by
  refine ⟨rfl, ?_⟩
  rw [← take_one hn, List.map_append]
  exact strs_more h _ _
theorem kept_fr {g h h' : Heap} {L : Addr} {m : Str → Option Value} {env : Env} (F : Fr g L h m) (hf : env.frame = some L) (K : KeptF [env] h h') : Fr g L h' m := by
  obtain ⟨oL, es, ep, hL, hd, r⟩ := F.ns
  have hfs : fsOf [env] = [L] := fsOf_cons hf
  obtain ⟨sl, hs⟩ := K.frame _ _ hL (by rw [hfs]; exact .head _)
  refine ⟨⟨_, es, ep, hs, hd, r⟩, fun b o e => K.keep b o (F.keep b o e) ?_, F.above⟩
  rw [hfs]
  intro q
  rw [List.mem_singleton.mp q, kts_self F] at e
  cases e
theorem kept_news {g h h' : Heap} {L : Addr} {env : Env} {news : List (Addr × Obj)} (N : News g L h news) (hf : env.frame = some L) (K : KeptF [env] h h') : News g L h' news := fun q hq => by
  refine ⟨K.keep _ _ (N q hq).1 ?_, (N q hq).2⟩
  rw [fsOf_cons (l := []) hf]
  intro z
  exact (N q hq).2.1 (List.mem_singleton.mp z)
theorem base_nil {g : Heap} : g.StaysIn (hideAll g (fsOf [])) := fun b o e => hideAll_get _ e List.not_mem_nil
theorem dicts_one {g h : Heap} {L : Addr} {m : Str → Option Value} {env : Env} (F : Fr g L h m) (hf : env.frame = some L) : KtsDicts (fsOf [env]) h := fun b hb => by
  rw [fsOf_cons (l := []) hf] at hb
  rw [List.mem_singleton.mp hb]
  obtain ⟨oL, es, ep, hL, hd, _⟩ := F.ns
  exact ⟨oL, es, ep, hL, hd⟩
theorem alone_call (w : World) (n : Int) (h0 : 0 ≤ n) (h1 : n < 2400) {loose : List Str} {mean : ExcName → Option Value} {mg mb : Str → Option Value} {A₀ : Around} {dp un : Nat} {env : Env} {s : Shared} {g : Heap} {L : Addr} {m : Str → Option Value} {led all : List (Addr × Obj)} {v : Value}
    {Q E : Value → Shared → Prop} (F : Fr g L s.heap m) (N : News g L s.heap all) (sub : ∀ q ∈ led, q ∈ all) (B : Below A₀ g [] g) (X : (hd.heap_39 w.params).In g) (T : Top noProg loose mean mg mb g) (O : IsThing w led v n)
    (hf : env.frame = some L) (hm : env.scope.kind ≠ .module) (hdp : dp + 30 < recursionLimit) (hun : un + 240 < cLine)
    (hok : ∀ u h' tk, Fr g L h' m → News g L h' all → Q (.str (toldOf n) u) { s with heap := h', toks := tk }) :
    wpAny (model PySem.Challenge.rw_kl0055_01.row.prog w) (aroundOf dp un [env]) (call (.ref 112) [v]) Q E s := by
  have B' := below_self B
  refine wpAny_call (alone_code w n h0 h1 (l := [env]) (g₀ := g) (led := led) (ff_of F B' base_nil hf hm) F.keep X T (fun q hq => hl_of N B' base_nil hf q (sub q hq)) (dicts_one F hf) O hdp hun ?_)
  intro u h' tk K
  exact hok u h' tk (kept_fr F hf K) (kept_news N hf K)
theorem ne_strs {prog : Program} {w : World} {A : Around} {E : Value → Shared → Prop} {s : Shared} {Q : Value → Shared → Prop} {a b : Addr} {xs ys : List Value} {ws : List Str} (ha : s.heap.IsList a xs.toArray) (hb : s.heap.IsList b ys.toArray) (hi : StrsAre xs ws) (hj : StrsAre ys ws) (hu : A.units < cLine) (h : Q (.bool false) s) :
    wpAny (model prog w) A (compareOp .NotEq (.ref a) (.ref b)) Q E s := by
  refine (show SeqAt.RcNeAt A s (.ref a) (.ref b) false → _ from fun z => z prog w E Q h) ?_
  have key := (SeqAt.RcNeAt.lists (e := fun _ => true) ha hb (by rw [List.size_toArray, List.size_toArray, hi.length, hj.length]) hu fun j h1 h2 => by
    have hz : j < ws.length := by rw [List.size_toArray, hi.length] at h1; exact h1
    obtain ⟨t, e1⟩ := StrsAre.at hi (List.getElem?_eq_getElem hz)
    obtain ⟨u, e2⟩ := StrsAre.at hj (List.getElem?_eq_getElem hz)
    have f1 : xs.toArray[j] = .str ws[j] t := by
      obtain ⟨_, q⟩ := List.getElem?_eq_some_iff.mp e1
      simpa using q
    have f2 : ys.toArray[j] = .str ws[j] u := by
      obtain ⟨_, q⟩ := List.getElem?_eq_some_iff.mp e2
      simpa using q
    rw [f1, f2]
    have := SeqAt.EqAt.str_str (A := A.in1) (s := s) ws[j] t ws[j] u
    simpa using this)
  have z : (!(List.range xs.toArray.size).all fun _ => true) = false := by rw [List.all_eq_true.mpr fun _ _ => rfl]; rfl
  rw [z] at key
  exact key
theorem runs_call (w : World) (ns : List Int) (hns : ∀ n ∈ ns, 0 ≤ n ∧ n < 2400) {loose : List Str} {mean : ExcName → Option Value} {mg mb : Str → Option Value} {A₀ : Around} {dp un : Nat} {env : Env} {s : Shared} {g : Heap} {L : Addr} {m : Str → Option Value} {ex all rest : List (Addr × Obj)} {vs : List Value} {lt la : Addr} {c1 c2 : Nat}
    {Q E : Value → Shared → Prop} (F : Fr g L s.heap m) (N : News g L s.heap all) (sub : ∀ q ∈ (la, W.listOf (#[] : Array Value) c2) :: (lt, W.listOf vs.toArray c1) :: (114, tabObj #[]) :: ex, q ∈ all) (hrest : ∀ q ∈ rest, q ∈ all ∧ q.1 ∉ [la, 114])
    (B : Below A₀ g [] g) (X : (hd.heap_39 w.params).In g) (T : Top noProg loose mean mg mb g) (hC : CodeHd g 118 114) (hne : ∀ p ∈ ex, p.1 ≠ 114) (ho1 : @Ne Nat 114 lt) (ho2 : @Ne Nat lt la) (ho3 : @Ne Nat 114 la) (hf : env.frame = some L) (hm : env.scope.kind ≠ .module)
    (hdp : dp + 80 < recursionLimit) (hun : un + 480 < cLine) (hlen : vs.length = ns.length) (hfew : ns.length ≤ 14) (hnl : ∀ p ∈ ex, p.1 ≠ la) (hI : ∀ (j : Nat) (v : Value), vs[j]? = some v → ∃ n, ns[j]? = some n ∧ IsThing w ex v n) (hcalm : ∃ n ∈ ns, Calm n)
    (hok : ∀ (lo : Addr) h' tk (ds outs : List Value) (p co cL : Nat) (ps : Array Value), Fr g L h' m → News g L h' ((lo, W.listOf outs.toArray co) :: (la, W.listOf ds.toArray cL) :: (rest ++ [(114, tabObj ps)])) → (∀ q ∈ all, @LT.lt Nat _ q.1 lo) → IntsAre ds (rangeKs 0 ns.length) → StrsAre outs ((refusedOf ns).map toldOf ++ [yesText (ns.drop p)]) →
      (p = 0 ∨ ∃ n, ns[p - 1]? = some n ∧ ¬ Calm n) → (∀ n ∈ ns.drop p, Calm n) → Q (.ref lo) { s with heap := h', toks := tk }) :
    wpAny (model PySem.Challenge.rw_kl0055_01.row.prog w) (aroundOf dp un [env]) (call (.ref 119) [.ref lt, .ref la]) Q E s := by
  have B' := below_self B
  have hfs : fsOf [env] = [L] := fsOf_cons hf
  have mla := N _ (sub _ (.head _))
  have m114 := N _ (sub _ (.tail _ (.tail _ (.head _))))
  refine wpAny_call (runs_code w ns hns (l := [env]) (g₀ := g) (led := ex) (c1 := c1) (c2 := c2) (vs := vs) (ff_of F B' base_nil hf hm) F.keep X T (fun q hq => hl_of N B' base_nil hf q (sub q hq)) (dicts_one F hf) hC hne ho1 ho2 ho3 hdp hun hlen hfew (by rw [hlen]; exact hfew) hnl hcalm ?hR fun i n hn => ?hI)
  case hI =>
    have hi : i < vs.length := by rw [hlen]; exact (List.getElem?_eq_some_iff.mp hn).1
    obtain ⟨n', a, b⟩ := hI i vs[i] (List.getElem?_eq_getElem hi)
    rw [hn] at a
    cases a
    exact ⟨_, List.getElem?_eq_getElem hi, b⟩
  case hR =>
    rintro lo h' tk ds outs p keep frame ⟨cL, hla⟩ hds ⟨co, hlo⟩ ⟨ps, hps⟩ hout hlt hp hc
    have off : ∀ b o, g.get? b = some o → b ∉ fsOf [env] ∧ b ∉ [la, 114] := fun b o e => by
      refine ⟨fun q => ?_, fun q => ?_⟩
      · rw [hfs] at q
        rw [List.mem_singleton.mp q, kts_self F] at e; cases e
      · rcases List.mem_cons.mp q with q | q
        · rw [q, mla.2.2] at e; cases e
        · rw [List.mem_singleton.mp q, m114.2.2] at e; cases e
    obtain ⟨oL, es, ep, hL, hd, r⟩ := id F.ns
    obtain ⟨sl, hs⟩ := frame _ _ hL (by rw [hfs]; exact .head _)
    have F' : Fr g L h' m := ⟨⟨_, es, ep, hs, hd, r⟩, fun b o e => keep b o (F.keep b o e) (off b o e).1 (off b o e).2, F.above⟩
    refine hok lo h' tk ds outs p co cL ps F' (fun q hq => ?_) (fun q hq => hlt _ _ (N q hq).1) hds hout hp hc
    rcases List.mem_cons.mp hq with rfl | hq
    · refine ⟨hlo, Nat.ne_of_gt (hlt _ _ hL), ?_⟩
      cases e : g.get? lo with
      | none => rfl
      | some o => exact absurd (hlt _ _ (F.keep _ _ e)) (Nat.lt_irrefl _)
    rcases List.mem_cons.mp hq with rfl | hq
    · exact ⟨hla, mla.2⟩
    rcases List.mem_append.mp hq with hq | hq
    rotate_left
    · rw [List.mem_singleton.mp hq]; exact ⟨hps, m114.2⟩
    · have z := N q (hrest q hq).1
      refine ⟨keep _ _ z.1 (fun y => ?_) (hrest q hq).2, z.2⟩
      rw [hfs] at y
      exact z.2.1 (List.mem_singleton.mp y)
def pickIdx (f : Int → Bool) (ns : List Int) (i : Nat) : List Int := (rangeKs 0 i).filter fun k => f (ns.getD k.toNat 0)
theorem rangeKs_succ (i : Nat) : rangeKs 0 (i + 1) = rangeKs 0 i ++ [(0 : Int) + (i : Int)] := by
  unfold rangeKs
  rw [List.range_succ, List.map_append]
  rfl
theorem pick_yes {f : Int → Bool} {ns : List Int} {i : Nat} {n : Int} (hn : ns[i]? = some n) (h : f n = true) : pickIdx f ns (i + 1) = pickIdx f ns i ++ [(0 : Int) + (i : Int)] := by
  unfold pickIdx
  have e : ns.getD ((0 : Int) + (i : Int)).toNat 0 = n := by
    rw [show ((0 : Int) + (i : Int)).toNat = i by omega, List.getD_eq_getElem?_getD, hn]; rfl
  rw [rangeKs_succ, List.filter_append, List.filter_cons_of_pos (by rw [e]; exact h)]
  rfl
theorem pick_no {f : Int → Bool} {ns : List Int} {i : Nat} {n : Int} (hn : ns[i]? = some n) (h : f n = false) : pickIdx f ns (i + 1) = pickIdx f ns i := by
  unfold pickIdx
  have e : ns.getD ((0 : Int) + (i : Int)).toNat 0 = n := by
    rw [show ((0 : Int) + (i : Int)).toNat = i by omega, List.getD_eq_getElem?_getD, hn]; rfl
  rw [rangeKs_succ, List.filter_append, List.filter_cons_of_neg (by rw [e, h]; decide), List.filter_nil, List.append_nil]
def PickJ (base : List (Addr × Obj)) (f : Int → Bool) (ns : List Int) (i : Nat) (ys : List Value) (nw : List (Addr × Obj)) : Prop := nw = base ∧ IntsAre ys (pickIdx f ns i)
theorem any_calm {DS : List Int} {i : Nat} {n : Int} {b : Bool} (hn : DS[i]? = some n) (h : ([Str.ofString "yes", Str.ofString "no"].any fun x => x == (DS.map toldOf).getD ((0 : Int) + (i : Int)).toNat Str.empty) = b) : calmB n = b := by
  have e : (DS.map toldOf).getD ((0 : Int) + (i : Int)).toNat Str.empty = toldOf n := by
    rw [show ((0 : Int) + (i : Int)).toNat = i by omega, List.getD_eq_getElem?_getD, List.getElem?_map, hn]; rfl
  rw [e] at h
  rw [← h]
  unfold calmB
  rw [Bool.eq_iff_iff]
  simp only [List.any_cons, List.any_nil, Bool.or_false, Bool.or_eq_true, beq_iff_eq]
  exact ⟨fun z => z.imp Eq.symm Eq.symm, fun z => z.imp Eq.symm Eq.symm⟩
theorem refs_yes {base : List (Addr × Obj)} {DS : List Int} {i : Nat} {n : Int} {t : Tok} {qs : List Value} (hn : DS[i]? = some n) (h : calmB n = false) (hq : IntsAre qs (pickIdx (fun n => !calmB n) DS i)) : PickJ base (fun n => !calmB n) DS (i + 1) (qs ++ [.int ((0 : Int) + (i : Int)) t]) base := by
  refine ⟨rfl, ?_⟩
  rw [pick_yes hn (by rw [h]; rfl)]
  exact intsAre_snoc hq _ _
theorem refs_no {base : List (Addr × Obj)} {DS : List Int} {i : Nat} {n : Int} {qs : List Value} (hn : DS[i]? = some n) (h : calmB n = true) (hq : IntsAre qs (pickIdx (fun n => !calmB n) DS i)) : PickJ base (fun n => !calmB n) DS (i + 1) qs base := by
  refine ⟨rfl, ?_⟩
  rw [pick_no hn (by rw [h]; rfl)]
  exact hq
theorem pick_few {f : Int → Bool} {ns : List Int} (h : ns.length ≤ 14) : (pickIdx f ns ns.length).length ≤ 14 := by
  unfold pickIdx
  exact Nat.le_trans (List.length_filter_le _ _) (by rw [rangeKs_length]; exact h)
theorem pick_bounds {f : Int → Bool} {ns : List Int} {k : Int} (h : k ∈ pickIdx f ns ns.length) : 0 ≤ k ∧ k < (ns.length : Int) := by
  unfold pickIdx at h
  have := mem_rangeKs (List.mem_filter.mp h).1
  omega
def TextJ (base : List (Addr × Obj)) (ns : List Int) (ks : List Int) (i : Nat) (ys : List Value) (nw : List (Addr × Obj)) : Prop := nw = base ∧ StrsAre ys ((ks.take i).map fun k => (ns.map toldOf).getD k.toNat Str.empty)
theorem text_next {base : List (Addr × Obj)} {ns ks : List Int} {i : Nat} {ys : List Value} {k : Int} {t : Tok} (hk : ks[i]? = some k) (h : StrsAre ys ((ks.take i).map fun k => (ns.map toldOf).getD k.toNat Str.empty)) :
    TextJ base ns ks (i + 1) (ys ++ [.str ((ns.map toldOf).getD k.toNat Str.empty) t]) base := by
  refine ⟨rfl, ?_⟩
  rw [← take_one hk, List.map_append]
  exact strs_more h _ _
theorem pick_last_at {f : Int → Bool} {ns : List Int} : ∀ i : Nat, i ≤ ns.length → ((∀ n ∈ ns.take i, f n = false) ∧ pickIdx f ns i = []) ∨ ∃ k : Nat, k < i ∧ (pickIdx f ns i).getLast? = some (k : Int) ∧ f (ns.getD k 0) = true ∧ ∀ n ∈ (ns.take i).drop (k + 1), f n = false
  | 0, _ => .inl ⟨fun n hn => by simp at hn, rfl⟩
  | i + 1, hi => by
    have hlt : i < ns.length := hi
    obtain ⟨n, hn⟩ : ∃ n, ns[i]? = some n := ⟨_, List.getElem?_eq_getElem hlt⟩
    have hg : ns.getD i 0 = n := by rw [List.getD_eq_getElem?_getD, hn]; rfl
    cases hf : f n with
    | true =>
      refine .inr ⟨i, Nat.lt_succ_self i, ?_, by rw [hg]; exact hf, fun m hm => ?_⟩
      · rw [pick_yes hn hf, List.getLast?_append]; simp
      · rw [List.drop_eq_nil_of_le (by rw [List.length_take]; omega)] at hm; cases hm
    | false =>
      rw [pick_no hn hf, ← take_one hn]
      rcases pick_last_at i (Nat.le_of_lt hlt) with ⟨a, b⟩ | ⟨k, hk, hl, hfk, hd⟩
      · refine .inl ⟨fun m hm => ?_, b⟩
        rcases List.mem_append.mp hm with hm | hm
        · exact a m hm
        · rw [List.mem_singleton.mp hm]; exact hf
      · refine .inr ⟨k, Nat.lt_succ_of_lt hk, hl, hfk, fun m hm => ?_⟩
        rw [List.drop_append_of_le_length (by rw [List.length_take]; omega)] at hm
        rcases List.mem_append.mp hm with hm | hm
        · exact hd m hm
        · rw [List.mem_singleton.mp hm]; exact hf
theorem pick_last {f : Int → Bool} {ns : List Int} (h : ∃ n ∈ ns, f n = true) : ∃ k : Nat, k < ns.length ∧ (pickIdx f ns ns.length).getLast? = some (k : Int) ∧ f (ns.getD k 0) = true ∧ ∀ n ∈ ns.drop (k + 1), f n = false := by
  rcases pick_last_at (f := f) (ns := ns) ns.length (Nat.le_refl _) with ⟨a, _⟩ | ⟨k, hk, hl, hf, hd⟩
  · obtain ⟨n, hn, hf⟩ := h
    rw [List.take_length] at a
    rw [a n hn] at hf; cases hf
  · rw [List.take_length] at hd
    exact ⟨k, hk, hl, hf, hd⟩
theorem pick_texts {f : Int → Bool} {ns : List Int} : ∀ i : Nat, i ≤ ns.length → (pickIdx f ns i).map (fun k => (ns.map toldOf).getD k.toNat Str.empty) = ((ns.take i).filter f).map toldOf
  | 0, _ => rfl
  | i + 1, hi => by
    have hlt : i < ns.length := hi
    obtain ⟨n, hn⟩ : ∃ n, ns[i]? = some n := ⟨_, List.getElem?_eq_getElem hlt⟩
    have ih := pick_texts (f := f) i (Nat.le_of_lt hlt)
    have hg : (ns.map toldOf).getD ((0 : Int) + (i : Int)).toNat Str.empty = toldOf n := by
      rw [show ((0 : Int) + (i : Int)).toNat = i by omega, List.getD_eq_getElem?_getD, List.getElem?_map, hn]; rfl
    cases hf : f n with
    | true => rw [pick_yes hn hf, ← take_one hn, List.map_append, ih, List.filter_append, List.map_append, List.map_cons, hg, List.filter_cons_of_pos hf]; rfl
    | false => rw [pick_no hn hf, ← take_one hn, ih, List.filter_append, List.filter_cons_of_neg (by rw [hf]; decide), List.filter_nil, List.append_nil]
theorem same_end {ns : List Int} {p k : Nat} (hk : k < ns.length) (hf : calmB (ns.getD k 0) = false) (hd : ∀ n ∈ ns.drop (k + 1), calmB n = true) (hp : p = 0 ∨ ∃ n, ns[p - 1]? = some n ∧ ¬ Calm n) (hc : ∀ n ∈ ns.drop p, Calm n) : p = k + 1 := by
  have hg : ns.getD k 0 = ns[k] := by rw [List.getD_eq_getElem?_getD, List.getElem?_eq_getElem hk]; rfl
  have h1 : k < p := by
    refine Nat.lt_of_not_le fun hle => ?_
    have hm : ns[k] ∈ ns.drop p := List.mem_of_getElem? (i := k - p) (by rw [List.getElem?_drop, show p + (k - p) = k by omega]; exact List.getElem?_eq_getElem hk)
    have := calm_iff.mpr (hc _ hm)
    rw [← hg, hf] at this; cases this
  rcases hp with rfl | ⟨n, hn, nc⟩
  · omega
  · refine Nat.le_antisymm (Nat.le_of_not_lt fun hlt => nc ?_) h1
    refine calm_iff.mp (hd n (List.mem_of_getElem? (i := p - 1 - (k + 1)) ?_))
    rw [List.getElem?_drop, show k + 1 + (p - 1 - (k + 1)) = p - 1 by omega]; exact hn
theorem last_int {qs : List Value} {ks : List Int} {k : Int} (h : IntsAre qs ks) (hl : ks.getLast? = some k) : ∃ t, seqIndex? (-1) qs.length = some (qs.length - 1) ∧ qs[qs.length - 1]? = some (.int k t) := by
  have hpos : 0 < ks.length := by
    cases ks with
    | nil => cases hl
    | cons a r => exact Nat.succ_pos _
  rw [List.getLast?_eq_getElem?] at hl
  obtain ⟨t, ht⟩ := h.get (ks.length - 1) k hl
  rw [h.length]
  refine ⟨t, ?_, ht⟩
  have e : ((-1 : Int) + (ks.length : Int)).toNat = ks.length - 1 := by omega
  unfold seqIndex?
  simp only [show (-1 : Int) < 0 by decide, if_true]
  rw [if_pos (by rw [Bool.and_eq_true, decide_eq_true_eq, decide_eq_true_eq]; omega), e]
theorem slice_from {vs : List Value} {x : Int} (h : 0 ≤ x) : (slicePick vs.toArray (some x) none none).toList = vs.drop x.toNat := by
  have e : sliceBounds (some x) none none vs.toArray.size = (((min x.toNat vs.toArray.size : Nat) : Int), ((vs.toArray.size : Nat) : Int), 1) := by
    simp only [sliceBounds, Option.getD_none, show (1 : Int) > 0 by decide, if_true, if_neg (show ¬ (x < 0) by omega)]
    congr 1
    omega
  rw [kmk_pick_nat _ e]
  show (vs.drop (min x.toNat vs.toArray.size)).take (vs.toArray.size - min x.toNat vs.toArray.size) = _
  rw [List.size_toArray, kmk_drop_min, List.take_of_length_le (by rw [List.length_drop]; omega)]
def AnsJ (base : List (Addr × Obj)) (ns : List Int) (i : Nat) (ys : List Value) (nw : List (Addr × Obj)) : Prop := nw = base ∧ ys = (ns.take i).map ansOf
theorem ans_next {base : List (Addr × Obj)} {ns : List Int} {i : Nat} {ys : List Value} {n : Int} (hn : ns[i]? = some n) (h : ys = (ns.take i).map ansOf) : AnsJ base ns (i + 1) (ys ++ [ansOf n]) base := by
  refine ⟨rfl, ?_⟩
  rw [← take_one hn, List.map_append, h]; rfl
theorem told_drop {zs : List Value} {ns : List Int} {k i : Nat} {v : Value} (h : StrsAre zs (ns.map toldOf)) (hv : (zs.drop k)[i]? = some v) : ∃ n t, (ns.drop k)[i]? = some n ∧ v = .str (toldOf n) t := by
  rw [List.getElem?_drop] at hv
  have hi : k + i < ns.length := by
    have := (List.getElem?_eq_some_iff.mp hv).1
    rw [h.length, List.length_map] at this; exact this
  obtain ⟨n, hn⟩ : ∃ n, ns[k + i]? = some n := ⟨_, List.getElem?_eq_getElem hi⟩
  obtain ⟨t, ht⟩ := StrsAre.at h (j := k + i) (y := toldOf n) (by rw [List.getElem?_map, hn]; rfl)
  rw [hv] at ht
  exact ⟨n, t, by rw [List.getElem?_drop]; exact hn, by injection ht⟩
theorem ans_cps {n : Int} : Value.bool ((toldOf n).cps.toList == (Str.ofString "yes").cps.toList) = ansOf n := by
  unfold ansOf
  rw [SeqAt.str_beq]
theorem news_tab {g h : Heap} {L : Addr} {p1 p2 p3 p4 p5 p6 p7 q : Addr × Obj} {ex : List (Addr × Obj)} {k : Nat} (N : News g L h (p1 :: p2 :: ((p3 :: p4 :: p5 :: p6 :: p7 :: ex) ++ [q]))) (hk : ∀ p ∈ ex, @LT.lt Nat _ k p.1) (hq : @Ne Nat q.1 k) :
    ∃ ex2 : List (Addr × Obj), (∀ p ∈ ex, p ∈ ex2) ∧ q ∈ ex2 ∧ (∀ p ∈ ex2, @Ne Nat p.1 k) ∧ News g L h (p1 :: p2 :: p3 :: p4 :: p5 :: p6 :: p7 :: ex2) :=
  ⟨ex ++ [q], fun p hp => List.mem_append_left _ hp, List.mem_append_right _ (.head _), fun p hp => by
    rcases List.mem_append.mp hp with hp | hp
    · exact Nat.ne_of_gt (hk p hp)
    · rw [List.mem_singleton.mp hp]; exact hq, N⟩
theorem any_pick {f : Int → Bool} {DS : List Int} {i : Nat} {n : Int} {b : Bool} (hn : DS[i]? = some n) (h : ((pickIdx f DS DS.length).any fun x => x == (0 : Int) + (i : Int)) = b) : f n = b := by
  have hi : i < DS.length := (List.getElem?_eq_some_iff.mp hn).1
  have e : DS.getD ((0 : Int) + (i : Int)).toNat 0 = n := by
    rw [show ((0 : Int) + (i : Int)).toNat = i by omega, List.getD_eq_getElem?_getD, hn]; rfl
  have hm : (0 : Int) + (i : Int) ∈ rangeKs 0 DS.length := by
    unfold rangeKs
    exact List.mem_map.mpr ⟨i, List.mem_range.mpr hi, rfl⟩
  rw [← h, Bool.eq_iff_iff, List.any_eq_true]
  constructor
  · intro hf
    exact ⟨_, List.mem_filter.mpr ⟨hm, by rw [e]; exact hf⟩, by simp⟩
  · rintro ⟨x, hx, hxe⟩
    have ex : x = (0 : Int) + (i : Int) := by simpa using hxe
    subst ex
    have := (List.mem_filter.mp hx).2
    rw [e] at this; exact this
theorem kept_no {base : List (Addr × Obj)} {DS : List Int} {i : Nat} {n : Int} {qs : List Value} (hn : DS[i]? = some n) (h : (!calmB n) = true) (hq : IntsAre qs (pickIdx calmB DS i)) : PickJ base calmB DS (i + 1) qs base := by
  refine ⟨rfl, ?_⟩
  rw [pick_no hn (by simpa using h)]
  exact hq
theorem kept_yes {base : List (Addr × Obj)} {DS : List Int} {i : Nat} {n : Int} {t : Tok} {qs : List Value} (hn : DS[i]? = some n) (h : (!calmB n) = false) (hq : IntsAre qs (pickIdx calmB DS i)) : PickJ base calmB DS (i + 1) (qs ++ [.int ((0 : Int) + (i : Int)) t]) base := by
  refine ⟨rfl, ?_⟩
  rw [pick_yes hn (by simpa using h)]
  exact intsAre_snoc hq _ _
def StopHere : Prop := True
theorem stopHere {p : Prop} (_ : StopHere) (h : Stop p) : p := stop h
def TupJ (w : World) (ex base : List (Addr × Obj)) (ks ns : List Int) (i : Nat) (ys : List Value) (nw : List (Addr × Obj)) : Prop :=
  ∃ tl, nw = base ++ tl ∧ ys.length = i ∧ ∀ (j : Nat) (k : Int), j < i → ks[j]? = some k → ∃ tk v c n, ys[j]? = some (.ref tk) ∧ (tk, tup1 v c) ∈ tl ∧ ns[k.toNat]? = some n ∧ IsThing w ex v n
theorem tupJ_zero {w : World} {ex base : List (Addr × Obj)} {ks ns : List Int} : TupJ w ex base ks ns 0 [] base := ⟨[], (List.append_nil _).symm, rfl, fun _ _ h => absurd h (Nat.not_lt_zero _)⟩
theorem thing_pick {w : World} {ex : List (Addr × Obj)} {ys : List Value} {ns : List Int} {k : Int} (hlen : ys.length = ns.length) (h0 : 0 ≤ k) (h1 : k < (ns.length : Int)) (hys : ∀ (j : Nat) (v : Value), ys[j]? = some v → ∃ n, ns[j]? = some n ∧ IsThing w ex v n) :
    ∃ v n, ys[k.toNat]? = some v ∧ ns[k.toNat]? = some n ∧ IsThing w ex v n := by
  have hi : k.toNat < ys.length := by omega
  obtain ⟨n, a, b⟩ := hys k.toNat ys[k.toNat] (List.getElem?_eq_getElem hi)
  exact ⟨_, n, List.getElem?_eq_getElem hi, a, b⟩
theorem tup_end {w : World} {h₀ h6 : Heap} {L I C D tk : Addr} {m : Str → Option Value} {s₁ : Shared} {oI oC : Obj} {S : List (Addr × Obj) → Prop} {base tl ex : List (Addr × Obj)} {vk : List Value} {ks ns : List Int} {i c : Nat} {k n : Int} {v : Value} {tk6 : Nat}
    (F6 : Fr h₀ L h6 m) (N6 : News h₀ L h6 ((tk, tup1 v c) :: (I, oI) :: (C, oC) :: (D, LCg.lst vk) :: (base ++ tl))) (off : LCg.Off3 I C D (base ++ tl)) (o1 : @LT.lt Nat _ I tk) (o2 : @LT.lt Nat _ C tk) (o3 : @LT.lt Nat _ D tk) (hS : ∀ nw, (∀ p ∈ base, p ∈ nw) → S nw)
    (hlen : vk.length = i) (htl : ∀ (j : Nat) (k : Int), j < i → ks[j]? = some k → ∃ tk v c n, vk[j]? = some (.ref tk) ∧ (tk, tup1 v c) ∈ tl ∧ ns[k.toNat]? = some n ∧ IsThing w ex v n) (hk : ks[i]? = some k) (hn : ns[k.toNat]? = some n) (O : IsThing w ex v n) :
    LCg.CompEnd h₀ L m s₁ I oI C oC D (LCg.lst vk) S (fun y nw' => TupJ w ex base ks ns (i + 1) (vk ++ [y]) nw') (.ref tk) { s₁ with heap := h6, toks := tk6 } := by
  refine LCg.CompEnd.intro F6 N6 (base ++ (tl ++ [(tk, tup1 v c)])) (fun p hp => ?_) (LCg.Off3.of fun p hp => ?_) (hS _ fun p hp => List.mem_append_left _ hp) ⟨tl ++ [(tk, tup1 v c)], rfl, by rw [List.length_append, hlen]; rfl, fun j k' hj hk' => ?_⟩
  · rcases List.mem_cons.mp hp with rfl | hp
    · exact .tail _ (.head _)
    rcases List.mem_cons.mp hp with rfl | hp
    · exact .tail _ (.tail _ (.head _))
    rcases List.mem_cons.mp hp with rfl | hp
    · exact .tail _ (.tail _ (.tail _ (.head _)))
    rcases List.mem_append.mp hp with hp | hp
    · exact .tail _ (.tail _ (.tail _ (.tail _ (List.mem_append_left _ hp))))
    rcases List.mem_append.mp hp with hp | hp
    · exact .tail _ (.tail _ (.tail _ (.tail _ (List.mem_append_right _ hp))))
    · rw [List.mem_singleton.mp hp]; exact .head _
  · rcases List.mem_append.mp hp with hp | hp
    · exact off.mem p (List.mem_append_left _ hp)
    rcases List.mem_append.mp hp with hp | hp
    · exact off.mem p (List.mem_append_right _ hp)
    · rw [List.mem_singleton.mp hp]
      exact ⟨Nat.ne_of_gt o1, Nat.ne_of_gt o2, Nat.ne_of_gt o3⟩
  · by_cases hlt : j < i
    · obtain ⟨a, b, c', d, e1, e2, e3, e4⟩ := htl j k' hlt hk'
      exact ⟨a, b, c', d, by rw [List.getElem?_append_left (by omega)]; exact e1, List.mem_append_left _ e2, e3, e4⟩
    · obtain rfl : j = i := by omega
      rw [hk] at hk'
      cases hk'
      exact ⟨tk, v, c, n, by rw [List.getElem?_append_right (by omega), hlen, Nat.sub_self]; rfl, List.mem_append_right _ (.head _), hn, O⟩
def keptNs (ns : List Int) : List Int := (pickIdx calmB ns ns.length).map fun k => ns.getD k.toNat 0
theorem keptNs_len {ns : List Int} : (keptNs ns).length = (pickIdx calmB ns ns.length).length := List.length_map _
theorem keptNs_at {ns : List Int} {j : Nat} {k n : Int} (hk : (pickIdx calmB ns ns.length)[j]? = some k) (hn : ns[k.toNat]? = some n) : (keptNs ns)[j]? = some n := by
  unfold keptNs
  rw [List.getElem?_map, hk]
  show some (ns.getD k.toNat 0) = some n
  rw [List.getD_eq_getElem?_getD, hn]; rfl
theorem kept_item {w : World} {ex led tl : List (Addr × Obj)} {vk : List Value} {ns : List Int} {z : Nat} (hz : z = (pickIdx calmB ns ns.length).length) (htl : ∀ (j : Nat) (k : Int), j < z → (pickIdx calmB ns ns.length)[j]? = some k → ∃ tk v c n, vk[j]? = some (.ref tk) ∧ (tk, tup1 v c) ∈ tl ∧ ns[k.toNat]? = some n ∧ IsThing w ex v n)
    (hall : ∀ n ∈ ns, 0 ≤ n ∧ n < 2400) (s1 : ∀ p ∈ tl, p ∈ led) (s2 : ∀ p ∈ ex, p ∈ led) :
    ∀ j, j < (keptNs ns).length → ∃ tk v c n, vk[j]? = some (.ref tk) ∧ (tk, tup1 v c) ∈ led ∧ (keptNs ns)[j]? = some n ∧ IsThing w led v n ∧ 0 ≤ n ∧ n < 2400 ∧ Calm n := by
  intro j hj
  rw [keptNs_len] at hj
  obtain ⟨k, hk⟩ : ∃ k, (pickIdx calmB ns ns.length)[j]? = some k := ⟨_, List.getElem?_eq_getElem hj⟩
  obtain ⟨tk, v, c, n, e1, e2, e3, e4⟩ := htl j k (by omega) hk
  obtain ⟨n0, n1⟩ := hall n (List.mem_of_getElem? e3)
  refine ⟨tk, v, c, n, e1, s1 _ e2, keptNs_at hk e3, e4.mono s2, n0, n1, ?_⟩
  have := (List.mem_filter.mp (List.mem_of_getElem? hk)).2
  rw [List.getD_eq_getElem?_getD, e3] at this
  exact calm_iff.mp this
theorem smap_call (w : World) {loose : List Str} {mean : ExcName → Option Value} {mg mb : Str → Option Value} {A₀ : Around} {dp un : Nat} {env : Env} {s : Shared} {g : Heap} {L : Addr} {m : Str → Option Value} {led all : List (Addr × Obj)} {T0 lk : Addr} {vk : List Value} {ks : List Int} {c ck : Nat}
    {Q E : Value → Shared → Prop} (F : Fr g L s.heap m) (N : News g L s.heap all) (sub : ∀ q ∈ (T0, ({ cls := .type "tuple", data := .seq #[.ref 21, .ref lk] c } : Obj)) :: (lk, W.listOf vk.toArray ck) :: led, q ∈ all)
    (B : Below A₀ g [] g) (X : (hd.heap_39 w.params).In g) (T : Top noProg loose mean mg mb g)
    (hne : ∀ q ∈ led, q.1 ≠ lk) (hlen : vk.length = ks.length) (few : ks.length ≤ 14) (item : ∀ k, k < ks.length → ∃ tk v c n, vk[k]? = some (.ref tk) ∧ (tk, tup1 v c) ∈ led ∧ ks[k]? = some n ∧ IsThing w led v n ∧ 0 ≤ n ∧ n < 2400 ∧ Calm n)
    (hf : env.frame = some L) (hm : env.scope.kind ≠ .module) (hdp : dp + 70 < recursionLimit) (hun : un + 400 < cLine)
    (hok : ∀ (S : Addr) h' tk c, Fr g L h' m → News g L h' ((S, lst (ks.map ansOf) c) :: all) → (∀ q ∈ all, @LT.lt Nat _ q.1 S) → Q (.ref S) { s with heap := h', toks := tk }) :
    wpAny (model PySem.Challenge.rw_kl0055_01.row.prog w) (aroundOf dp un [env]) (call (.ref 72) [.ref T0]) Q E s := by
  have B' := below_self B
  refine wpAny_call (smap_code w (l := [env]) (g₀ := g) (led := led) (ff_of F B' base_nil hf hm) F.keep X T (fun q hq => hl_of N B' base_nil hf q (sub q hq)) hne hlen few item hdp hun ?_)
  rintro S h' tk K hlt ⟨c', hS⟩
  obtain ⟨oL, es, ep, hL, hd, r⟩ := id F.ns
  refine hok S h' tk c' (kept_fr F hf K) (fun q hq => ?_) fun q hq => hlt _ _ (N q hq).1
  rcases List.mem_cons.mp hq with rfl | hq
  · refine ⟨hS, Nat.ne_of_gt (hlt _ _ hL), ?_⟩
    cases e : g.get? S with
    | none => rfl
    | some o => exact absurd (hlt _ _ (F.keep _ _ e)) (Nat.lt_irrefl _)
  · exact kept_news N hf K q hq
theorem ans_kept {base : List (Addr × Obj)} {ns : List Int} {i : Nat} {ys : List Value} {k : Int} (hk : (pickIdx calmB ns ns.length)[i]? = some k) (h0 : 0 ≤ k) (h1 : k < (ns.length : Int)) (h : ys = ((keptNs ns).take i).map ansOf) :
    AnsJ base (keptNs ns) (i + 1) (ys ++ [.bool ((ns.map toldOf).getD k.toNat Str.empty == Str.ofString "yes")]) base := by
  obtain ⟨n, hn⟩ : ∃ n, ns[k.toNat]? = some n := ⟨_, List.getElem?_eq_getElem (by omega)⟩
  have e : (ns.map toldOf).getD k.toNat Str.empty = toldOf n := by
    rw [List.getD_eq_getElem?_getD, List.getElem?_map, hn]; rfl
  rw [e]
  exact ans_next (keptNs_at hk hn) h
end Mine
end
section
open PySem PySem.W PySem.Spec PySem.Calls PyProof.Rows
theorem Mine.tickLaw0 (M : Model) (A : Around) (E : Value → Shared → Prop) (s : Shared) (env : Env) (pos : Pos) : wpAny M A (exec (.Pass pos) env) (fun _ _ => True) E s := by
  w_top off
  first | (walk1; fail) | exact wpAny_Pass trivial
end
section
open PySem PySem.W PySem.Spec PySem.Calls PyProof.Rows
set_option maxHeartbeats 8000000
namespace Mine
local macro_rules | `(tactic| walk_at "eval ListComp") => `(tactic| refine stop ?_)
local macro_rules | `(tactic| walk_at "compareOp NotEq ref ref") => `(tactic| refine stop ?_)
local macro_rules | `(tactic| walk_at "compareOp NotEq") => `(tactic| refine stop ?_)
local macro_rules | `(tactic| walk_at "subscriptTail") => `(tactic| ((with_reducible show wpAny _ _ (subscriptTail _ (PySem.Expr.UnaryOp _ _ _) (Value.ref _) (Value.int _ _)) _ _ _); refine stop ?_))
local macro_rules | `(tactic| walk_at "subscriptTail") => `(tactic| ((with_reducible show wpAny _ _ (subscriptTail _ (PySem.Expr.Slice _ _ _ _) (Value.ref _) (Value.ref _)) _ _ _); refine stop ?_))
local macro_rules | `(tactic| walk_at "subscriptTail") => `(tactic| ((with_reducible show wpAny _ _ (subscriptTail _ _ (Value.ref _) (Value.int _ _)) _ _ _); refine stopHere (by with_reducible assumption) ?_))
local macro_rules | `(tactic| walk_at "CompSrcT") => `(tactic| refine stop ?_)
local macro_rules | `(tactic| walk_at "call builtin:len") => `(tactic| (k_here; (with_reducible show wpAny _ _ (call (Value.builtin "len") [Value.ref _]) _ _ _); (refine len_small (by k_asm) (by k_mem) (by with_reducible assumption) ?_); intro t' tk'))
local macro_rules | `(tactic| walk_at "CompSrc") => `(tactic| refine stop ?_)
local macro_rules | `(tactic| walk_at "call ref") => `(tactic| refine stop ?_)
theorem law0 : PySem.Challenge.rw_kl0055_01.Holds := hd (by
  k_go0
  all_goals try k_fold
  k_steps
  refine go ?_
  rename World => w9
  rename Shared => sA
  rename Top topProg _ _ _ _ _ => T0
  rename Top hd.view_39 _ _ _ _ _ => T1
  rename TabsAt _ _ => hTab
  have T' := top_no T0 (ghost_seer hTab (Top.seer T1 viewImports))
  rename News _ _ _ _ => N0
  rename Fr _ _ _ _ => F0
  rename Frag.In _ _ => XF
  rename IntsAre _ _ => hIn
  rename_i o3 o2 o1 d3 d2 d1 cA K0 l0 lq hq l1
  refine draws_tl _ _ _ _ _ hIn (by omega) _ _ _ _ _ _ _ _ _ _ _ _ _ _ _ _ _ _ _ _ lifted K0 F0 XF N0 T' rfl ?_ ?_ ?_
  · show callerA.depth + 1 + 4 < recursionLimit
    decide
  · show callerA.units + 3 + 32 < cLine
    decide
  rintro r tl h1 tk1 F1 N1 lt1 ⟨l2, us, ds, c2, rfl, m2, hus, hds, lt2⟩
  clear F0 N0
  simp only [List.cons_append, List.nil_append] at N1
  dsimp only
  refine draws_add F1 N1 (.head _) m2 hus hds fun ld h2 VS DS hDS hall hcalm href hfew hfewV F2 N2 lt3 => ?_
  clear F1 N1
  dsimp only
  k_steps
  rename Fr _ _ _ _ => F3
  rename News _ _ _ _ => N3

  refine go ?_
  refine LCg.ListComp_U (F₀ := F3) (by rfl) (by decide) (by rfl) (by decide) (by rfl) ?_
  k_steps
  refine go ?_
  have N4 : News _ _ _ [_, _, _, _, _] := fun q hq => N3 q (by
    rcases List.mem_cons.mp hq with rfl | hq
    · exact .head _
    rcases List.mem_cons.mp hq with rfl | hq
    · exact .tail _ (.tail _ (.head _))
    rcases List.mem_cons.mp hq with rfl | hq
    · exact .tail _ (.tail _ (.tail _ (.head _)))
    rcases List.mem_cons.mp hq with rfl | hq
    · exact .tail _ (.tail _ (.tail _ (.tail _ (.head _))))
    · rw [List.mem_singleton.mp hq]; exact .tail _ (.tail _ (.tail _ (.tail _ (.tail _ (.head _))))))
  have ldL : @LT.lt Nat _ (sA.heap.objs.size + 3) ld := lt3 _ (.tail _ (.head _))
  clear N3 m2 lt1 lt2 lt3
  refine LCg.CompSrc.ledger rfl F3 N4 (.head _) (by rw [List.size_toArray, sizeLine_eq]; omega) fun gh => ?_
  refine comp_inv (ThingsJ w9 sA.heap.objs.size _ DS) thingsJ_zero ?_ ?_
  · rintro i v ys nw I oI C oC D m₂ h tk E' hi ⟨ex, rfl, hex, hlen9, hys⟩ hv hC hx F N off ne
    obtain ⟨n, t, rfl, hn⟩ := IntsAre.at hDS i v (by simpa using hv)
    obtain ⟨n0, n1⟩ := hall n (List.mem_of_getElem? hn)
    clear F3 N4
    k_steps
    refine go ?_
    rename Fr _ _ _ _ => F5
    rename News _ _ _ _ => N5
    refine thing_tl2 w9 n t _ n0 n1 _ _ _ _ _ _ _ _ _ _ _ _ _ _ _ _ _ _ _ _ K0 F5 XF N5 T' rfl ?_ ?_ ?_
    · show callerA.depth + 1 + 4 < recursionLimit
      decide
    · show callerA.units + 3 + 8 * 4 < cLine
      decide
    rintro r tl2 h6 tk6 F6 N6 lt6 ⟨tl', htl, O⟩
    exact things_end F6 N6 htl O off (.tail _ (.head _)) rfl (fun nw h => .inr ⟨_, h _ (.head _), rfl, _, rfl⟩) hex hlen9 hys hn
  · rintro ys nw ⟨ex, rfl, hex, hlen9, hys⟩
    clear F3 N4
    k_steps
    rename Fr _ _ _ _ => F5
    rename News _ _ _ _ => N5
    rename LCg.Off1 _ _ => off5
    rename_i lt5 _ _
    have ho5 := off1_mem off5
    refine storeC F5 N5 rfl (List.mem_of_getElem? (i := 4) rfl) d1 ((lt5, LCg.lst ys) :: (ld, W.listOf VS.toArray 0) :: (sA.heap.objs.size + 1 + 1 + 1, o3) :: (sA.heap.objs.size + 1 + 1, o2) :: (114, tabObj #[]) :: ex) ?_ ?_ rfl rfl
    · intro p hp
      rcases List.mem_cons.mp hp with rfl | hp
      · exact ⟨List.mem_of_getElem? (i := 0) rfl, (ho5 _ (List.mem_of_getElem? (i := 3) rfl)).symm⟩
      rcases List.mem_cons.mp hp with rfl | hp
      · exact ⟨List.mem_of_getElem? (i := 1) rfl, Nat.ne_of_gt (Nat.lt_of_succ_lt (Nat.lt_of_succ_lt ldL))⟩
      rcases List.mem_cons.mp hp with rfl | hp
      · exact ⟨List.mem_of_getElem? (i := 2) rfl, Nat.ne_of_gt (Nat.lt_succ_of_lt (Nat.lt_succ_self _))⟩
      rcases List.mem_cons.mp hp with rfl | hp
      · exact ⟨List.mem_of_getElem? (i := 3) rfl, Nat.ne_of_gt (Nat.lt_succ_self _)⟩
      rcases List.mem_cons.mp hp with rfl | hp
      · exact ⟨List.mem_of_getElem? (i := 5) rfl, Nat.ne_of_lt (Nat.lt_succ_of_lt l0)⟩
      · exact ⟨.tail _ (.tail _ (.tail _ (.tail _ (.tail _ (.tail _ hp))))), Nat.ne_of_gt (Nat.lt_of_succ_lt (Nat.lt_of_succ_lt (hex p hp)))⟩
    intro h7 oT F7 N7 dT
    clear F5 N5
    dsimp only
    k_steps
    refine go ?_
    refine LCg.ListComp_U (F₀ := F7) (by rfl) (by decide) (by rfl) (by decide) (by rfl) ?_
    k_steps
    refine go ?_
    refine LCg.CompSrc.ledger rfl F7 N7 (List.mem_of_getElem? (i := 2) rfl) (by rw [List.size_toArray, sizeLine_eq]; omega) fun gh2 => ?_
    refine comp_inv (ToldJ _ DS) ⟨rfl, .nil⟩ ?_ ?_
    · rintro i v zs nw I oI C oC D m₂ h tk E' hi ⟨rfl, hzs⟩ hv hC hx F N off ne
      obtain ⟨n, t, rfl, hn⟩ := IntsAre.at hDS i v (by simpa using hv)
      obtain ⟨n0, n1⟩ := hall n (List.mem_of_getElem? hn)
      clear F7 N7
      k_steps
      refine go ?_
      rename Fr _ _ _ _ => F8
      rename News _ _ _ _ => N8
      refine told_tl w9 n t _ n0 n1 _ _ _ _ _ _ _ _ _ _ _ _ _ _ _ _ _ _ _ _ K0 F8 XF N8 T' rfl ?_ ?_ ?_
      · show callerA.depth + 1 + 20 < recursionLimit
        decide
      · show callerA.units + 3 + 8 * 20 < cLine
        decide
      rintro r tl2 h6 tk6 F6 N6 lt6 ⟨t6, rfl⟩
      exact keep_end F6 N6 (fun p hp => List.mem_append_left _ hp) off (.inr ⟨_, List.mem_of_getElem? (i := 2) rfl, rfl, _, rfl⟩) (told_next hn hzs)
    rintro zs nw ⟨rfl, hzs⟩
    clear F7 N7
    k_steps
    rename Fr _ _ _ _ => F8
    rename News _ _ _ _ => N8
    rename_i lo8 h8 tk8 o8
    refine storeC F8 N8 rfl (List.mem_of_getElem? (i := 5) rfl) d2 ((lo8, LCg.lst zs) :: (sA.heap.objs.size + 1, oT) :: (lt5, LCg.lst ys) :: (ld, W.listOf VS.toArray 0) :: (sA.heap.objs.size + 1 + 1 + 1, o3) :: (114, tabObj #[]) :: ex) ?_ ?_ rfl rfl
    · intro p hp
      rcases List.mem_cons.mp hp with rfl | hp
      · exact ⟨List.mem_of_getElem? (i := 0) rfl, (o8.2.2.2.2.1).symm⟩
      rcases List.mem_cons.mp hp with rfl | hp
      · exact ⟨List.mem_of_getElem? (i := 1) rfl, Nat.ne_of_lt (Nat.lt_succ_self _)⟩
      rcases List.mem_cons.mp hp with rfl | hp
      · exact ⟨List.mem_of_getElem? (i := 2) rfl, (ho5 _ (List.mem_of_getElem? (i := 2) rfl)).symm⟩
      rcases List.mem_cons.mp hp with rfl | hp
      · exact ⟨List.mem_of_getElem? (i := 3) rfl, Nat.ne_of_gt (Nat.lt_of_succ_lt ldL)⟩
      rcases List.mem_cons.mp hp with rfl | hp
      · exact ⟨List.mem_of_getElem? (i := 4) rfl, Nat.ne_of_gt (Nat.lt_succ_self _)⟩
      rcases List.mem_cons.mp hp with rfl | hp
      · exact ⟨List.mem_of_getElem? (i := 6) rfl, Nat.ne_of_lt (Nat.lt_succ_of_lt (Nat.lt_succ_of_lt l0))⟩
      · exact ⟨.tail _ (.tail _ (.tail _ (.tail _ (.tail _ (.tail _ (.tail _ hp)))))), Nat.ne_of_gt (Nat.lt_of_succ_lt (hex p hp))⟩
    intro h9 oD F9 N9 dD
    clear F8 N8
    dsimp only
    k_steps
    refine go ?_
    refine LCg.ListComp_U (F₀ := F9) (by rfl) (by decide) (by rfl) (by decide) (by rfl) ?_
    k_steps
    refine go ?_
    refine LCg.CompSrc.ledger rfl F9 N9 (List.mem_of_getElem? (i := 3) rfl) (by rw [List.size_toArray, sizeLine_eq, hlen9, List.size_toArray]; omega) fun gh3 => ?_
    refine comp_inv (ToldJ _ DS) ⟨rfl, .nil⟩ ?_ ?_
    · rintro i v xs nw I oI C oC D m₂ h tk E' hi ⟨rfl, hxs⟩ hv hC hx F N off ne
      obtain ⟨n, hn, O⟩ := hys i v (by simpa using hv)
      obtain ⟨n0, n1⟩ := hall n (List.mem_of_getElem? hn)
      clear F9 N9
      k_steps
      refine go ?_
      rename Fr _ _ _ _ => F8
      rename News _ _ _ _ => N8
      refine alone_call w9 n n0 n1 (A₀ := callerA) (dp := callerA.depth + 1) (un := callerA.units + 3) (led := ex) F8 N8 ?_ K0 XF T' O rfl (show ScopeKind.function ≠ ScopeKind.module by decide) ?_ ?_ ?_
      · exact fun q hq => .tail _ (.tail _ (.tail _ (.tail _ (.tail _ (.tail _ (.tail _ (.tail _ (.tail _ (.tail _ hq)))))))))
      · show callerA.depth + 1 + 30 < recursionLimit
        decide
      · show callerA.units + 3 + 240 < cLine
        decide
      intro u6 h6 tk6 F6 N6
      exact keep_end F6 N6 (fun p hp => hp) off (.inr ⟨_, List.mem_of_getElem? (i := 3) rfl, rfl, _, rfl⟩) (told_next hn hxs)
    rintro xs nw ⟨rfl, hxs⟩
    clear F9 N9
    k_steps
    refine go ?_
    rename Fr _ _ _ _ => F8
    rename News _ _ _ _ => N8
    have hlV : VS.length = DS.length := hDS.length
    have hlY : ys.length = DS.length := by rw [hlen9, List.size_toArray, hlV]
    rw [List.size_toArray, hlY, List.take_length] at hxs
    rw [List.size_toArray, hlV, List.take_length] at hzs
    refine ne_strs (News.isList N8 (List.mem_of_getElem? (i := 0) rfl)) (News.isList N8 (List.mem_of_getElem? (i := 2) rfl)) hxs hzs (by show callerA.units + 3 < cLine; decide) ?_
    have N9 : News _ _ _ _ := fun q hq => N8 q (.tail _ hq)
    clear N8
    k_steps
    refine go ?_
    rename Fr _ _ _ _ => F10
    rename News _ _ _ _ => N10
    rename_i Dx hx2 tkx ox la hy lA hz
    refine runs_call w9 DS hall (A₀ := callerA) (dp := callerA.depth + 1) (un := callerA.units + 3) (ex := ex) (rest := (sA.heap.objs.size + 1 + 1, oD) :: (lo8, LCg.lst zs) :: (sA.heap.objs.size + 1, oT) :: (lt5, LCg.lst ys) :: (sA.heap.objs.size + 1 + 1 + 1, o3) :: ex) (vs := ys) (c1 := ys.length) (c2 := 0) F10 N10 ?sub ?rest K0 XF T' codeHd ?hne (ho5 _ (List.mem_of_getElem? (i := 4) rfl)) (Nat.ne_of_lt lA.2.2.2.1) (Nat.ne_of_lt lA.2.2.2.2.2.2.1) rfl (show ScopeKind.function ≠ ScopeKind.module by decide) (show callerA.depth + 1 + 80 < recursionLimit by decide) (show callerA.units + 3 + 480 < cLine by decide) hlY hfew (fun p hp => Nat.ne_of_lt (kst_ltOf lA.2.2.2.2.2.2.2 p hp)) hys hcalm ?hok
    case sub =>
      intro q hq
      rcases List.mem_cons.mp hq with rfl | hq
      · exact .head _
      rcases List.mem_cons.mp hq with rfl | hq
      · exact List.mem_of_getElem? (i := 4) rfl
      rcases List.mem_cons.mp hq with rfl | hq
      · exact List.mem_of_getElem? (i := 7) rfl
      · exact .tail _ (.tail _ (.tail _ (.tail _ (.tail _ (.tail _ (.tail _ (.tail _ hq)))))))
    case hne => exact fun p hp => Nat.ne_of_gt (Nat.lt_trans l0 (Nat.lt_of_succ_lt (Nat.lt_of_succ_lt (Nat.lt_of_succ_lt (hex p hp)))))
    case rest =>
      intro q hq
      rcases List.mem_cons.mp hq with rfl | hq
      · exact ⟨List.mem_of_getElem? (i := 1) rfl, off2 (Nat.ne_of_lt lA.1) (Nat.ne_of_gt (Nat.lt_succ_of_lt (Nat.lt_succ_of_lt l0)))⟩
      rcases List.mem_cons.mp hq with rfl | hq
      · exact ⟨List.mem_of_getElem? (i := 2) rfl, off2 (Nat.ne_of_lt lA.2.1) (Ne.symm o8.2.2.2.2.2.1)⟩
      rcases List.mem_cons.mp hq with rfl | hq
      · exact ⟨List.mem_of_getElem? (i := 3) rfl, off2 (Nat.ne_of_lt lA.2.2.1) (Nat.ne_of_gt (Nat.lt_succ_of_lt l0))⟩
      rcases List.mem_cons.mp hq with rfl | hq
      · exact ⟨List.mem_of_getElem? (i := 4) rfl, off2 (Nat.ne_of_lt lA.2.2.2.1) (Ne.symm (ho5 _ (List.mem_of_getElem? (i := 4) rfl)))⟩
      rcases List.mem_cons.mp hq with rfl | hq
      · exact ⟨List.mem_of_getElem? (i := 6) rfl, off2 (Nat.ne_of_lt lA.2.2.2.2.2.1) (Nat.ne_of_gt (Nat.lt_succ_of_lt (Nat.lt_succ_of_lt (Nat.lt_succ_of_lt l0))))⟩
      · exact ⟨.tail _ (.tail _ (.tail _ (.tail _ (.tail _ (.tail _ (.tail _ (.tail _ hq))))))), off2 (Nat.ne_of_lt (kst_ltOf lA.2.2.2.2.2.2.2 _ hq)) (Nat.ne_of_gt (Nat.lt_trans l0 (Nat.lt_of_succ_lt (Nat.lt_of_succ_lt (Nat.lt_of_succ_lt (hex _ hq))))))⟩
    intro lr h11 tk11 pl outs p co cL ps F11 N11 lR hpl hout hp hcl
    obtain ⟨ex2, hs2, h114, hne2, N11⟩ := news_tab N11 hex (Nat.ne_of_lt (Nat.lt_succ_of_lt (Nat.lt_succ_of_lt (Nat.lt_succ_of_lt l0))))
    have lRt := lR _ (List.mem_of_getElem? (i := 1) rfl)
    have lRo := lR _ (List.mem_of_getElem? (i := 2) rfl)
    clear F10 N10
    dsimp only
    k_steps
    refine go ?_
    rename Fr _ _ _ _ => F12
    rename News _ _ _ _ => N12
    have hlZ : zs.length ≤ 14 := by rw [hzs.length, List.length_map]; exact hfew
    refine LCt.ListComp_T (F₀ := F12) (by rfl) (by decide) (by rfl) (by decide) (by rfl) ?_
    k_steps
    rename_i t13 tk13 h13 tk14 r1 r2 r3 rg F13 N13 k13
    refine go ?_
    have hlZ2 : zs.length = DS.length := by rw [hzs.length, List.length_map]
    refine LCt.CompSrcT.range rfl F13 N13 rg (small_one (by decide) (by decide) (by omega) (by omega)) (n := zs.length) (by rw [rangeSize_one]; split <;> omega) (by rw [sizeLine_eq]; omega) fun gh4 => ?_
    refine comp_invT (PickJ _ (fun n => !calmB n) DS) ⟨rfl, .nil⟩ ?_ ?_
    · rintro i v qs nw I oI C oC D m₂ h tk E' hi ⟨rfl, hqs⟩ ⟨t, rfl⟩ hC hx F N off ne
      obtain ⟨n, hn⟩ : ∃ n, DS[i]? = some n := ⟨_, List.getElem?_eq_getElem (by omega)⟩
      have hw : (DS.map toldOf)[i]? = some (toldOf n) := by rw [List.getElem?_map, hn]; rfl
      obtain ⟨tz, hz1⟩ := StrsAre.at hzs hw
      clear F13 N13
      k_steps
      · rename Fr _ _ _ _ => F8
        rename News _ _ _ _ => N8
        rename_i hb
        exact keep_end F8 N8 (fun p hp => .tail _ hp) off trivial (refs_no hn (any_calm hn hb) hqs)
      · rename Fr _ _ _ _ => F8
        rename News _ _ _ _ => N8
        rename_i hb
        exact keep_end F8 N8 (fun p hp => .tail _ hp) off trivial (refs_yes hn (any_calm hn hb) hqs)
    rintro qs nw ⟨rfl, hqs⟩
    clear F13 N13
    k_steps
    rename Fr _ _ _ _ => F14
    rename News _ _ _ _ => N14
    rename_i lf hf14 tkf of
    refine storeC F14 N14 rfl (List.mem_of_getElem? (i := 7) rfl) d3 ((lf, LCg.lst qs) :: (lr, W.listOf outs.toArray co) :: (la, W.listOf pl.toArray cL) :: (sA.heap.objs.size + 1 + 1, oD) :: (lo8, LCg.lst zs) :: (sA.heap.objs.size + 1, oT) :: (lt5, LCg.lst ys) :: ex2) ?_ ?_ rfl rfl
    · intro p hp
      rcases List.mem_cons.mp hp with rfl | hp
      · exact ⟨List.mem_of_getElem? (i := 0) rfl, (of.2.2.2.2.2.2.1).symm⟩
      rcases List.mem_cons.mp hp with rfl | hp
      · exact ⟨List.mem_of_getElem? (i := 1) rfl, Nat.ne_of_gt (lR (sA.heap.objs.size + 1 + 1 + 1, o3) (List.mem_of_getElem? (i := 6) rfl))⟩
      rcases List.mem_cons.mp hp with rfl | hp
      · exact ⟨List.mem_of_getElem? (i := 2) rfl, Nat.ne_of_gt lA.2.2.2.2.2.1⟩
      rcases List.mem_cons.mp hp with rfl | hp
      · exact ⟨List.mem_of_getElem? (i := 3) rfl, Nat.ne_of_lt (Nat.lt_succ_self _)⟩
      rcases List.mem_cons.mp hp with rfl | hp
      · exact ⟨List.mem_of_getElem? (i := 4) rfl, (o8.2.2.2.1).symm⟩
      rcases List.mem_cons.mp hp with rfl | hp
      · exact ⟨List.mem_of_getElem? (i := 5) rfl, Nat.ne_of_lt (Nat.lt_succ_of_lt (Nat.lt_succ_self _))⟩
      rcases List.mem_cons.mp hp with rfl | hp
      · exact ⟨List.mem_of_getElem? (i := 6) rfl, (ho5 _ (List.mem_of_getElem? (i := 1) rfl)).symm⟩
      · exact ⟨.tail _ (.tail _ (.tail _ (.tail _ (.tail _ (.tail _ (.tail _ (.tail _ hp))))))), hne2 p hp⟩
    intro h15 oF F15 N15 dF
    clear F14 N14
    rw [hlZ2] at hqs
    dsimp only
    k_steps
    refine go ?_
    refine LCg.ListComp_U (F₀ := F15) (by rfl) (by decide) (by rfl) (by decide) (by rfl) ?_
    k_steps
    refine go ?_
    have hq14 : qs.length ≤ 14 := by rw [hqs.length]; exact pick_few hfew
    refine LCg.CompSrc.ledger rfl F15 N15 (List.mem_of_getElem? (i := 1) rfl) (by rw [List.size_toArray, sizeLine_eq]; omega) fun gh5 => ?_
    refine comp_inv (TextJ _ DS (pickIdx (fun n => !calmB n) DS DS.length)) ⟨rfl, .nil⟩ ?_ ?_
    · rintro i v xs nw I oI C oC D m₂ h tk E' hi ⟨rfl, hxs2⟩ hv hC hx F N off ne
      obtain ⟨k, t, rfl, hk⟩ := IntsAre.at hqs i v (by simpa using hv)
      obtain ⟨k0, k1⟩ := pick_bounds (List.mem_of_getElem? hk)
      clear F15 N15
      have k2 : k < ((DS.map toldOf).length : Int) := by rw [List.length_map]; exact k1
      k_steps
      rename Fr _ _ _ _ => F8
      rename News _ _ _ _ => N8
      exact keep_end F8 N8 (fun p hp => hp) off (.inr ⟨_, List.mem_of_getElem? (i := 1) rfl, rfl, _, rfl⟩) (text_next hk hxs2)
    rintro xs2 nw ⟨rfl, hxs2⟩
    clear F15 N15
    k_steps
    rename Fr _ _ _ _ => F16
    rename News _ _ _ _ => N16
    rename_i lw hw16 tkw ow
    refine go ?_
    refine LCg.ListComp_U (F₀ := F16) (by rfl) (by decide) (by rfl) (by decide) (by rfl) ?_
    k_steps
    refine go ?_
    obtain ⟨kl, kl1, kl2, kl3, kl4⟩ := pick_last (f := fun n => !calmB n) (ns := DS) (by
      obtain ⟨n, a, b⟩ := href
      exact ⟨n, a, by
        have : calmB n = false := Bool.eq_false_iff.mpr fun q => b (calm_iff.mp q)
        simp [this]⟩)
    obtain ⟨tq, hj, hx9⟩ := last_int hqs kl2
    refine kde_neg (News.isList N16 (List.mem_of_getElem? (i := 2) rfl)) (by decide) (by decide) hj hx9 ?_
    k_steps
    refine go ?_
    refine' kmk_slice_lit (s := ⟨_, _, _, _, _⟩) F16 N16 (News.isList N16 (List.mem_of_getElem? (i := 6) rfl)) ?zp ?zq (slice_from (vs := zs) (x := (kl : Int) + 1) (by omega)) (fun ls h17 F17 N17 lS => ?_) ?zs ?zt ?zz
    case zp => kmk_part
    case zq => kmk_part
    case zs => with_unfolding_all rfl
    case zt => kmk_pure
    case zz => rw [List.size_toArray, sizeLine_eq]; omega
    clear F16 N16
    dsimp only
    k_steps
    refine go ?_
    have ekl : ((kl : Int) + 1).toNat = kl + 1 := by omega
    rw [ekl] at N17
    refine LCg.CompSrc.ledger rfl F17 N17 (.head _) (by rw [List.size_toArray, sizeLine_eq, List.length_drop]; omega) fun gh6 => ?_
    refine comp_inv (AnsJ _ (DS.drop (kl + 1))) ⟨rfl, rfl⟩ ?_ ?_
    · rintro i v xs nw I oI C oC D m₂ h tk E' hi ⟨rfl, hxs3⟩ hv hC hx F N off ne
      obtain ⟨n, t, hn, rfl⟩ := told_drop hzs (by simpa using hv)
      clear F17 N17
      k_steps
      rename Fr _ _ _ _ => F8
      rename News _ _ _ _ => N8
      exact keep_end F8 N8 (fun p hp => hp) off (.inr ⟨_, .head _, rfl, _, rfl⟩) (ans_next hn hxs3)
    rintro xs3 nw ⟨rfl, hxs3⟩
    clear F17 N17
    rw [List.take_of_length_le (by rw [List.size_toArray, List.length_drop, List.length_drop, hlZ2]; exact Nat.le_refl _)] at hxs3
    subst hxs3
    k_steps
    rename Fr _ _ _ _ => F18
    rename News _ _ _ _ => N18
    refine repr_yes (Top.seer T' noImports) (ns := DS.drop (kl + 1)) (c := ((DS.drop (kl + 1)).map ansOf).length) N18 (.head _) (by rw [List.length_drop]; omega) rfl (by show callerA.units + 3 + 4 < cLine; decide) fun h19 u19 tk19 k19 => ?_
    have F19 := F18.keeps k19
    have N19 : News _ _ _ _ := fun q hq => ⟨k19 _ _ (N18 q (.tail _ (.tail _ hq))).1, (N18 q (.tail _ (.tail _ hq))).2⟩
    clear F18 N18
    dsimp only
    k_steps
    rename Fr _ _ _ _ => F20
    rename News _ _ _ _ => N20
    have hX2 : StrsAre xs2 ((refusedOf DS).map toldOf) := by
      have e1 : qs.toArray.size = (pickIdx (fun n => !calmB n) DS DS.length).length := by rw [List.size_toArray, hqs.length]
      rw [e1, List.take_length, pick_texts _ (Nat.le_refl _), List.take_length] at hxs2
      exact hxs2
    have hpk : p = kl + 1 := same_end kl1 (by simpa using kl3) (fun n hn => by simpa using kl4 n hn) hp hcl
    subst hpk
    rename_i lp hp20 lP
    have hX14 : xs2.length ≤ 14 := by
      rw [hX2.length, List.length_map]
      exact Nat.le_trans (List.length_filter_le _ _) hfew
    have hlY14 : ys.length ≤ 14 := by rw [hlY]; exact hfew
    refine addl_K (vs := xs2) (ws := [.str (yesText (DS.drop (kl + 1))) u19]) F20 N20 (List.mem_of_getElem? (i := 1) rfl) (.head _) (by rw [List.length_singleton]; omega) fun lwa h21 F21 N21 lW => ?_
    clear F20 N20
    dsimp only
    k_steps
    refine go ?_
    rename Fr _ _ _ _ => F22
    rename News _ _ _ _ => N22
    refine ne_strs (News.isList N22 (List.mem_of_getElem? (i := 5) rfl)) (News.isList N22 (.head _)) hout (strs_more hX2 _ _) (by show callerA.units + 3 < cLine; decide) ?_
    k_steps
    refine go ?_
    rename Fr _ _ _ _ => F23
    rename News _ _ _ _ => N23
    rename IntsAre _ _ => hI23
    have e23 : ((ys.length : Int) - 0).toNat = DS.length := by omega
    rw [e23] at hI23
    refine ke_ne_ints (News.isList N23 (List.mem_of_getElem? (i := 7) rfl)) (News.isList N23 (.head _)) hpl hI23 (by show callerA.units + 3 + 64 < cLine; decide) ?_
    rw [decide_eq_true (rfl : rangeKs 0 DS.length = rangeKs 0 DS.length)]
    k_steps
    rename_i t13 tk13 h13 tk14 r1 r2 r3 rg F25 N25 k13
    refine go ?_
    refine LCt.CompSrcT.range rfl F25 N25 rg (small_one (by decide) (by decide) (by omega) (by omega)) (n := zs.length) (by rw [rangeSize_one]; split <;> omega) (by rw [sizeLine_eq]; omega) fun gh4 => ?_
    refine comp_invT (PickJ _ calmB DS) ⟨rfl, .nil⟩ ?_ ?_
    · rintro i v us nw I oI C oC D m₂ h tk E' hi ⟨rfl, hus⟩ ⟨t, rfl⟩ hC hx F N off ne
      obtain ⟨n, hn⟩ : ∃ n, DS[i]? = some n := ⟨_, List.getElem?_eq_getElem (by omega)⟩
      clear F25 N25
      k_steps
      · rename Fr _ _ _ _ => F8
        rename News _ _ _ _ => N8
        rename_i hb
        exact keep_end F8 N8 (fun p hp => hp) off trivial (kept_no hn (any_pick hn hb) hus)
      · rename Fr _ _ _ _ => F8
        rename News _ _ _ _ => N8
        rename_i hb
        exact keep_end F8 N8 (fun p hp => hp) off trivial (kept_yes hn (any_pick hn hb) hus)
    rintro us nw ⟨rfl, hus⟩
    clear F25 N25
    k_steps
    rename Fr _ _ _ _ => F26
    rename News _ _ _ _ => N26
    rename_i lk hk26 tkk ok26
    have hu14 : us.length ≤ 14 := by rw [hus.length, hlZ2]; exact pick_few hfew
    refine go ?_
    refine LCg.ListComp_U (F₀ := F26) (by rfl) (by decide) (by rfl) (by decide) (by rfl) ?_
    k_steps
    refine go ?_
    refine LCg.CompSrc.ledger rfl F26 N26 (.head _) (by rw [List.size_toArray, sizeLine_eq]; omega) fun gh7 => ?_
    refine comp_inv (TupJ w9 ex _ (pickIdx calmB DS DS.length) DS) tupJ_zero ?_ ?_
    · rintro i v vk nw I oI C oC D m₂ h tk E' hi ⟨tl, rfl, hlen5, htl⟩ hv hC hx F N off ne
      rw [hlZ2] at hus
      obtain ⟨k, t, rfl, hk⟩ := IntsAre.at hus i v (by simpa using hv)
      obtain ⟨k0, k1⟩ := pick_bounds (List.mem_of_getElem? hk)
      obtain ⟨v, n, hv1, hn1, O1⟩ := thing_pick hlY k0 k1 hys
      clear F26 N26
      simp only [List.cons_append, List.nil_append] at N off
      have hst : StopHere := trivial
      k_steps
      refine go ?_
      rename Fr _ _ _ _ => F30
      rename News _ _ _ _ => N30
      refine item_listL (News.isList N30 (List.mem_of_getElem? (i := 15) rfl)) k0 (by omega) hv1 ?_
      k_steps
      rename_i l33
      rename Fr _ _ _ _ => F33
      rename News _ _ _ _ => N33
      exact tup_end F33 N33 off l33.1 l33.2.1 l33.2.2.1 (fun nw h => .inr ⟨_, h _ (.head _), rfl, _, rfl⟩) hlen5 htl hk hn1 O1
    rintro vk nw ⟨tl, rfl, hlen5, htl⟩
    clear F26 N26
    k_steps
    refine go ?_
    rename Fr _ _ _ _ => F31
    rename News _ _ _ _ => N31
    rename LCg.Off1 _ _ => off31
    have ho31 := off1_mem off31
    have hz9 : us.toArray.size = (pickIdx calmB DS DS.length).length := by rw [List.size_toArray, hus.length, hlZ2]
    have hz14 : (keptNs DS).length ≤ 14 := by rw [keptNs_len]; exact pick_few hfew
    refine smap_call w9 (ks := keptNs DS) (A₀ := callerA) (dp := callerA.depth + 1) (un := callerA.units + 3) F31 N31 (fun q hq => hq) K0 XF T' ho31 (by rw [hlen5, hz9, keptNs_len]) hz14 (kept_item hz9 htl hall ?sub1 ?sub2) rfl (show ScopeKind.function ≠ ScopeKind.module by decide) ?_ ?_ ?_
    case sub1 => exact fun p hp => .tail _ (.tail _ (.tail _ (.tail _ (.tail _ (.tail _ (.tail _ (.tail _ (.tail _ (.tail _ (.tail _ (.tail _ (.tail _ (List.mem_append_right _ hp)))))))))))))
    case sub2 => exact fun p hp => .tail _ (.tail _ (.tail _ (.tail _ (.tail _ (.tail _ (.tail _ (.tail _ (.tail _ (.tail _ (.tail _ (.tail _ (.tail _ (List.mem_append_left _ (hs2 p hp))))))))))))))
    · show callerA.depth + 1 + 70 < recursionLimit
      decide
    · show callerA.units + 3 + 400 < cLine
      decide
    intro lS h34 tk34 cS F34 N34 l34
    clear F31 N31
    dsimp only
    k_steps
    rename Fr _ _ _ _ => F35
    rename News _ _ _ _ => N35
    refine repr_yes (Top.seer T' noImports) (ns := keptNs DS) (c := cS) N35 (.head _) hz14 rfl (by show callerA.units + 3 + 4 < cLine; decide) fun h36 u36 tk36 k36 => ?_
    have F36 := F35.keeps k36
    have N36 : News _ _ _ _ := fun q hq => ⟨k36 _ _ (N35 q (.tail _ hq)).1, (N35 q (.tail _ hq)).2⟩
    clear F35 N35
    dsimp only
    k_steps
    refine go ?_
    rename Fr _ _ _ _ => F37
    rename News _ _ _ _ => N37
    refine LCg.ListComp_U (F₀ := F37) (by rfl) (by decide) (by rfl) (by decide) (by rfl) ?_
    k_steps
    refine go ?_
    refine LCg.CompSrc.ledger rfl F37 N37 (List.mem_of_getElem? (i := 2) rfl) (by rw [List.size_toArray, sizeLine_eq]; omega) fun gh8 => ?_
    refine comp_inv (AnsJ _ (keptNs DS)) ⟨rfl, rfl⟩ ?_ ?_
    · rintro i v xs nw I oI C oC D m₂ h tk E' hi ⟨rfl, hxs4⟩ hv hC hx F N off ne
      rw [hlZ2] at hus
      obtain ⟨k, t, rfl, hk⟩ := IntsAre.at hus i v (by simpa using hv)
      obtain ⟨k0, k1⟩ := pick_bounds (List.mem_of_getElem? hk)
      obtain ⟨v, n, hv1, hn1, O1⟩ := thing_pick hlY k0 k1 hys
      obtain ⟨tz, hz1⟩ := StrsAre.at hzs (show (DS.map toldOf)[k.toNat]? = some (toldOf n) by rw [List.getElem?_map, hn1]; rfl)
      clear F37 N37
      have hst : StopHere := trivial
      k_steps
      refine go ?_
      clear hst
      rename Fr _ _ _ _ => F40
      rename News _ _ _ _ => N40
      refine item_listL (News.isList N40 (List.mem_of_getElem? (i := 15) rfl)) k0 (by omega) hz1 ?_
      k_steps
      rename Fr _ _ _ _ => F8
      rename News _ _ _ _ => N8
      exact keep_end F8 N8 (fun p hp => hp) off (.inr ⟨_, List.mem_of_getElem? (i := 2) rfl, rfl, _, rfl⟩) (ans_next (keptNs_at hk hn1) hxs4)
    rintro xs4 nw ⟨rfl, hxs4⟩
    clear F37 N37
    rw [List.take_of_length_le (by rw [hz9, keptNs_len]; exact Nat.le_refl _)] at hxs4
    subst hxs4
    k_steps
    rename Fr _ _ _ _ => F38
    rename News _ _ _ _ => N38
    refine repr_yes (Top.seer T' noImports) (ns := keptNs DS) (c := ((keptNs DS).map ansOf).length) N38 (.head _) hz14 rfl (by show callerA.units + 3 + 4 < cLine; decide) fun h39 u39 tk39 k39 => ?_
    have F39 := F38.keeps k39
    have N39 : News _ _ _ _ := fun q hq => ⟨k39 _ _ (N38 q (.tail _ hq)).1, (N38 q (.tail _ hq)).2⟩
    clear F38 N38
    dsimp only
    refine eq_str ?_
    rw [beq_self_eq_true]
    refine And.intro ?_ ⟨GrownAt.of N39 (.tail _ (.tail _ (.tail _ (.tail _ (.tail _ (.tail _ (.tail _ (.tail _ (.tail _ (.tail _ (.tail _ (.tail _ (.tail _ (.tail _ (.tail _ (List.mem_append_left _ h114)))))))))))))))), trivial⟩
    k_steps
    done)
end Mine
end
open PySem PySem.W PyProof.Rows
theorem PySem.Challenge.cw_kl0055_01_holds : PySem.Challenge.rw_kl0055_01.Holds :=
  Mine.law0
