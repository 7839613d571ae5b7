import PyProof.Rows.All
import Wide.All
import OpenK.AllK
import Wide.FinOn
import Lean
import PySem.Challenge.RW_ny0178_01
open PySem PySem.W PySem.Calls PyProof.Rows
set_option Elab.async false
set_option linter.unusedVariables false
set_option maxRecDepth 100000
set_option maxHeartbeats 8000000
namespace Mine
open_top hd for PySem.Challenge.rw_ny0178_01

end Mine
namespace Mine
theorem offP02 : True ∧ True := by
  have h : True ∧ True := by first | (walk1; done) | exact ⟨trivial, trivial⟩
  w_top off
  exact h
theorem enter_def {prog : Program} {w : World} {A : Around} {s : Shared} {K : Frag} {R : Result → Shared → Prop} {name qual : Str} {params : Arguments} {body : List Stmt} {scope : Scope} {dV kV doc pm cdv ct oc : Value} {an od : Option Addr} {osl : Array (Option Value)} {f : Addr} {args : Args} {binds : List (Str × Value)}
    {p : Program} {loose : List Str} {mean : ExcName → Option Value} {mg mb : Str → Option Value}
    (X : K.In s.heap) (T : Top p loose mean mg mb s.heap)
    (ho : K.lookup f = some ⟨oc, od, .func (fnOf name qual params body scope dV kV doc pm an cdv ct), osl⟩) (hcd : codeIn K cdv qual = true) (hroom : A.depth < recursionLimit)
    (hbind : BindsTo s (fnOf name qual params body scope dV kV doc pm an cdv ct) args binds) (hloc : ∀ y ∈ binds, scope.names.lookup y.1 = some .local)
    (h : ∀ L' h₁, Fr s.heap L' h₁ (fun y => binds.reverse.lookup y) → News s.heap L' h₁ [] →
      wpAny (model prog w) (A.deeper (envOf qual scope L' f cdv)) (execs body (envOf qual scope L' f cdv))
        (fun fl s' => R (.ok (.ret (match fl with | .ret v => v | _ => .none))) s')
        (fun _ _ => False)
        { s with heap := h₁, toks := s.toks + binds.length })
    (hcell : ∀ x ∈ scope.names, x.2 ≠ .cell) (hco : scope.isCoroutine = false) (hgen : scope.isGenerator = false) (hk : scope.kind = .function) : codeAny (model prog w) A (.call (.ref f) args) R s := by
  refine codeAny_call_def (fd := fnOf name qual params body scope dV kV doc pm an cdv ct) (body := body) (binds := binds) hroom (X _ _ ho) rfl T.nolimit (codeRec_of X hcd) rfl hbind hcell hloc (fun h₁ hns hk₁ => ?_) hco hgen hk
  exact wpAny_mono (h s.heap.objs.size h₁ ⟨hns, hk₁, Nat.le_refl _⟩ News.nil) (fun _ _ x => x) (fun _ _ x => x.elim)



def bisL (c : Nat → Bool) : Nat → Nat → Nat → Nat
  | 0, lo, _ => lo
  | f + 1, lo, hi => if lo < hi then (if c ((lo + hi) / 2) then bisL c f ((lo + hi) / 2 + 1) hi else bisL c f lo ((lo + hi) / 2)) else lo
theorem bisL_step (c : Nat → Bool) : ∀ (f lo hi : Nat), hi - lo ≤ f → ∀ g, hi - lo ≤ g → bisL c f lo hi = bisL c g lo hi
  | 0, lo, hi, h, g, h' => by
    cases g with
    | zero => rfl
    | succ g => simp only [bisL]; rw [if_neg (by omega)]
  | f + 1, lo, hi, h, g, h' => by
    cases g with
    | zero => simp only [bisL]; rw [if_neg (by omega)]
    | succ g =>
      simp only [bisL]
      by_cases q : lo < hi
      · rw [if_pos q, if_pos q]
        rw [bisL_step c f _ hi (by omega) g (by omega), bisL_step c f lo _ (by omega) g (by omega)]
      · rw [if_neg q, if_neg q]
/-- the place that halving finds among n -/
def bis (c : Nat → Bool) (lo hi : Nat) : Nat := bisL c (hi - lo) lo hi
theorem bis_go {c : Nat → Bool} {lo hi : Nat} (h : lo < hi) : bis c lo hi = if c ((lo + hi) / 2) then bis c ((lo + hi) / 2 + 1) hi else bis c lo ((lo + hi) / 2) := by
  unfold bis
  obtain ⟨d, hd⟩ : ∃ d, hi - lo = d + 1 := ⟨hi - lo - 1, by omega⟩
  rw [hd]
  simp only [bisL, if_pos h]
  rw [bisL_step c d _ hi (by omega) _ (Nat.le_refl _), bisL_step c d lo _ (by omega) _ (Nat.le_refl _)]
theorem bis_end {c : Nat → Bool} {lo hi : Nat} (h : ¬ lo < hi) : bis c lo hi = lo := by
  unfold bis
  rw [show hi - lo = 0 by omega]
  rfl

theorem bis_le (c : Nat → Bool) (lo hi : Nat) (h : lo ≤ hi) : bis c lo hi ≤ hi := by
  induction hn : hi - lo using Nat.strongRecOn generalizing lo hi with
  | ind n ih =>
    by_cases q : lo < hi
    · rw [bis_go q]
      split
      · exact ih _ (by omega) _ _ (by omega) rfl
      · exact Nat.le_trans (ih _ (by omega) lo ((lo + hi) / 2) (by omega) rfl) (by omega)
    · rw [bis_end q]; exact h

def Held (P : Prop) : Prop := P
theorem Held.out {P : Prop} (h : Held P) : P := h
theorem held {P : Prop} (h : P) : Held P := h


theorem fr_keep {h₀ h h' : Heap} {L : Addr} {m : Str → Option Value} (F : Fr h₀ L h m) (hk : ∀ b o, h.get? b = some o → h'.get? b = some o) : Fr h₀ L h' m :=
  ⟨F.ns.keeps hk, fun b o e => hk b o (F.keep b o e), F.above⟩
theorem news_keep {h₀ h h' : Heap} {L : Addr} {news : List (Addr × Obj)} (N : News h₀ L h news) (hk : ∀ b o, h.get? b = some o → h'.get? b = some o) : News h₀ L h' news :=
  fun p hp => ⟨hk _ _ (N p hp).1, (N p hp).2⟩
theorem fnAt_keep {q : Addr} {h h' : Heap} (X : FnAt q h) (hk : ∀ b o, h.get? b = some o → h'.get? b = some o) : FnAt q h' :=
  let ⟨oc, od, fd, sl, e⟩ := X; ⟨oc, od, fd, sl, hk _ _ e⟩
theorem list_keep {l : Addr} {its : Array Value} {h h' : Heap} (X : h.IsList l its) (hk : ∀ b o, h.get? b = some o → h'.get? b = some o) : h'.IsList l its :=
  X.at fun o e => hk l o e

end Mine
namespace Mine
theorem offP03 : True ∧ True := by
  have h : True ∧ True := by first | (walk1; done) | exact ⟨trivial, trivial⟩
  w_top off
  exact h
section
local macro_rules | `(tactic| walk_at "call builtin:len") => `(tactic| ((with_reducible show wpAny _ _ (call (Value.builtin "len") [Value.ref _]) _ _ _); k_dflt (refine' len_list (Heap.IsList.at (by assumption) (fun _ e => Fr.keep (by assumption) _ _ e)) ?z ?_; (case z => first | assumption | omega); k_whole)))
local macro_rules | `(tactic| walk_at "exec While Compare cons nil") => `(tactic| refine Held.out ?_)
local macro_rules | `(tactic| walk_at "subscriptTail") => `(tactic| refine Held.out ?_)
local macro_rules | `(tactic| walk_at "compareOp Lt") => `(tactic| ((fail_if_success (with_reducible show wpAny _ _ (compareOp _ (Value.int _ _) (Value.int _ _)) _ _ _)); refine Held.out ?_))

local macro_rules | `(tactic| walk_at "mine same") => `(tactic| (intro z h2 h3; (simp only [List.forall_mem_cons, List.not_mem_nil, false_implies, implies_true, and_true, ne_eq] at h2); (simp only [List.contains_cons, List.contains_nil, Bool.or_false, Bool.or_eq_false_iff, beq_eq_false_iff_ne, ne_eq] at h3); simp [kstB, h2, h3]))

theorem bl_any : ∀ {w : World} {p : Program} {loose : List Str} {mean : ExcName → Option Value} {mg mb : Str → Option Value} {A : Around} {s : Shared} {l : Addr} {vs : List Value} {x : Value} {c : Nat → Bool} {t0 : Tok} {args : List Value} {Q : Value → Shared → Prop}
   (X : (hd.heap_39 w.params).In s.heap) (T : Top p loose mean mg mb s.heap) (hl : s.heap.IsList l vs.toArray) (hd : A.depth < 900) (hz : vs.length < 2 ^ 20)
   (ha : (args = [.ref l, x] ∧ t0 = 302) ∨ args = [.ref l, x, .int 0 t0, .none])
   (hc : ∀ (i : Nat) v, vs[i]? = some v → ∀ (A' : Around) (E' : Value → Shared → Prop) (s' : Shared) (Q' : Value → Shared → Prop), (∀ tk, Q' (.bool (c i)) { s' with toks := tk }) → wpAny (model PySem.Challenge.rw_ny0178_01.row.prog w) A' (compareOp .Lt v x) Q' E' s')
   (hQ : ∀ h' tk t, (∀ b o, s.heap.get? b = some o → h'.get? b = some o) → Q (.int (bis c 0 vs.length : Nat) t) { s with heap := h', toks := tk }),
   wpAny (model PySem.Challenge.rw_ny0178_01.row.prog w) A (call (.ref 99) args) Q (fun _ _ => False) s := by
  k_fill
  intro w p loose mean mg mb A s l vs x c t0 args Q X T hl hd hz ha hc hQ
  have hz' : (vs.toArray.size : Int) < 2 ^ 63 := by simp; omega
  refine wpAny_call ?_
  k_dflt (refine' enter_def (binds := [("a", .ref l), ("x", x), ("lo", .int 0 t0), ("hi", .none), ("key", .none)]) X T ?k6 ?k7 ?k8 ?k9 ?kB ?_ ?c5 ?c2 ?c3 ?c4; (case k6 => k_is); (case k7 => k_is); (case k8 => simp only [recursionLimit]; omega); (case k9 => rcases ha with ⟨rfl, rfl⟩ | rfl <;> (refine' kp_binds ?kx ?ke; (case kx => k_in); (case ke => exact fun _ => rfl))); (case kB => exact locs rfl); (case c2 => exact rfl); (case c3 => exact rfl); (case c4 => exact rfl); (case c5 => decide))
  intro L' h' F' N'
  dsimp only
  k_fold
  k_steps
  refine held ?_
  rename Fr _ _ _ _ => F1
  rename News _ _ _ _ => N1
  simp only [List.size_toArray] at F1
  generalize ett : (_ + 1 : Tok) = tt at F1
  refine' ksw_while (σ := (Nat × Tok) × (Nat × Tok)) (fun _ => []) (fun q => [("lo", .int q.1.1 q.1.2), ("hi", .int q.2.1 q.2.2)]) (fun _ => True) ["mid"] (fun q => q.1.1 ≤ q.2.1 ∧ q.2.1 ≤ vs.length ∧ bis c q.1.1 q.2.1 = bis c 0 vs.length) (fun q => q.2.1 - q.1.1) ((0, t0), (vs.length, tt)) F1 N1 trivial ?hk ⟨Nat.zero_le _, Nat.le_refl _, rfl⟩ ?turn
  case hk => exact List.forall_mem_cons.mpr ⟨rfl, List.forall_mem_cons.mpr ⟨rfl, List.forall_mem_nil _⟩⟩
  case turn =>
    clear F1 N1
    rintro ⟨⟨lo, t1⟩, ⟨hi, t2⟩⟩ u h tk - ⟨h1, h2, h3⟩ F1 N1
    dsimp only at h1 h2 h3 F1 N1
    have em : ((lo : Int) + hi).fdiv 2 = (((lo + hi) / 2 : Nat) : Int) := by
      rw [Int.fdiv_eq_ediv_of_nonneg _ (by omega)]; omega
    dsimp only
    with_reducible change wpAny _ _ _ _ _ _
    k_fold
    k_steps
    · rename Fr _ _ _ _ => F2
      rename News _ _ _ _ => N2
      obtain ⟨v, hv⟩ : ∃ v, vs[(lo + hi) / 2]? = some v := ⟨_, List.getElem?_eq_getElem (by omega)⟩
      refine held (item_list (x := v) (Heap.IsList.at hl (fun o e => F2.keep _ _ e)) (by rw [em]; omega) (by rw [em]; omega) (by rw [em, List.getElem?_toArray]; exact hv) ?_)
      k_steps
      refine held (hc _ v hv _ _ _ _ fun tk => ?_)
      k_steps
      all_goals
        rename Fr _ _ _ _ => F3
        rename News _ _ _ _ => N3
        simp only [em] at F3
        generalize (_ + 1 : Tok) = tt' at F3
      · refine' ksw_end (((lo + hi) / 2 + 1, tt'), (hi, t2)) F3 N3 (fun _ h => nomatch h) trivial (List.forall_mem_cons.mpr ⟨rfl, List.forall_mem_cons.mpr ⟨rfl, List.forall_mem_nil _⟩⟩) ?hr ⟨by dsimp only; omega, h2, ?hb⟩ (by dsimp only; omega)
        case hr => walk_at "mine same"
        case hb => dsimp only; rw [bis_go (lo := lo) (hi := hi) (by omega)] at h3; rw [← h3]; simp [*]
      · refine' ksw_end ((lo, t1), ((lo + hi) / 2, tt')) F3 N3 (fun _ h => nomatch h) trivial (List.forall_mem_cons.mpr ⟨rfl, List.forall_mem_cons.mpr ⟨rfl, List.forall_mem_nil _⟩⟩) ?hr ⟨by dsimp only; omega, by dsimp only; omega, ?hb⟩ (by dsimp only; omega)
        case hr => walk_at "mine same"
        case hb => dsimp only; rw [bis_go (lo := lo) (hi := hi) (by omega)] at h3; rw [← h3]; simp [*]
    · have e : bis c 0 vs.length = lo := by rw [← h3, bis_end (by omega)]
      rw [e] at hQ
      exact hQ _ _ _ F1.keep
end

end Mine
namespace Mine
theorem offP04 : True ∧ True := by
  have h : True ∧ True := by first | (walk1; done) | exact ⟨trivial, trivial⟩
  w_top off
  exact h
section
local macro_rules | `(tactic| walk_at "call builtin:len") => `(tactic| ((with_reducible show wpAny _ _ (call (Value.builtin "len") [Value.ref _]) _ _ _); k_dflt (refine' len_list (Heap.IsList.at (by assumption) (fun _ e => Fr.keep (by assumption) _ _ e)) ?z ?_; (case z => first | assumption | omega); k_whole)))
local macro_rules | `(tactic| walk_at "exec While Compare cons nil") => `(tactic| refine Held.out ?_)
local macro_rules | `(tactic| walk_at "subscriptTail") => `(tactic| refine Held.out ?_)
local macro_rules | `(tactic| walk_at "compareOp Lt") => `(tactic| ((fail_if_success (with_reducible show wpAny _ _ (compareOp _ (Value.int _ _) (Value.int _ _)) _ _ _)); refine Held.out ?_))

local macro_rules | `(tactic| walk_at "mine same") => `(tactic| (intro z h2 h3; (simp only [List.forall_mem_cons, List.not_mem_nil, false_implies, implies_true, and_true, ne_eq] at h2); (simp only [List.contains_cons, List.contains_nil, Bool.or_false, Bool.or_eq_false_iff, beq_eq_false_iff_ne, ne_eq] at h3); simp [kstB, h2, h3]))

theorem br_any : ∀ {w : World} {p : Program} {loose : List Str} {mean : ExcName → Option Value} {mg mb : Str → Option Value} {A : Around} {s : Shared} {l : Addr} {vs : List Value} {x : Value} {c : Nat → Bool} {t0 : Tok} {args : List Value} {Q : Value → Shared → Prop}
   (X : (hd.heap_39 w.params).In s.heap) (T : Top p loose mean mg mb s.heap) (hl : s.heap.IsList l vs.toArray) (hd : A.depth < 900) (hz : vs.length < 2 ^ 20)
   (ha : (args = [.ref l, x] ∧ t0 = 275) ∨ args = [.ref l, x, .int 0 t0, .none])
   (hc : ∀ (i : Nat) v, vs[i]? = some v → ∀ (A' : Around) (E' : Value → Shared → Prop) (s' : Shared) (Q' : Value → Shared → Prop), (∀ tk, Q' (.bool (!c i)) { s' with toks := tk }) → wpAny (model PySem.Challenge.rw_ny0178_01.row.prog w) A' (compareOp .Lt x v) Q' E' s')
   (hQ : ∀ h' tk t, (∀ b o, s.heap.get? b = some o → h'.get? b = some o) → Q (.int (bis c 0 vs.length : Nat) t) { s with heap := h', toks := tk }),
   wpAny (model PySem.Challenge.rw_ny0178_01.row.prog w) A (call (.ref 81) args) Q (fun _ _ => False) s := by
  k_fill
  intro w p loose mean mg mb A s l vs x c t0 args Q X T hl hd hz ha hc hQ
  have hz' : (vs.toArray.size : Int) < 2 ^ 63 := by simp; omega
  refine wpAny_call ?_
  k_dflt (refine' enter_def (binds := [("a", .ref l), ("x", x), ("lo", .int 0 t0), ("hi", .none), ("key", .none)]) X T ?k6 ?k7 ?k8 ?k9 ?kB ?_ ?c5 ?c2 ?c3 ?c4; (case k6 => k_is); (case k7 => k_is); (case k8 => simp only [recursionLimit]; omega); (case k9 => rcases ha with ⟨rfl, rfl⟩ | rfl <;> (refine' kp_binds ?kx ?ke; (case kx => k_in); (case ke => exact fun _ => rfl))); (case kB => exact locs rfl); (case c2 => exact rfl); (case c3 => exact rfl); (case c4 => exact rfl); (case c5 => decide))
  intro L' h' F' N'
  dsimp only
  k_fold
  k_steps
  refine held ?_
  rename Fr _ _ _ _ => F1
  rename News _ _ _ _ => N1
  simp only [List.size_toArray] at F1
  generalize ett : (_ + 1 : Tok) = tt at F1
  refine' ksw_while (σ := (Nat × Tok) × (Nat × Tok)) (fun _ => []) (fun q => [("lo", .int q.1.1 q.1.2), ("hi", .int q.2.1 q.2.2)]) (fun _ => True) ["mid"] (fun q => q.1.1 ≤ q.2.1 ∧ q.2.1 ≤ vs.length ∧ bis c q.1.1 q.2.1 = bis c 0 vs.length) (fun q => q.2.1 - q.1.1) ((0, t0), (vs.length, tt)) F1 N1 trivial ?hk ⟨Nat.zero_le _, Nat.le_refl _, rfl⟩ ?turn
  case hk => exact List.forall_mem_cons.mpr ⟨rfl, List.forall_mem_cons.mpr ⟨rfl, List.forall_mem_nil _⟩⟩
  case turn =>
    clear F1 N1
    rintro ⟨⟨lo, t1⟩, ⟨hi, t2⟩⟩ u h tk - ⟨h1, h2, h3⟩ F1 N1
    dsimp only at h1 h2 h3 F1 N1
    have em : ((lo : Int) + hi).fdiv 2 = (((lo + hi) / 2 : Nat) : Int) := by
      rw [Int.fdiv_eq_ediv_of_nonneg _ (by omega)]; omega
    dsimp only
    with_reducible change wpAny _ _ _ _ _ _
    k_fold
    k_steps
    · rename Fr _ _ _ _ => F2
      rename News _ _ _ _ => N2
      obtain ⟨v, hv⟩ : ∃ v, vs[(lo + hi) / 2]? = some v := ⟨_, List.getElem?_eq_getElem (by omega)⟩
      refine held (item_list (x := v) (Heap.IsList.at hl (fun o e => F2.keep _ _ e)) (by rw [em]; omega) (by rw [em]; omega) (by rw [em, List.getElem?_toArray]; exact hv) ?_)
      k_steps
      refine held (hc _ v hv _ _ _ _ fun tk => ?_)
      k_steps
      all_goals
        rename Fr _ _ _ _ => F3
        rename News _ _ _ _ => N3
        simp only [em] at F3
        generalize (_ + 1 : Tok) = tt' at F3
      · refine' ksw_end (((lo + hi) / 2 + 1, tt'), (hi, t2)) F3 N3 (fun _ h => nomatch h) trivial (List.forall_mem_cons.mpr ⟨rfl, List.forall_mem_cons.mpr ⟨rfl, List.forall_mem_nil _⟩⟩) ?hr ⟨by dsimp only; omega, h2, ?hb⟩ (by dsimp only; omega)
        case hr => walk_at "mine same"
        case hb => dsimp only; rw [bis_go (lo := lo) (hi := hi) (by omega)] at h3; rw [← h3]; simp [*]
      · refine' ksw_end ((lo, t1), ((lo + hi) / 2, tt')) F3 N3 (fun _ h => nomatch h) trivial (List.forall_mem_cons.mpr ⟨rfl, List.forall_mem_cons.mpr ⟨rfl, List.forall_mem_nil _⟩⟩) ?hr ⟨by dsimp only; omega, by dsimp only; omega, ?hb⟩ (by dsimp only; omega)
        case hr => walk_at "mine same"
        case hb => dsimp only; rw [bis_go (lo := lo) (hi := hi) (by omega)] at h3; rw [← h3]; simp [*]
    · have e : bis c 0 vs.length = lo := by rw [← h3, bis_end (by omega)]
      rw [e] at hQ
      exact hQ _ _ _ F1.keep
end

end Mine
namespace Mine
theorem offP05 : True ∧ True := by
  have h : True ∧ True := by first | (walk1; done) | exact ⟨trivial, trivial⟩
  w_top off
  exact h
section
local macro_rules | `(tactic| walk_at "call builtin:len") => `(tactic| ((with_reducible show wpAny _ _ (call (Value.builtin "len") [Value.ref _]) _ _ _); k_dflt (refine' len_list (Heap.IsList.at (by assumption) (fun _ e => Fr.keep (by assumption) _ _ e)) ?z ?_; (case z => first | assumption | omega); k_whole)))
local macro_rules | `(tactic| walk_at "call ref") => `(tactic| refine Held.out ?_)
local macro_rules | `(tactic| walk_at "And") => `(tactic| ((with_reducible show FnAt _ _ ∧ _); refine Held.out ?_))
local macro_rules | `(tactic| walk_at "callWith ref") => `(tactic| refine Held.out ?_)
local macro_rules | `(tactic| walk_at "exec While Compare cons nil") => `(tactic| refine Held.out ?_)
local macro_rules | `(tactic| walk_at "subscriptTail") => `(tactic| refine Held.out ?_)
local macro_rules | `(tactic| walk_at "compareOp Lt") => `(tactic| ((fail_if_success (with_reducible show wpAny _ _ (compareOp _ (Value.int _ _) (Value.int _ _)) _ _ _)); refine Held.out ?_))

local macro_rules | `(tactic| walk_at "mine same") => `(tactic| (intro z h2 h3; (simp only [List.forall_mem_cons, List.not_mem_nil, false_implies, implies_true, and_true, ne_eq] at h2); (simp only [List.contains_cons, List.contains_nil, Bool.or_false, Bool.or_eq_false_iff, beq_eq_false_iff_ne, ne_eq] at h3); simp [kstB, h2, h3]))

/-- what is asked of a key function: at every item it ends, keeps all that stands, and its value answers the comparison -/
def KeyOk (w : World) (s : Shared) (A : Around) (kf : Addr) (vs : List Value) (KV : Nat → Value → Prop) : Prop :=
  ∀ (i : Nat) v, vs[i]? = some v → ∀ (A' : Around) (s₁ : Shared) (Q' : Value → Shared → Prop), A'.handled = none → A'.depth ≤ A.depth + 1 → A'.units ≤ A.units + 3 →
    (∀ b o, s.heap.get? b = some o → s₁.heap.get? b = some o) → s₁.gens = s.gens → s₁.drawn = s.drawn → s₁.os = s.os →
    (∀ kv h' tk, (∀ b o, s₁.heap.get? b = some o → h'.get? b = some o) → KV i kv → Q' kv { s₁ with heap := h', toks := tk }) →
    wpAny (model PySem.Challenge.rw_ny0178_01.row.prog w) A' (call (.ref kf) [v]) Q' (fun _ _ => False) s₁

theorem bl_key : ∀ {w : World} {p : Program} {loose : List Str} {mean : ExcName → Option Value} {mg mb : Str → Option Value} {A : Around} {s : Shared} {l kf : Addr} {vs : List Value} {x : Value} {c : Nat → Bool} {KV : Nat → Value → Prop} {Q : Value → Shared → Prop}
   (X : (hd.heap_39 w.params).In s.heap) (T : Top p loose mean mg mb s.heap) (hl : s.heap.IsList l vs.toArray) (hh : A.handled = none) (hd : A.depth < 900) (hz : vs.length < 2 ^ 20) (hf : FnAt kf s.heap)
   (hkey : KeyOk w s A kf vs KV)
   (hc : ∀ (i : Nat) kv, i < vs.length → KV i kv → ∀ (A' : Around) (E' : Value → Shared → Prop) (s' : Shared) (Q' : Value → Shared → Prop), (∀ tk, Q' (.bool (c i)) { s' with toks := tk }) → wpAny (model PySem.Challenge.rw_ny0178_01.row.prog w) A' (compareOp .Lt kv x) Q' E' s')
   (hQ : ∀ h' tk t, (∀ b o, s.heap.get? b = some o → h'.get? b = some o) → Q (.int (bis c 0 vs.length : Nat) t) { s with heap := h', toks := tk }),
   wpAny (model PySem.Challenge.rw_ny0178_01.row.prog w) A (call (.ref 99) [.ref l, x] [("key", .ref kf)]) Q (fun _ _ => False) s := by
  k_fill
  intro w p loose mean mg mb A s l kf vs x c KV Q X T hl hh hd hz hf hkey hc hQ
  have hz' : (vs.toArray.size : Int) < 2 ^ 63 := by simp; omega
  refine wpAny_call ?_
  k_dflt (refine' enter_def (binds := [("a", .ref l), ("x", x), ("lo", .int 0 302), ("hi", .none), ("key", .ref kf)]) X T ?k6 ?k7 ?k8 ?k9 ?kB ?_ ?c5 ?c2 ?c3 ?c4; (case k6 => k_is); (case k7 => k_is); (case k8 => simp only [recursionLimit]; omega); (case k9 => (refine' kp_binds ?kx ?ke; (case kx => k_in); (case ke => exact fun _ => rfl))); (case kB => exact locs rfl); (case c2 => exact rfl); (case c3 => exact rfl); (case c4 => exact rfl); (case c5 => decide))
  intro L' h' F' N'
  dsimp only
  k_fold
  k_steps
  refine held ?_
  rename Fr _ _ _ _ => F1
  rename News _ _ _ _ => N1
  simp only [List.size_toArray] at F1
  generalize ett : (_ + 1 : Tok) = tt at F1
  refine' ksw_while (σ := (Nat × Tok) × (Nat × Tok)) (fun _ => []) (fun q => [("lo", .int q.1.1 q.1.2), ("hi", .int q.2.1 q.2.2)]) (fun _ => True) ["mid"] (fun q => q.1.1 ≤ q.2.1 ∧ q.2.1 ≤ vs.length ∧ bis c q.1.1 q.2.1 = bis c 0 vs.length) (fun q => q.2.1 - q.1.1) ((0, 302), (vs.length, tt)) F1 N1 trivial ?hk ⟨Nat.zero_le _, Nat.le_refl _, rfl⟩ ?turn
  case hk => exact List.forall_mem_cons.mpr ⟨rfl, List.forall_mem_cons.mpr ⟨rfl, List.forall_mem_nil _⟩⟩
  case turn =>
    clear F1 N1
    rintro ⟨⟨lo, t1⟩, ⟨hi, t2⟩⟩ u h tk - ⟨h1, h2, h3⟩ F1 N1
    dsimp only at h1 h2 h3 F1 N1
    have em : ((lo : Int) + hi).fdiv 2 = (((lo + hi) / 2 : Nat) : Int) := by
      rw [Int.fdiv_eq_ediv_of_nonneg _ (by omega)]; omega
    dsimp only
    with_reducible change wpAny _ _ _ _ _ _
    k_fold
    k_steps
    · rename Fr _ _ _ _ => F2
      rename News _ _ _ _ => N2
      obtain ⟨v, hv⟩ : ∃ v, vs[(lo + hi) / 2]? = some v := ⟨_, List.getElem?_eq_getElem (by omega)⟩
      refine held (callWith_F (fnAt_keep hf F2.keep) ?_)
      k_steps
      refine held (item_list (x := v) (list_keep hl F2.keep) (by rw [em]; omega) (by rw [em]; omega) (by rw [em, List.getElem?_toArray]; exact hv) ?_)
      k_steps
      refine held ⟨fnAt_keep hf F2.keep, ?_⟩
      refine wpAny_mono (hkey _ v hv _ _ _ hh (Nat.le_refl _) (Nat.le_refl _) F2.keep rfl rfl rfl fun kv h4 tk4 hk4 hkv => ?_) (fun _ _ x => x) (fun _ _ x => x.elim)
      have F4 := fr_keep F2 hk4
      have N4 := news_keep N2 hk4
      clear F2 N2
      k_steps
      refine held (hc _ kv (by omega) hkv _ _ _ _ fun tk => ?_)
      k_steps
      all_goals
        rename Fr _ _ _ _ => F3
        rename News _ _ _ _ => N3
        simp only [em] at F3
        generalize (_ + 1 : Tok) = tt' at F3
      · refine' ksw_end (((lo + hi) / 2 + 1, tt'), (hi, t2)) F3 N3 (fun _ h => nomatch h) trivial (List.forall_mem_cons.mpr ⟨rfl, List.forall_mem_cons.mpr ⟨rfl, List.forall_mem_nil _⟩⟩) ?hr ⟨by dsimp only; omega, h2, ?hb⟩ (by dsimp only; omega)
        case hr => walk_at "mine same"
        case hb => dsimp only; rw [bis_go (lo := lo) (hi := hi) (by omega)] at h3; rw [← h3]; simp [*]
      · refine' ksw_end ((lo, t1), ((lo + hi) / 2, tt')) F3 N3 (fun _ h => nomatch h) trivial (List.forall_mem_cons.mpr ⟨rfl, List.forall_mem_cons.mpr ⟨rfl, List.forall_mem_nil _⟩⟩) ?hr ⟨by dsimp only; omega, by dsimp only; omega, ?hb⟩ (by dsimp only; omega)
        case hr => walk_at "mine same"
        case hb => dsimp only; rw [bis_go (lo := lo) (hi := hi) (by omega)] at h3; rw [← h3]; simp [*]
    · have e : bis c 0 vs.length = lo := by rw [← h3, bis_end (by omega)]
      rw [e] at hQ
      exact hQ _ _ _ F1.keep
end

end Mine
namespace Mine
theorem offP06 : True ∧ True := by
  have h : True ∧ True := by first | (walk1; done) | exact ⟨trivial, trivial⟩
  w_top off
  exact h
section
local macro_rules | `(tactic| walk_at "call builtin:len") => `(tactic| ((with_reducible show wpAny _ _ (call (Value.builtin "len") [Value.ref _]) _ _ _); k_dflt (refine' len_list (Heap.IsList.at (by assumption) (fun _ e => Fr.keep (by assumption) _ _ e)) ?z ?_; (case z => first | assumption | omega); k_whole)))
local macro_rules | `(tactic| walk_at "call ref") => `(tactic| refine Held.out ?_)
local macro_rules | `(tactic| walk_at "And") => `(tactic| ((with_reducible show FnAt _ _ ∧ _); refine Held.out ?_))
local macro_rules | `(tactic| walk_at "callWith ref") => `(tactic| refine Held.out ?_)
local macro_rules | `(tactic| walk_at "exec While Compare cons nil") => `(tactic| refine Held.out ?_)
local macro_rules | `(tactic| walk_at "subscriptTail") => `(tactic| refine Held.out ?_)
local macro_rules | `(tactic| walk_at "compareOp Lt") => `(tactic| ((fail_if_success (with_reducible show wpAny _ _ (compareOp _ (Value.int _ _) (Value.int _ _)) _ _ _)); refine Held.out ?_))

local macro_rules | `(tactic| walk_at "mine same") => `(tactic| (intro z h2 h3; (simp only [List.forall_mem_cons, List.not_mem_nil, false_implies, implies_true, and_true, ne_eq] at h2); (simp only [List.contains_cons, List.contains_nil, Bool.or_false, Bool.or_eq_false_iff, beq_eq_false_iff_ne, ne_eq] at h3); simp [kstB, h2, h3]))

theorem br_key : ∀ {w : World} {p : Program} {loose : List Str} {mean : ExcName → Option Value} {mg mb : Str → Option Value} {A : Around} {s : Shared} {l kf : Addr} {vs : List Value} {x : Value} {c : Nat → Bool} {KV : Nat → Value → Prop} {Q : Value → Shared → Prop}
   (X : (hd.heap_39 w.params).In s.heap) (T : Top p loose mean mg mb s.heap) (hl : s.heap.IsList l vs.toArray) (hh : A.handled = none) (hd : A.depth < 900) (hz : vs.length < 2 ^ 20) (hf : FnAt kf s.heap)
   (hkey : KeyOk w s A kf vs KV)
   (hc : ∀ (i : Nat) kv, i < vs.length → KV i kv → ∀ (A' : Around) (E' : Value → Shared → Prop) (s' : Shared) (Q' : Value → Shared → Prop), (∀ tk, Q' (.bool (!c i)) { s' with toks := tk }) → wpAny (model PySem.Challenge.rw_ny0178_01.row.prog w) A' (compareOp .Lt x kv) Q' E' s')
   (hQ : ∀ h' tk t, (∀ b o, s.heap.get? b = some o → h'.get? b = some o) → Q (.int (bis c 0 vs.length : Nat) t) { s with heap := h', toks := tk }),
   wpAny (model PySem.Challenge.rw_ny0178_01.row.prog w) A (call (.ref 81) [.ref l, x] [("key", .ref kf)]) Q (fun _ _ => False) s := by
  k_fill
  intro w p loose mean mg mb A s l kf vs x c KV Q X T hl hh hd hz hf hkey hc hQ
  have hz' : (vs.toArray.size : Int) < 2 ^ 63 := by simp; omega
  refine wpAny_call ?_
  k_dflt (refine' enter_def (binds := [("a", .ref l), ("x", x), ("lo", .int 0 275), ("hi", .none), ("key", .ref kf)]) X T ?k6 ?k7 ?k8 ?k9 ?kB ?_ ?c5 ?c2 ?c3 ?c4; (case k6 => k_is); (case k7 => k_is); (case k8 => simp only [recursionLimit]; omega); (case k9 => (refine' kp_binds ?kx ?ke; (case kx => k_in); (case ke => exact fun _ => rfl))); (case kB => exact locs rfl); (case c2 => exact rfl); (case c3 => exact rfl); (case c4 => exact rfl); (case c5 => decide))
  intro L' h' F' N'
  dsimp only
  k_fold
  k_steps
  refine held ?_
  rename Fr _ _ _ _ => F1
  rename News _ _ _ _ => N1
  simp only [List.size_toArray] at F1
  generalize ett : (_ + 1 : Tok) = tt at F1
  refine' ksw_while (σ := (Nat × Tok) × (Nat × Tok)) (fun _ => []) (fun q => [("lo", .int q.1.1 q.1.2), ("hi", .int q.2.1 q.2.2)]) (fun _ => True) ["mid"] (fun q => q.1.1 ≤ q.2.1 ∧ q.2.1 ≤ vs.length ∧ bis c q.1.1 q.2.1 = bis c 0 vs.length) (fun q => q.2.1 - q.1.1) ((0, 275), (vs.length, tt)) F1 N1 trivial ?hk ⟨Nat.zero_le _, Nat.le_refl _, rfl⟩ ?turn
  case hk => exact List.forall_mem_cons.mpr ⟨rfl, List.forall_mem_cons.mpr ⟨rfl, List.forall_mem_nil _⟩⟩
  case turn =>
    clear F1 N1
    rintro ⟨⟨lo, t1⟩, ⟨hi, t2⟩⟩ u h tk - ⟨h1, h2, h3⟩ F1 N1
    dsimp only at h1 h2 h3 F1 N1
    have em : ((lo : Int) + hi).fdiv 2 = (((lo + hi) / 2 : Nat) : Int) := by
      rw [Int.fdiv_eq_ediv_of_nonneg _ (by omega)]; omega
    dsimp only
    with_reducible change wpAny _ _ _ _ _ _
    k_fold
    k_steps
    · rename Fr _ _ _ _ => F2
      rename News _ _ _ _ => N2
      obtain ⟨v, hv⟩ : ∃ v, vs[(lo + hi) / 2]? = some v := ⟨_, List.getElem?_eq_getElem (by omega)⟩
      refine held (callWith_F (fnAt_keep hf F2.keep) ?_)
      k_steps
      refine held (item_list (x := v) (list_keep hl F2.keep) (by rw [em]; omega) (by rw [em]; omega) (by rw [em, List.getElem?_toArray]; exact hv) ?_)
      k_steps
      refine held ⟨fnAt_keep hf F2.keep, ?_⟩
      refine wpAny_mono (hkey _ v hv _ _ _ hh (Nat.le_refl _) (Nat.le_refl _) F2.keep rfl rfl rfl fun kv h4 tk4 hk4 hkv => ?_) (fun _ _ x => x) (fun _ _ x => x.elim)
      have F4 := fr_keep F2 hk4
      have N4 := news_keep N2 hk4
      clear F2 N2
      k_steps
      refine held (hc _ kv (by omega) hkv _ _ _ _ fun tk => ?_)
      k_steps
      all_goals
        rename Fr _ _ _ _ => F3
        rename News _ _ _ _ => N3
        simp only [em] at F3
        generalize (_ + 1 : Tok) = tt' at F3
      · refine' ksw_end (((lo + hi) / 2 + 1, tt'), (hi, t2)) F3 N3 (fun _ h => nomatch h) trivial (List.forall_mem_cons.mpr ⟨rfl, List.forall_mem_cons.mpr ⟨rfl, List.forall_mem_nil _⟩⟩) ?hr ⟨by dsimp only; omega, h2, ?hb⟩ (by dsimp only; omega)
        case hr => walk_at "mine same"
        case hb => dsimp only; rw [bis_go (lo := lo) (hi := hi) (by omega)] at h3; rw [← h3]; simp [*]
      · refine' ksw_end ((lo, t1), ((lo + hi) / 2, tt')) F3 N3 (fun _ h => nomatch h) trivial (List.forall_mem_cons.mpr ⟨rfl, List.forall_mem_cons.mpr ⟨rfl, List.forall_mem_nil _⟩⟩) ?hr ⟨by dsimp only; omega, by dsimp only; omega, ?hb⟩ (by dsimp only; omega)
        case hr => walk_at "mine same"
        case hb => dsimp only; rw [bis_go (lo := lo) (hi := hi) (by omega)] at h3; rw [← h3]; simp [*]
    · have e : bis c 0 vs.length = lo := by rw [← h3, bis_end (by omega)]
      rw [e] at hQ
      exact hQ _ _ _ F1.keep
end

end Mine
namespace Mine
theorem offP07 : True ∧ True := by
  have h : True ∧ True := by first | (walk1; done) | exact ⟨trivial, trivial⟩
  w_top off
  exact h
theorem hideAll_sub {h : Heap} {as : List Addr} {g : Heap} (hg : ∀ b o, g.get? b = some o → h.get? b = some o) (hn : ∀ a ∈ as, g.get? a = none) : ∀ b o, g.get? b = some o → (hideAll h as).get? b = some o :=
  fun b o e => hideAll_get _ (hg b o e) fun hb => by rw [hn b hb] at e; cases e

/-- a def is entered: what it may change stands in the ledger led, all else is the base -/
theorem enter_led {prog : Program} {w : World} {A : Around} {s : Shared} {K : Frag} {R : Result → Shared → Prop} {name qual : Str} {params : Arguments} {body : List Stmt} {scope : Scope} {dV kV doc pm cdv ct oc : Value} {an od : Option Addr} {osl : Array (Option Value)} {f : Addr} {args : Args} {binds : List (Str × Value)}
    {p : Program} {loose : List Str} {mean : ExcName → Option Value} {mg mb : Str → Option Value} {g : Heap} (led : List (Addr × Obj))
    (X : K.In g) (T : Top p loose mean mg mb g) (hg : ∀ b o, g.get? b = some o → s.heap.get? b = some o) (hled : ∀ q ∈ led, s.heap.get? q.1 = some q.2 ∧ g.get? q.1 = none)
    (ho : K.lookup f = some ⟨oc, od, .func (fnOf name qual params body scope dV kV doc pm an cdv ct), osl⟩) (hcd : codeIn K cdv qual = true) (hroom : A.depth < recursionLimit)
    (hbind : BindsTo s (fnOf name qual params body scope dV kV doc pm an cdv ct) args binds) (hloc : ∀ y ∈ binds, scope.names.lookup y.1 = some .local)
    (h : ∀ h₀ L' h₁, h₀ = hideAll s.heap (led.map (·.1)) → K.In h₀ → Top p loose mean mg mb h₀ → (∀ b o, g.get? b = some o → h₀.get? b = some o) → Fr h₀ L' h₁ (fun y => binds.reverse.lookup y) → News h₀ L' h₁ led → (∀ q ∈ led, q.1 < L') →
      wpAny (model prog w) (A.deeper (envOf qual scope L' f cdv)) (execs body (envOf qual scope L' f cdv))
        (fun fl s' => R (.ok (.ret (match fl with | .ret v => v | _ => .none))) s')
        (fun _ _ => False)
        { s with heap := h₁, toks := s.toks + binds.length })
    (hcell : ∀ x ∈ scope.names, x.2 ≠ .cell) (hco : scope.isCoroutine = false) (hgen : scope.isGenerator = false) (hk : scope.kind = .function) : codeAny (model prog w) A (.call (.ref f) args) R s := by
  have X' := X.keeps hg
  have hn : ∀ a ∈ led.map (·.1), g.get? a = none := fun a ha => by
    obtain ⟨q, hq, rfl⟩ := List.mem_map.mp ha
    exact (hled q hq).2
  have hsub := hideAll_sub hg hn
  refine codeAny_call_def (fd := fnOf name qual params body scope dV kV doc pm an cdv ct) (body := body) (binds := binds) hroom (X' _ _ ho) rfl (T.keeps hg).nolimit (codeRec_of X' hcd) rfl hbind hcell hloc (fun h₁ hns hk₁ => ?_) hco hgen hk
  refine wpAny_mono (h _ s.heap.objs.size h₁ rfl (X.keeps hsub) (T.keeps hsub) hsub ⟨hns, fun b o e => hk₁ b o (of_hideAll _ e), Nat.le_of_eq (hideAll_size _ _)⟩ (fun q hq => ?_) (fun q hq => Heap.lt_size (hled q hq).1)) (fun _ _ x => x) (fun _ _ x => x.elim)
  exact ⟨hk₁ _ _ (hled q hq).1, Nat.ne_of_lt (Heap.lt_size (hled q hq).1), hideAll_none _ (List.mem_map_of_mem hq)⟩

section
local macro_rules | `(tactic| walk_at "call ref") => `(tactic| refine Held.out ?_)
local macro_rules | `(tactic| walk_at "call builtin:list.insert") => `(tactic| refine Held.out ?_)

theorem insl : ∀ {w : World} {p : Program} {loose : List Str} {mean : ExcName → Option Value} {mg mb : Str → Option Value} {A : Around} {s : Shared} {g : Heap} {l : Addr} {vs : List Value} {n : Nat} {x : Value} {c : Nat → Bool} {Q : Value → Shared → Prop}
   (X : (hd.heap_39 w.params).In g) (T : Top p loose mean mg mb g) (hg : ∀ b o, g.get? b = some o → s.heap.get? b = some o) (hl : s.heap.get? l = some (listOf vs.toArray n)) (hgl : g.get? l = none) (hd : A.depth < 890) (hz : vs.length < 2 ^ 20)
   (hc : ∀ (i : Nat) v, vs[i]? = some v → ∀ (A' : Around) (E' : Value → Shared → Prop) (s' : Shared) (Q' : Value → Shared → Prop), (∀ tk, Q' (.bool (c i)) { s' with toks := tk }) → wpAny (model PySem.Challenge.rw_ny0178_01.row.prog w) A' (compareOp .Lt v x) Q' E' s')
   (hQ : ∀ h' tk n', (∀ b o, b ≠ l → s.heap.get? b = some o → h'.get? b = some o) → h'.get? l = some (listOf (kl_ins vs (bis c 0 vs.length : Nat) x).toArray n') → Q .none { s with heap := h', toks := tk }),
   wpAny (model PySem.Challenge.rw_ny0178_01.row.prog w) A (call (.ref 90) [.ref l, x]) Q (fun _ _ => False) s := by
  k_fill
  intro w p loose mean mg mb A s g l vs n x c Q X T hg hl hgl hd hz hc hQ
  refine wpAny_call ?_
  k_dflt (refine' enter_led (binds := [("a", .ref l), ("x", x), ("lo", .int 0 289), ("hi", .none), ("key", .none)]) [(l, listOf vs.toArray n)] X T hg (List.forall_mem_cons.mpr ⟨⟨hl, hgl⟩, List.forall_mem_nil _⟩) ?k6 ?k7 ?k8 ?k9 ?kB ?_ ?c5 ?c2 ?c3 ?c4; (case k6 => k_is); (case k7 => k_is); (case k8 => simp only [recursionLimit]; omega); (case k9 => (refine' kp_binds ?kx ?ke; (case kx => exact X.keeps hg); (case ke => exact fun _ => rfl))); (case kB => exact locs rfl); (case c2 => exact rfl); (case c3 => exact rfl); (case c4 => exact rfl); (case c5 => decide))
  intro h₀ L' h' eh X' T' hg' F' N' hlt
  dsimp only
  k_fold
  k_steps
  refine held (wpAny_mono (bl_any (X'.keeps F'.keep) (T'.keeps F'.keep) ⟨_, (N' _ (.head _)).1, rfl, n, rfl⟩ (by show A.depth + 1 < 900; omega) hz (.inr rfl) hc fun h4 tk4 t4 hk4 => ?_) (fun _ _ x => x) (fun _ _ x => x.elim))
  have F4 := fr_keep F' hk4
  have N4 := news_keep N' hk4
  clear F' N'
  k_steps
  rename Fr _ _ _ _ => F5
  rename News _ _ _ _ => N5
  refine held (kl_insert F5 N5 ?hf rfl (Upd.head (List.forall_mem_nil _)) (by show vs.length ≤ sizeLine; rw [sizeLine_eq]; omega) fun h6 F6 N6 => ?_)
  case hf =>
    have hb := bis_le c 0 vs.length (Nat.zero_le _)
    simp only [Builtin.List.listFitsIndex, Bool.and_eq_true, decide_eq_true_eq]
    omega
  k_steps
  refine hQ _ _ _ (fun b o hb e => F6.keep b o ?_) (N6 _ (.head _)).1
  rw [eh]
  exact hideAll_get _ e (fun hm => hb (List.mem_singleton.mp hm))

theorem insr : ∀ {w : World} {p : Program} {loose : List Str} {mean : ExcName → Option Value} {mg mb : Str → Option Value} {A : Around} {s : Shared} {g : Heap} {l : Addr} {vs : List Value} {n : Nat} {x : Value} {c : Nat → Bool} {Q : Value → Shared → Prop}
   (X : (hd.heap_39 w.params).In g) (T : Top p loose mean mg mb g) (hg : ∀ b o, g.get? b = some o → s.heap.get? b = some o) (hl : s.heap.get? l = some (listOf vs.toArray n)) (hgl : g.get? l = none) (hd : A.depth < 890) (hz : vs.length < 2 ^ 20)
   (hc : ∀ (i : Nat) v, vs[i]? = some v → ∀ (A' : Around) (E' : Value → Shared → Prop) (s' : Shared) (Q' : Value → Shared → Prop), (∀ tk, Q' (.bool (!c i)) { s' with toks := tk }) → wpAny (model PySem.Challenge.rw_ny0178_01.row.prog w) A' (compareOp .Lt x v) Q' E' s')
   (hQ : ∀ h' tk n', (∀ b o, b ≠ l → s.heap.get? b = some o → h'.get? b = some o) → h'.get? l = some (listOf (kl_ins vs (bis c 0 vs.length : Nat) x).toArray n') → Q .none { s with heap := h', toks := tk }),
   wpAny (model PySem.Challenge.rw_ny0178_01.row.prog w) A (call (.ref 72) [.ref l, x]) Q (fun _ _ => False) s := by
  k_fill
  intro w p loose mean mg mb A s g l vs n x c Q X T hg hl hgl hd hz hc hQ
  refine wpAny_call ?_
  k_dflt (refine' enter_led (binds := [("a", .ref l), ("x", x), ("lo", .int 0 262), ("hi", .none), ("key", .none)]) [(l, listOf vs.toArray n)] X T hg (List.forall_mem_cons.mpr ⟨⟨hl, hgl⟩, List.forall_mem_nil _⟩) ?k6 ?k7 ?k8 ?k9 ?kB ?_ ?c5 ?c2 ?c3 ?c4; (case k6 => k_is); (case k7 => k_is); (case k8 => simp only [recursionLimit]; omega); (case k9 => (refine' kp_binds ?kx ?ke; (case kx => exact X.keeps hg); (case ke => exact fun _ => rfl))); (case kB => exact locs rfl); (case c2 => exact rfl); (case c3 => exact rfl); (case c4 => exact rfl); (case c5 => decide))
  intro h₀ L' h' eh X' T' hg' F' N' hlt
  dsimp only
  k_fold
  k_steps
  refine held (wpAny_mono (br_any (X'.keeps F'.keep) (T'.keeps F'.keep) ⟨_, (N' _ (.head _)).1, rfl, n, rfl⟩ (by show A.depth + 1 < 900; omega) hz (.inr rfl) hc fun h4 tk4 t4 hk4 => ?_) (fun _ _ x => x) (fun _ _ x => x.elim))
  have F4 := fr_keep F' hk4
  have N4 := news_keep N' hk4
  clear F' N'
  k_steps
  rename Fr _ _ _ _ => F5
  rename News _ _ _ _ => N5
  refine held (kl_insert F5 N5 ?hf rfl (Upd.head (List.forall_mem_nil _)) (by show vs.length ≤ sizeLine; rw [sizeLine_eq]; omega) fun h6 F6 N6 => ?_)
  case hf =>
    have hb := bis_le c 0 vs.length (Nat.zero_le _)
    simp only [Builtin.List.listFitsIndex, Bool.and_eq_true, decide_eq_true_eq]
    omega
  k_steps
  refine hQ _ _ _ (fun b o hb e => F6.keep b o ?_) (N6 _ (.head _)).1
  rw [eh]
  exact hideAll_get _ e (fun hm => hb (List.mem_singleton.mp hm))
end

end Mine
namespace Mine
theorem offP08 : True ∧ True := by
  have h : True ∧ True := by first | (walk1; done) | exact ⟨trivial, trivial⟩
  w_top off
  exact h
section fattr
open Builtin Builtin.ObjectAttr
theorem fx_set : Slot "function" "__setattr__" "object.__setattr__" :=
  .of (owner := "object") (n := "__setattr__") (by rw [typeLookup_type, builtinLookup_eq_fast]; kernel_rfl) (by decide +kernel) (by decide +kernel) (by decide +kernel)
    (by first | exact .inl (by decide +kernel) | exact .inr (by decide +kernel)) (by rw [isSubtype_type]; kernel_rfl)
theorem fx_setE : entryFor table "object.__setattr__" = some Builtin.«object.__setattr__» := entryFor_of_tree (by kernel_rfl)
theorem fx_setA (a b c : Value) : argsOk "object.__setattr__" ⟨[a, b, c], []⟩ := by unfold argsOk; kernel_rfl
theorem fx_mro : mroOf (.type "function") = pure [.type "function", .type "object"] := by unfold mroOf; kernel_rfl
theorem fx_passes (self : Value) : refuseLoop self "__setattr__" [.type "function", .type "object"] = pure () := by kernel_rfl
theorem fx_ga : typeLookup (.type "function") "__getattribute__" = pure (some (.builtin "object.__getattribute__")) := by rw [typeLookup_type, builtinLookup_eq_fast]; kernel_rfl
theorem fx_applies : typeLookup (.type "function") "applies_to" = pure none := by rw [typeLookup_type, builtinLookup_eq_fast]; kernel_rfl
theorem fx_allow : typeLookup (.type "function") "allowance" = pure none := by rw [typeLookup_type, builtinLookup_eq_fast]; kernel_rfl
theorem fx_hook : typeLookup (.type "function") "__getattr__" = pure none := by rw [typeLookup_type, builtinLookup_eq_fast]; kernel_rfl

theorem fr_but {h₀ h h' : Heap} {L d : Addr} {m : Str → Option Value} (F : Fr h₀ L h m) (hd : h₀.get? d = none) (hL : d ≠ L) (hk : ∀ b o, b ≠ d → h.get? b = some o → h'.get? b = some o) : Fr h₀ L h' m := by
  obtain ⟨oL, es, ep, hl, r⟩ := F.ns
  refine ⟨⟨oL, es, ep, hk _ _ (Ne.symm hL) hl, r⟩, fun b o e => hk b o (fun q => ?_) (F.keep b o e), F.above⟩
  rw [q, hd] at e; cases e
theorem news_but {h₀ h h' : Heap} {L d : Addr} {l : List (Addr × Obj)} (N : News h₀ L h l) (hne : ∀ p ∈ l, p.1 ≠ d) (hk : ∀ b o, b ≠ d → h.get? b = some o → h'.get? b = some o) : News h₀ L h' l :=
  fun p hp => ⟨hk _ _ (hne p hp) (N p hp).1, (N p hp).2⟩
theorem news_cons {h₀ h : Heap} {L : Addr} {p : Addr × Obj} {l : List (Addr × Obj)} (h1 : h.get? p.1 = some p.2) (h2 : p.1 ≠ L) (h3 : h₀.get? p.1 = none) (N : News h₀ L h l) : News h₀ L h (p :: l) :=
  fun q hq => by
    rcases List.mem_cons.mp hq with rfl | hq
    · exact ⟨h1, h2, h3⟩
    · exact N q hq

theorem nsSet_dict {prog : Program} {w : World} {A : Around} {E : Value → Shared → Prop} {s : Shared} {d : Addr} {es es' : List DictEntry} {n n' : Nat} {name : Str} {v : Value} {Q : Unit → Shared → Prop}
    (hd : s.heap.get? d = some (dictOf es n)) (hl : (getL name es).isSome = true) (e : (putL name (PyData.keyHash w.params name) (.str name s.toks) v es, putN name es n) = (es', n'))
    (h : ∀ h', h'.get? d = some (dictOf es' n') → (∀ b o, b ≠ d → s.heap.get? b = some o → h'.get? b = some o) → Q () { s with heap := h', toks := s.toks + 1 }) :
    wpAny (model prog w) A (nsSet d name v) Q E s := by
  obtain ⟨e1, e2⟩ := Prod.mk.inj e
  have eo : Obj.putName name (PyData.keyHash w.params name) (.str name s.toks) v (dictOf es n) = dictOf es' n' := by rw [putName_dict, e1, e2]
  unfold nsSet
  refine wpAny_bind (wpAny_bind (wpAny_askSetting (wpAny_pure (wpAny_bind (wpAny_mkText (wpAny_bind (wpAny_loadPart hd ?_)))))))
  dsimp only
  have c : (!es.toArray.any (·.key.isStr name) && es.toArray.any (·.refKey)) = false := by
    rw [← Array.any_toList, ← Array.any_toList]
    unfold getL at hl
    split at hl
    · rename_i en he
      rw [List.any_eq_true.mpr ⟨en, List.mem_of_find?_eq_some he, List.find?_some he⟩]; rfl
    · split at hl
      · cases hl
      · rename_i z; rw [Bool.not_eq_true] at z; rw [z, Bool.and_false]
  rw [aRefKeyMayBeTheName_at, c]
  refine wpAny_updatePart hd ?_
  refine h _ ?_ fun b o hb he => (Heap.get?_update_ne _ _ _ _ hb).trans he
  have q := Heap.get?_update_self (Obj.putName name (PyData.keyHash w.params name) (.str name s.toks) v) hd (by rw [eo]; rfl)
  exact q.trans (congrArg some eo)

theorem store_dict {prog : Program} {w : World} {A : Around} {E : Value → Shared → Prop} {s : Shared} {d : Addr} {es es' : List DictEntry} {n n' : Nat} {name : Str} {v : Value} {tk : Tok} {Q : Fin → Shared → Prop}
    (hd : s.heap.get? d = some (dictOf es n)) (hl : (getL name es).isSome = true) (e : (putL name (PyData.keyHash w.params name) (.str name s.toks) v es, putN name es n) = (es', n')) (hz : es'.length ≤ 1000)
    (h : ∀ h', h'.get? d = some (dictOf es' n') → (∀ b o, b ≠ d → s.heap.get? b = some o → h'.get? b = some o) → Q (.done (.ret .none)) { s with heap := h', toks := s.toks + 1 }) :
    wpAny (model prog w) A (storeInDict d (.str name tk) name v) Q E s := by
  unfold storeInDict newKeyGuard
  refine wpAny_bind (wpAny_pure (wpAny_bind (nsSet_dict hd hl e fun h' ho hk => ?_)))
  refine wpAny_bind (wpAny_lookBehind ho (pastItsLine_dict (by rw [List.size_toArray, sizeLine_eq]; omega)) ?_)
  exact wpAny_pure (h h' ho hk)

theorem hold_store {M : Model} {A : Around} {E : Value → Shared → Prop} {s : Shared} {d : Addr} {a : Value} {b : Str} {c : Value} {Q : Fin → Shared → Prop} (h : Held (wpAny M A (storeInDict d a b c) Q E s)) : wpAny M A (storeInDict d a b c) Q E s := h

/-- a function's first own attribute -/
theorem fset0 {prog : Program} {w : World} {A : Around} {E : Value → Shared → Prop} {s : Shared} {f : Addr} {fd : FuncData} {sl : Array (Option Value)} {name : Str} {v : Value} {Q : Unit → Shared → Prop}
    (hf : s.heap.get? f = some ⟨.type "function", none, .func fd, sl⟩) (hn : typeLookup (.type "function") name = pure none)
    (h : ∀ h' tk t, h'.get? f = some ⟨.type "function", some s.heap.objs.size, .func fd, sl⟩ → h'.get? s.heap.objs.size = some (dictOf [⟨PyData.keyHash w.params name, .str name t, v⟩] 1) →
      (∀ b o, b ≠ f → s.heap.get? b = some o → h'.get? b = some o) → Q () { s with heap := h', toks := tk }) :
    wpAny (model prog w) A (setAttr (.ref f) name v) Q E s := by
  have hT : ∀ tk, Shared.TypeIs { s with toks := tk } (.ref f) "function" := fun tk => ⟨_, hf, rfl⟩
  refine wpAny_bind (wpAny_mkText (wpAny_bind ?_))
  unfold callSpecial?
  refine wpAny_bind (wpAny_specialOf (hT _) fx_set.lookup ?_)
  refine wpAny_holding ?_
  rw [fx_set.bind]
  refine wpAny_bind (wpAny_pure (wpAny_bind (wpAny_call ?_)))
  refine codeAny_call_builtin fx_set.plain fx_setE (fx_set.check _ _ _ _ _ _ _ _ (hT _) (fx_setA _ _ _) ?_)
  have hp := fx_passes (.ref f)
  unfold Builtin.«object.__setattr__»
  repeat (first | rw [refuse_eq] | rw [hp] | (with_reducible refine wpAny_of_eq fx_mro ?_) | (with_reducible refine wpAny_of_eq hn ?_) | (with_reducible refine hold_store ?_) | wp_step)
  have hlt := Heap.lt_size hf
  have hfp : (s.heap.push { cls := .type "dict", data := .dict #[] }).get? f = some ⟨.type "function", none, .func fd, sl⟩ := Heap.get?_push_of_some _ hf
  have hne : s.heap.objs.size ≠ f := Nat.ne_of_gt hlt
  refine held (store_dict (es := []) (n := 0) (es' := [⟨PyData.keyHash w.params name, .str name _, v⟩]) (n' := 1) ((Heap.get?_update_ne _ _ _ _ hne).trans (Heap.get?_push_size _ rfl)) rfl rfl (Nat.le_of_ble_eq_true rfl) fun h' ho hk => ?_)
  refine wpAny_pure (wpAny_pure (h h' _ _ (hk _ _ (Ne.symm hne) (Heap.get?_update_self _ hfp rfl)) ho fun b o hb e => ?_))
  refine hk b o (Nat.ne_of_lt (Heap.lt_size e)) ((Heap.get?_update_ne _ _ _ _ hb).trans (Heap.get?_push_of_some _ e))

/-- a function's further own attribute -/
theorem fset1 {prog : Program} {w : World} {A : Around} {E : Value → Shared → Prop} {s : Shared} {f d : Addr} {fd : FuncData} {sl : Array (Option Value)} {name : Str} {v : Value} {es es' : List DictEntry} {n n' : Nat} {Q : Unit → Shared → Prop}
    (hf : s.heap.get? f = some ⟨.type "function", some d, .func fd, sl⟩) (hn : typeLookup (.type "function") name = pure none) (hd : s.heap.get? d = some (dictOf es n)) (hl : (getL name es).isSome = true)
    (e : (putL name (PyData.keyHash w.params name) (.str name (s.toks + 1)) v es, putN name es n) = (es', n')) (hz : es'.length ≤ 1000)
    (h : ∀ h' tk, h'.get? d = some (dictOf es' n') → (∀ b o, b ≠ d → s.heap.get? b = some o → h'.get? b = some o) → Q () { s with heap := h', toks := tk }) :
    wpAny (model prog w) A (setAttr (.ref f) name v) Q E s := by
  have hT : ∀ tk, Shared.TypeIs { s with toks := tk } (.ref f) "function" := fun tk => ⟨_, hf, rfl⟩
  refine wpAny_bind (wpAny_mkText (wpAny_bind ?_))
  unfold callSpecial?
  refine wpAny_bind (wpAny_specialOf (hT _) fx_set.lookup ?_)
  refine wpAny_holding ?_
  rw [fx_set.bind]
  refine wpAny_bind (wpAny_pure (wpAny_bind (wpAny_call ?_)))
  refine codeAny_call_builtin fx_set.plain fx_setE (fx_set.check _ _ _ _ _ _ _ _ (hT _) (fx_setA _ _ _) ?_)
  have hp := fx_passes (.ref f)
  unfold Builtin.«object.__setattr__»
  repeat (first | rw [refuse_eq] | rw [hp] | (with_reducible refine wpAny_of_eq fx_mro ?_) | (with_reducible refine wpAny_of_eq hn ?_) | (with_reducible refine hold_store ?_) | wp_step)
  refine held (store_dict (es := es) (n := n) hd hl e hz fun h' ho hk => ?_)
  exact wpAny_pure (wpAny_pure (h h' _ ho hk))

theorem fx_get : Slot "function" "__getattribute__" "object.__getattribute__" :=
  .of (owner := "object") (n := "__getattribute__") (by rw [typeLookup_type, builtinLookup_eq_fast]; kernel_rfl) (by decide +kernel) (by decide +kernel) (by decide +kernel)
    (by first | exact .inl (by decide +kernel) | exact .inr (by decide +kernel)) (by rw [isSubtype_type]; kernel_rfl)
theorem fx_getE : entryFor table "object.__getattribute__" = some Builtin.«object.__getattribute__» := entryFor_of_tree (by kernel_rfl)
theorem fx_getA (a b : Value) : argsOk "object.__getattribute__" ⟨[a, b], []⟩ := by unfold argsOk; kernel_rfl

theorem nsGet_dict {M : Model} {A : Around} {E : Value → Shared → Prop} {s : Shared} {d : Addr} {es : List DictEntry} {n : Nat} {name : Str} {r : Option Value} {Q : Option Value → Shared → Prop}
    (hd : s.heap.get? d = some (dictOf es n)) (hl : getL name es = some r) (h : Q r s) : wpAny M A (nsGet d name) Q E s := by
  unfold nsGet
  refine wpAny_bind (wpAny_loadPart hd ?_)
  rw [nsLook_of (by rw [lookIn_dict]; exact hl)]
  exact wpAny_pure h
theorem hold_dict {M : Model} {A : Around} {E : Value → Shared → Prop} {s : Shared} {n : Str} {d : Option Addr} {Q : Option Value → Shared → Prop} (h : Held (wpAny M A (inDict n d) Q E s)) : wpAny M A (inDict n d) Q E s := h

/-- a function's own attribute, read -/
theorem fget {prog : Program} {w : World} {A : Around} {E : Value → Shared → Prop} {s : Shared} {f d : Addr} {fd : FuncData} {sl : Array (Option Value)} {name : Str} {v : Value} {es : List DictEntry} {n : Nat} {Q : Value → Shared → Prop} {ex : Bool}
    (hf : s.heap.get? f = some ⟨.type "function", some d, .func fd, sl⟩) (hn : typeLookup (.type "function") name = pure none) (hd : s.heap.get? d = some (dictOf es n)) (hl : getL name es = some (some v)) (hv : handedIn v = true)
    (h : ∀ tk, Q v { s with toks := tk }) : wpAny (model prog w) A (getAttr (.ref f) name ex) Q E s := by
  have hT : ∀ tk, Shared.TypeIs { s with toks := tk } (.ref f) "function" := fun tk => ⟨_, hf, rfl⟩
  unfold getAttr getAttrBy
  refine wpAny_bind (wpAny_mkText (wpAny_holding ?_))
  have g1 := fx_ga
  repeat (first | (with_reducible refine wpAny_of_eq hn ?_) | wp_step)
  rw [if_neg (by simp [onTheHeap])]
  unfold boundAndCalled
  rw [fx_get.bind]
  refine wpAny_bind (wpAny_pure (wpAny_call ?_))
  refine codeAny_call_builtin fx_get.plain fx_getE (fx_get.check _ _ _ _ _ _ _ _ (hT _) (fx_getA _ _) ?_)
  unfold Builtin.«object.__getattribute__»
  repeat (first | (with_reducible refine wpAny_of_eq hn ?_) | (with_reducible refine hold_dict ?_) | wp_step)
  refine held (nsGet_dict hd hl ?_)
  repeat wp_step
  show wpAny _ _ (handedOut v) _ _ _
  rw [handedOut_of hv]
  exact wpAny_pure (h _)

/-- a function's own attribute, to be called -/
theorem fmethod {prog : Program} {w : World} {A : Around} {E : Value → Shared → Prop} {s : Shared} {f d : Addr} {fd : FuncData} {sl : Array (Option Value)} {name : Str} {v : Value} {es : List DictEntry} {n : Nat} {Q : Value × List Value → Shared → Prop} {pl : Sem Bool}
    (hf : s.heap.get? f = some ⟨.type "function", some d, .func fd, sl⟩) (hn : typeLookup (.type "function") name = pure none) (hd : s.heap.get? d = some (dictOf es n)) (hl : getL name es = some (some v)) (hv : handedIn v = true)
    (h : ∀ tk, Q (v, []) { s with toks := tk }) : wpAny (model prog w) A (getMethod (.ref f) name pl) Q E s := by
  have hT : ∀ tk, Shared.TypeIs { s with toks := tk } (.ref f) "function" := fun tk => ⟨_, hf, rfl⟩
  unfold getMethod
  refine wpAny_bind (wpAny_specialOf (hT _) fx_ga ?_)
  show wpAny _ _ (if (Manifest.canonical "object.__getattribute__" != "object.__getattribute__") = true then _ else _) _ _ _
  rw [if_neg (by decide +kernel)]
  refine wpAny_bind (wpAny_specialOf (hT _) fx_hook ?_)
  refine wpAny_bind (wpAny_specialOf (hT _) hn ?_)
  exact wpAny_bind (fget hf hn hd hl hv fun tk => wpAny_pure (h tk))

theorem fset0_N {prog : Program} {w : World} {A : Around} {E : Value → Shared → Prop} {s : Shared} {h₀ : Heap} {L f : Addr} {m : Str → Option Value} {news : List (Addr × Obj)} {gg : Obj → List (Addr × Obj)} {fd : FuncData} {sl : Array (Option Value)} {name : Str} {v : Value} {Q : Unit → Shared → Prop}
    (F : Fr h₀ L s.heap m) (N : News h₀ L s.heap news) (U : UpdF f ⟨.type "function", none, .func fd, sl⟩ news gg) (hn : typeLookup (.type "function") name = pure none)
    (h : ∀ D h' tk t, Fr h₀ L h' m → News h₀ L h' ((D, dictOf [⟨PyData.keyHash w.params name, .str name t, v⟩] 1) :: gg ⟨.type "function", some D, .func fd, sl⟩) → (∀ q ∈ news, q.1 < D) → Q () { s with heap := h', toks := tk }) :
    wpAny (model prog w) A (setAttr (.ref f) name v) Q E s := by
  obtain ⟨own, rest, rfl, hg, h1, h2⟩ := U.split
  have hm := N (f, ⟨.type "function", none, .func fd, sl⟩) (List.mem_append_right _ (.head _))
  have hD : ∀ q ∈ own ++ (f, (⟨.type "function", none, .func fd, sl⟩ : Obj)) :: rest, q.1 < s.heap.objs.size := fun q hq => Heap.lt_size (N q hq).1
  refine fset0 hm.1 hn fun h' tk t hf' hd' hk' => h s.heap.objs.size h' tk t (fr_but F hm.2.2 hm.2.1 hk') (news_cons hd' (Nat.ne_of_gt F.ns.lt) ?_ ?_) hD
  · cases hq : h₀.get? s.heap.objs.size with
    | none => rfl
    | some o' => exact absurd (Heap.lt_size (F.keep _ _ hq)) (Nat.lt_irrefl _)
  · rw [hg]
    intro q hq
    rcases List.mem_append.mp hq with q1 | q1
    · exact ⟨hk' _ _ (h1 q q1) (N q (List.mem_append_left _ q1)).1, (N q (List.mem_append_left _ q1)).2⟩
    · rcases List.mem_cons.mp q1 with rfl | q1
      · exact ⟨hf', hm.2⟩
      · exact ⟨hk' _ _ (h2 q q1) (N q (List.mem_append_right _ (.tail _ q1))).1, (N q (List.mem_append_right _ (.tail _ q1))).2⟩

theorem fset1_N {prog : Program} {w : World} {A : Around} {E : Value → Shared → Prop} {s : Shared} {h₀ : Heap} {L f d : Addr} {m : Str → Option Value} {news news' : List (Addr × Obj)} {fd : FuncData} {sl : Array (Option Value)} {name : Str} {v : Value} {es es' : List DictEntry} {n n' : Nat} {Q : Unit → Shared → Prop}
    (F : Fr h₀ L s.heap m) (N : News h₀ L s.heap news) (hf : (f, (⟨.type "function", some d, .func fd, sl⟩ : Obj)) ∈ news) (_hd : (d, dictOf es n) ∈ news) (hn : typeLookup (.type "function") name = pure none) (hl : (getL name es).isSome = true)
    (e : (putL name (PyData.keyHash w.params name) (.str name (s.toks + 1)) v es, putN name es n) = (es', n')) (U : Upd d (dictOf es n) (dictOf es' n') news news') (hz : es'.length ≤ 1000)
    (h : ∀ h' tk, Fr h₀ L h' m → News h₀ L h' news' → Q () { s with heap := h', toks := tk }) :
    wpAny (model prog w) A (setAttr (.ref f) name v) Q E s := by
  obtain ⟨pre, post, rfl, rfl, a, b⟩ := U.split
  have hm := N (d, dictOf es n) (List.mem_append_right _ (.head _))
  refine fset1 (N _ hf).1 hn hm.1 hl e hz fun h' tk hd' hk' => h h' tk (fr_but F hm.2.2 hm.2.1 hk') ?_
  intro q hq
  rcases List.mem_append.mp hq with q1 | q1
  · exact ⟨hk' _ _ (a q q1) (N q (List.mem_append_left _ q1)).1, (N q (List.mem_append_left _ q1)).2⟩
  · rcases List.mem_cons.mp q1 with rfl | q1
    · exact ⟨hd', hm.2⟩
    · exact ⟨hk' _ _ (b q q1) (N q (List.mem_append_right _ (.tail _ q1))).1, (N q (List.mem_append_right _ (.tail _ q1))).2⟩
end fattr

end Mine
namespace Mine
theorem offP09 : True ∧ True := by
  have h : True ∧ True := by first | (walk1; done) | exact ⟨trivial, trivial⟩
  w_top off
  exact h
/-- the part of the state that no call changes: the text's own objects and the top -/
def Amb (w : World) (h : Heap) : Prop := (hd.heap_39 w.params).In h ∧ ∃ p loose mean mg mb, Top p loose mean mg mb h
theorem Amb.keep {w : World} {h h' : Heap} (X : Amb w h) (hk : ∀ b o, h.get? b = some o → h'.get? b = some o) : Amb w h' :=
  let ⟨a, p, l, m, mg, mb, T⟩ := X; ⟨a.keeps hk, p, l, m, mg, mb, T.keeps hk⟩

def lamQual : Str := Str.ofString "_law_rule" ++ ".<locals>." ++ Str.ofString "<lambda>"
def lamParams : Arguments := { posonlyargs := [], args := [{ arg := Str.ofString "name", annotation := none, pos := ⟨113, 29, 113, 33⟩ }], vararg := none, kwonlyargs := [], kw_defaults := [], kwarg := none, defaults := [] }
def lamBody : Expr :=
  ((((Expr.Name (Str.ofString "name") ⟨113, 48, 113, 52⟩).Subscript
      (Expr.Slice none (some ((Expr.Name (Str.ofString "len") ⟨113, 54, 113, 57⟩).Call [Expr.Name (Str.ofString "path") ⟨113, 58, 113, 62⟩] [] ⟨113, 54, 113, 63⟩)) none ⟨113, 53, 113, 63⟩)
      ⟨113, 48, 113, 64⟩).Compare [CmpOp.Eq] [Expr.Name (Str.ofString "path") ⟨113, 68, 113, 72⟩] ⟨113, 48, 113, 72⟩).IfExp
    ((Expr.Name (Str.ofString "mark") ⟨113, 35, 113, 39⟩).BinOp Operator.FloorDiv (Expr.Constant (Const.int 2) 0 ⟨113, 43, 113, 44⟩) ⟨113, 35, 113, 44⟩)
    (Expr.Constant (Const.int 0) 0 ⟨113, 78, 113, 79⟩) ⟨113, 35, 113, 79⟩)
def lamScope : Scope := { kind := ScopeKind.function, names := [(Str.ofString "name", NameKind.local), (Str.ofString "mark", NameKind.free), (Str.ofString "path", NameKind.free), (Str.ofString "len", NameKind.globalImplicit)], isGenerator := false, isCoroutine := false }

structure LamAt (h : Heap) (f : Addr) (path : Str) (mark : Int) : Prop where
  at_ : ∃ pm c' ctv cp cm op om tp tm, h.get? f = some (kla_obj "<lambda>" lamQual lamParams lamBody lamScope [(Str.ofString "path", cp), (Str.ofString "mark", cm)] pm c' ctv) ∧ h.CodeRec (.ref c') lamQual ∧
    h.get? cp = some op ∧ op.data = .cell (some (.str path tp)) ∧ h.get? cm = some om ∧ om.data = .cell (some (.int mark tm))

/-- a lambda is entered: the base is all that stands -/
theorem enter_lam {prog : Program} {w : World} {A : Around} {s : Shared} {R : Result → Shared → Prop} {name qual : Str} {params : Arguments} {body : Expr} {scope : Scope} {cl : List (Str × Addr)} {pm ctv : Value} {c' : Addr} {f : Addr} {args : Args} {binds : List (Str × Value)}
    (hlim : s.heap.NoLimit) (ho : s.heap.get? f = some (kla_obj name qual params body scope cl pm c' ctv)) (hcd : s.heap.CodeRec (.ref c') qual) (hroom : A.depth < recursionLimit)
    (hbind : bindArgs (kla_fn name qual params body scope cl pm (.ref c') ctv) args = pure binds) (hloc : ∀ y ∈ binds, scope.names.lookup y.1 = some .local)
    (h : ∀ L' h₁, Fr s.heap L' h₁ (fun y => binds.reverse.lookup y) → News s.heap L' h₁ [] →
      wpAny (model prog w) (A.deeper (envX qual scope L' f (.ref c') cl)) (eval body (envX qual scope L' f (.ref c') cl))
        (fun v s' => R (.ok (.ret v)) s') (fun _ _ => False) { s with heap := h₁, toks := s.toks + binds.length })
    (hco : scope.isCoroutine = false) (hgen : scope.isGenerator = false) (hk : scope.kind = .function)
    (hcell : ∀ x ∈ scope.names, x.2 ≠ .cell) : codeAny (model prog w) A (.call (.ref f) args) R s := by
  refine kla_callFunE hroom ho rfl hco hgen rfl hcd ?_
  rw [hbind]
  refine wpAny_pure (wpAny_newFunctionEnv hcell hloc (fun h₁ hns hsb => ⟨hlim.fresh _ hsb, ?_⟩) hk)
  show codeAny _ _ (.expr body (envX qual scope s.heap.objs.size f (.ref c') cl)) _ _
  have hk₁ : ∀ b o, s.heap.get? b = some o → h₁.get? b = some o := fun b o e => hsb.extBut b o (Nat.ne_of_lt (Heap.lt_size e)) (Heap.get?_push_of_some _ e)
  exact kla_codeExpr (wpAny_mono (h s.heap.objs.size h₁ ⟨hns, hk₁, Nat.le_refl _⟩ News.nil) (fun _ _ x => x) fun _ _ x => x.elim)

def hits (nm path : Str) : Bool := Txt.slice nm none (some (path.length : Int)) == path
/-- how far the rule reaches at a name -/
def app (path : Str) (mark : Int) (nm : Str) : Int := if hits nm path then mark.fdiv 2 else 0
section
theorem nameX_Fb {M : Model} {A : Around} {E : Value → Shared → Prop} {s : Shared} {h₀ : Heap} {L a : Addr} {m : Str → Option Value} {cn : Str} {cs : Scope} {ccd : Value} {cl : List (Str × Addr)} {x : Str} {pos : Pos} {v : Value} {Q : Value → Shared → Prop} {c : Addr} {o : Obj}
    (F : Fr h₀ L s.heap m) (hc : cl.lookup x = some c) (hm : h₀.get? c = some o) (hd : o.data = .cell (some v)) (h : Q v s)
    (hk : cs.kind = .function := by rfl) (hx : (envX cn cs L a ccd cl).kindOf x = some .free := by rfl) (hb : (x == ("__debug__" : Str)) = false := by decide) (hn : (x == ("__classdict__" : Str)) = false := by decide) :
    wpAny M A (eval (.Name x pos) (envX cn cs L a ccd cl)) Q E s := wpAny_Name (wpAny_loadName_free hk hx hc ⟨o, F.keep _ _ hm, hd⟩ h hn) hb
local macro_rules | `(tactic| walk_at "eval Name") => `(tactic| (k_dflt (refine' nameX_Fb ?F ?c ?o ?d ?_ ?a ?b; (case a => rfl); (case b => rfl); (case F => k_asm); (case c => rfl); (case o => assumption); (case d => assumption); k_whole)))

theorem lam_call : ∀ {w : World} {A : Around} {s : Shared} {f : Addr} {path nm : Str} {mark : Int} {tn : Tok} {Q : Value → Shared → Prop}
   (X : Amb w s.heap) (hl : LamAt s.heap f path mark) (hh : A.handled = none) (hd : A.depth < 890) (hz : path.length < 2 ^ 20) (hz2 : nm.length < 2 ^ 20)
   (hQ : ∀ h' tk t, (∀ b o, s.heap.get? b = some o → h'.get? b = some o) → Q (.int (app path mark nm) t) { s with heap := h', toks := tk }),
   wpAny (model PySem.Challenge.rw_ny0178_01.row.prog w) A (call (.ref f) [.str nm tn]) Q (fun _ _ => False) s := by
  unfold Amb
  k_fill
  intro w A s f path nm mark tn Q X hl hh hd hz hz2 hQ
  obtain ⟨X, p, loose, mean, mg, mb, T⟩ := X
  obtain ⟨pm, c', ctv, cp, cm, op, om, tp, tm, ho, hcd, hp, hpd, hm, hmd⟩ := hl.at_
  refine wpAny_call ?_
  refine enter_lam (binds := [("name", .str nm tn)]) T.nolimit ho hcd (by simp only [recursionLimit]; omega) rfl (locs rfl) ?_ rfl rfl rfl (by decide)
  intro L' h' F' N'
  unfold lamBody lamScope
  with_reducible change wpAny _ _ _ _ _ _
  k_fold
  k_steps
  · rename (_ = true) => hit
    rename Fr _ _ _ _ => F2
    have e : app path mark nm = mark.fdiv 2 := by unfold app hits; rw [hit]; rfl
    rw [e] at hQ
    exact hQ _ _ _ F2.keep
  · rename (_ = false) => hit
    rename Fr _ _ _ _ => F2
    have e : app path mark nm = 0 := by unfold app hits; rw [hit]; rfl
    rw [e] at hQ
    exact hQ _ _ _ F2.keep
end

end Mine
namespace Mine
theorem offP10 : True ∧ True := by
  have h : True ∧ True := by first | (walk1; done) | exact ⟨trivial, trivial⟩
  w_top off
  exact h
/-- a def whose parameters are captured is entered: its cells stand ahead of led in the ledger -/
theorem enter_ledC {prog : Program} {w : World} {A : Around} {s : Shared} {K : Frag} {R : Result → Shared → Prop} {name qual : Str} {params : Arguments} {body : List Stmt} {scope : Scope} {dV kV doc pm cdv ct oc : Value} {an od : Option Addr} {osl : Array (Option Value)} {f : Addr} {args : Args} {binds : List (Str × Value)}
    {p : Program} {loose : List Str} {mean : ExcName → Option Value} {mg mb : Str → Option Value} {g : Heap} (led : List (Addr × Obj))
    (X : K.In g) (T : Top p loose mean mg mb g) (hg : ∀ b o, g.get? b = some o → s.heap.get? b = some o) (hled : ∀ q ∈ led, s.heap.get? q.1 = some q.2 ∧ g.get? q.1 = none)
    (ho : K.lookup f = some ⟨oc, od, .func (fnOf name qual params body scope dV kV doc pm an cdv ct), osl⟩) (hcd : codeIn K cdv qual = true) (hroom : A.depth < recursionLimit)
    (hbind : BindsTo s (fnOf name qual params body scope dV kV doc pm an cdv ct) args binds) (hkind : (binds.all fun y => scope.names.lookup y.1 == some .local || scope.names.lookup y.1 == some .cell) = true)
    (hnd : ((cellsFrom 0 scope.names []).map (·.1)).Nodup)
    (h : ∀ h₀ L' h₁ tk cells, h₀ = hideAll s.heap (led.map (·.1)) → K.In h₀ → Top p loose mean mg mb h₀ → (∀ b o, g.get? b = some o → h₀.get? b = some o) →
      Fr h₀ L' h₁ (bindL (envOfC qual scope L' f cdv).kindOf binds fun _ => none) → News h₀ L' h₁ (cells ++ led) →
      CellsAre (bindC (envOfC qual scope L' f cdv).kindOf binds fun _ => none) (cellsFrom (L' + 1) scope.names []) cells → (∀ q ∈ led, q.1 < L') →
      wpAny (model prog w) (A.deeper (envOfC qual scope L' f cdv)) (execs body (envOfC qual scope L' f cdv))
        (fun fl s' => R (.ok (.ret (match fl with | .ret v => v | _ => .none))) s')
        (fun _ _ => False)
        { s with heap := h₁, toks := tk })
    (hco : scope.isCoroutine = false) (hgen : scope.isGenerator = false) (hk : scope.kind = .function) : codeAny (model prog w) A (.call (.ref f) args) R s := by
  have X' := X.keeps hg
  have hn : ∀ a ∈ led.map (·.1), g.get? a = none := fun a ha => by
    obtain ⟨q, hq, rfl⟩ := List.mem_map.mp ha
    exact (hled q hq).2
  have hsub := hideAll_sub hg hn
  refine codeAny_call_function hroom (X' _ _ ho) rfl hco hgen rfl (codeRec_of X' hcd) (hbind _ _ _ _ ?_)
  refine wpAny_newFunctionEnv_cells hk (kindsX hkind _) fun env' he s' x => ?_
  subst he
  refine ⟨(T.keeps hg).nolimit.keeps x.toInCall.keep, codeAny_func ?_⟩
  obtain ⟨h₁, tk, rfl, _⟩ := x.done
  have hk₁ := x.toInCall.keep
  obtain ⟨cells, NC, Y⟩ := Cl.news (h₀ := s.heap) (Nat.le_refl _) fun n c hm => ⟨x.cell n c (lookup_of_mem_nodup (cellsFrom_names scope.names 0 (s.heap.objs.size + 1) [] [] rfl ▸ hnd) hm), x.above n c hm⟩
  refine wpAny_mono (h _ s.heap.objs.size h₁ tk cells rfl (X.keeps hsub) (T.keeps hsub) hsub ⟨x.toInCall.ns, fun b o e => hk₁ b o (of_hideAll _ e), Nat.le_of_eq (hideAll_size _ _)⟩ (fun q hq => ?_) Y (fun q hq => Heap.lt_size (hled q hq).1)) (fun _ _ x => x) (fun _ _ x => x.elim)
  rcases List.mem_append.mp hq with hq | hq
  · refine ⟨(NC q hq).1, (NC q hq).2.1, ?_⟩
    cases e : (hideAll s.heap (led.map (·.1))).get? q.1 with
    | none => rfl
    | some o => have := of_hideAll _ e; rw [(NC q hq).2.2] at this; cases this
  · exact ⟨hk₁ _ _ (hled q hq).1, Nat.ne_of_lt (Heap.lt_size (hled q hq).1), hideAll_none _ (List.mem_map_of_mem hq)⟩

/-- the view g, grown by what is new since the heap was hs -/
def grow (g hs h : Heap) : Heap := hideAll h ((List.range hs.objs.size).filter fun b => (g.get? b).isNone && (hs.get? b).isSome)
theorem grow_sub {g hs h : Heap} (b : Addr) (o : Obj) (e : (grow g hs h).get? b = some o) : h.get? b = some o := of_hideAll _ e
theorem grow_new {g hs h : Heap} {b : Addr} {o : Obj} (hb : hs.get? b = none) (e : h.get? b = some o) : (grow g hs h).get? b = some o :=
  hideAll_get _ e fun hm => by have := (List.mem_filter.mp hm).2; rw [hb] at this; simp at this
theorem grow_old {g hs h : Heap} (hg : ∀ b o, g.get? b = some o → h.get? b = some o) (b : Addr) (o : Obj) (e : g.get? b = some o) : (grow g hs h).get? b = some o :=
  hideAll_get _ (hg b o e) fun hm => by have := (List.mem_filter.mp hm).2; rw [e] at this; simp at this
theorem grow_none {g hs h : Heap} {b : Addr} {o : Obj} (hb : hs.get? b = some o) (e : g.get? b = none) : (grow g hs h).get? b = none :=
  hideAll_none _ (List.mem_filter.mpr ⟨List.mem_range.mpr (Heap.lt_size hb), by rw [e, hb]; rfl⟩)
theorem fresh_of {h₀ h : Heap} {as : List Addr} {b : Addr} (eh : h₀ = hideAll h as) (e : h₀.get? b = none) (hb : b ∉ as) : h.get? b = none := by
  cases q : h.get? b with
  | none => rfl
  | some o => rw [eh, hideAll_get _ q hb] at e; cases e

theorem codeRec_keep {h h' : Heap} {v : Value} {q : Str} (X : h.CodeRec v q) (hk : ∀ b o, h.get? b = some o → h'.get? b = some o) : h'.CodeRec v q :=
  let ⟨c, oc, vs, t, a, b, d⟩ := X; ⟨c, oc, vs, t, a, hk _ _ b, d⟩
theorem LamAt.keep {h h' : Heap} {f : Addr} {path : Str} {mark : Int} (X : LamAt h f path mark) (hk : ∀ b o, h.get? b = some o → h'.get? b = some o) : LamAt h' f path mark :=
  let ⟨pm, c', ctv, cp, cm, op, om, tp, tm, a, b, c, d, e, f⟩ := X.at_; ⟨pm, c', ctv, cp, cm, op, om, tp, tm, hk _ _ a, codeRec_keep b hk, hk _ _ c, d, hk _ _ e, f⟩
structure RuleAt (h : Heap) (r : Addr) (path : Str) (mark : Int) : Prop where
  at_ : ∃ d f fd sl es n, h.get? r = some ⟨.type "function", some d, .func fd, sl⟩ ∧ h.get? d = some (dictOf es n) ∧ getL (Str.ofString "applies_to") es = some (some (.ref f)) ∧ getL (Str.ofString "allowance") es = some (some (.bool (mark.fmod 2 == 1))) ∧ LamAt h f path mark
theorem RuleAt.keep {h h' : Heap} {r : Addr} {path : Str} {mark : Int} (X : RuleAt h r path mark) (hk : ∀ b o, h.get? b = some o → h'.get? b = some o) : RuleAt h' r path mark :=
  let ⟨d, f, fd, sl, es, n, a, b, c, e, l⟩ := X.at_; ⟨d, f, fd, sl, es, n, hk _ _ a, hk _ _ b, c, e, l.keep hk⟩

abbrev tab101 (c1 c2 : Addr) : Obj := tabObj #[rawInt 112, rawInt 11, .ref c1, rawInt 113, rawInt 22, .ref c2]

section
local macro_rules | `(tactic| walk_at "setAttr ref") => `(tactic| refine Held.out ?_)
theorem rule0 : ∀ {w : World} {A : Around} {s : Shared} {g : Heap} {path : Str} {mark : Int} {tp tm : Tok} {Q : Value → Shared → Prop}
   (X : Amb w g) (C : CodeHd g 105 101) (hg : ∀ b o, g.get? b = some o → s.heap.get? b = some o) (hl : s.heap.get? 101 = some (tabObj #[])) (hgl : g.get? 101 = none) (hd : A.depth < 890)
   (hQ : ∀ h' tk r c1 c2, (∀ b o, b ≠ 101 → s.heap.get? b = some o → h'.get? b = some o) → h'.get? 101 = some (tab101 c1 c2) → (grow g s.heap h').CodeRec (.ref c2) lamQual → RuleAt (grow g s.heap h') r path mark → Q (.ref r) { s with heap := h', toks := tk }),
   wpAny (model PySem.Challenge.rw_ny0178_01.row.prog w) A (call (.ref 106) [.str path tp, .int mark tm]) Q (fun _ _ => False) s := by
  unfold Amb
  k_fill
  intro w A s g path mark tp tm Q X C hg hl hgl hd hQ
  obtain ⟨X, p, loose, mean, mg, mb, T⟩ := X
  refine wpAny_call ?_
  k_dflt (refine' enter_ledC (binds := [("path", .str path tp), ("mark", .int mark tm)]) [(101, tabObj #[])] X T hg (List.forall_mem_cons.mpr ⟨⟨hl, hgl⟩, List.forall_mem_nil _⟩) ?k6 ?k7 ?k8 ?k9 ?kB ?kD ?_ ?c2 ?c3 ?c4; (case k6 => k_is); (case k7 => k_is); (case k8 => simp only [recursionLimit]; omega); (case k9 => (refine' kp_binds ?kx ?ke; (case kx => exact X.keeps hg); (case ke => exact fun _ => rfl))); (case kB => exact rfl); (case kD => decide +kernel); (case c2 => exact rfl); (case c3 => exact rfl); (case c4 => exact rfl))
  intro h₀ L' h' tk cells eh X' T' hg' F' N' Y' hlt
  k_lt hlt
  obtain ⟨o1, o2, hE, dc1, dc2⟩ := CellsAre.two Y'
  subst hE
  simp only [List.cons_append, List.nil_append] at N'
  have C' := C.keeps hg'
  with_reducible change wpAny _ _ _ _ _ _
  k_fold
  k_steps
  refine held ?_
  k_dflt (refine' fset0_N ?F ?N ?U fx_applies ?_; (case F => k_asm); (case N => k_asm); (case U => k_updF))
  intro D5 h5 tk5 t5 F5 N5 l5
  k_lt l5
  (try dsimp only at N5)
  k_steps
  refine held ?_
  k_dflt (refine' fset1_N ?F ?N ?f ?d fx_allow ?hl ?e ?U ?z ?_; (case F => k_asm); (case N => k_asm); (case f => k_mem); (case d => k_mem); (case e => k_put); (case U => k_upd); (case hl => rfl); (case z => exact Nat.le_of_ble_eq_true rfl))
  intro h6 tk6 F6 N6
  (try dsimp only at N6)
  k_steps
  have hn : s.heap.objs.size ≤ L' := by
    have := F6.above
    rw [eh, hideAll_size] at this
    exact this
  have old : ∀ b o, b ≠ 101 → s.heap.get? b = some o → h6.get? b = some o := fun b o hb e => F6.keep b o (by rw [eh]; exact hideAll_get _ e fun hm => hb (List.mem_singleton.mp hm))
  have hg6 : ∀ b o, g.get? b = some o → h6.get? b = some o := fun b o e => F6.keep b o (hg' b o e)
  have m0 := N6 _ (by k_dflt (exact .head _))
  have m1 := N6 _ (by k_dflt (exact .tail _ (.head _)))
  have m2 := N6 _ (by k_dflt (exact .tail _ (.tail _ (.head _))))
  have m3 := N6 _ (by k_dflt (exact .tail _ (.tail _ (.tail _ (.head _)))))
  have m5 := N6 _ (by k_dflt (exact .tail _ (.tail _ (.tail _ (.tail _ (.tail _ (.head _)))))))
  have m6 := N6 _ (by k_dflt (exact .tail _ (.tail _ (.tail _ (.tail _ (.tail _ (.tail _ (.head _))))))))
  have m7 := N6 _ (by k_dflt (exact .tail _ (.tail _ (.tail _ (.tail _ (.tail _ (.tail _ (.tail _ (.head _)))))))))
  have fr : ∀ {b}, h₀.get? b = none → b ≠ 101 → s.heap.get? b = none := fun e hb => fresh_of eh e fun hm => hb (List.mem_singleton.mp hm)
  have cr : (grow g s.heap h6).CodeRec (.ref _) lamQual := ⟨_, _, _, _, rfl, grow_new (fr m2.2.2 (neN (by (try dsimp only); omega))) m2.1, by assumption, by assumption⟩
  exact hQ h6 _ _ _ _ old m7.1 cr ⟨⟨_, _, _, _, _, _, grow_new (fr m3.2.2 (neN (by (try dsimp only); omega))) m3.1, grow_new (fr m0.2.2 (neN (by (try dsimp only); omega))) m0.1, rfl, rfl,
    ⟨⟨_, _, _, _, _, _, _, _, _, grow_new (fr m1.2.2 (neN (by (try dsimp only); omega))) m1.1, cr, grow_new (fr m6.2.2 (neN (by (try dsimp only); omega))) m6.1, by assumption, grow_new (fr m5.2.2 (neN (by (try dsimp only); omega))) m5.1, by assumption⟩⟩⟩⟩

theorem rule1 : ∀ {w : World} {A : Around} {s : Shared} {g : Heap} {path : Str} {mark : Int} {tp tm : Tok} {c1 c2 : Addr} {Q : Value → Shared → Prop}
   (X : Amb w g) (C : CodeHd g 105 101) (hg : ∀ b o, g.get? b = some o → s.heap.get? b = some o) (hl : s.heap.get? 101 = some (tab101 c1 c2)) (hcr : g.CodeRec (.ref c2) lamQual) (hgl : g.get? 101 = none) (hd : A.depth < 890)
   (hQ : ∀ h' tk r, (∀ b o, s.heap.get? b = some o → h'.get? b = some o) → RuleAt (grow g s.heap h') r path mark → Q (.ref r) { s with heap := h', toks := tk }),
   wpAny (model PySem.Challenge.rw_ny0178_01.row.prog w) A (call (.ref 106) [.str path tp, .int mark tm]) Q (fun _ _ => False) s := by
  unfold Amb
  k_fill
  intro w A s g path mark tp tm c1 c2 Q X C hg hl hcr hgl hd hQ
  obtain ⟨X, p, loose, mean, mg, mb, T⟩ := X
  refine wpAny_call ?_
  k_dflt (refine' enter_ledC (binds := [("path", .str path tp), ("mark", .int mark tm)]) [(101, tab101 c1 c2)] X T hg (List.forall_mem_cons.mpr ⟨⟨hl, hgl⟩, List.forall_mem_nil _⟩) ?k6 ?k7 ?k8 ?k9 ?kB ?kD ?_ ?c2 ?c3 ?c4; (case k6 => k_is); (case k7 => k_is); (case k8 => simp only [recursionLimit]; omega); (case k9 => (refine' kp_binds ?kx ?ke; (case kx => exact X.keeps hg); (case ke => exact fun _ => rfl))); (case kB => exact rfl); (case kD => decide +kernel); (case c2 => exact rfl); (case c3 => exact rfl); (case c4 => exact rfl))
  intro h₀ L' h' tk cells eh X' T' hg' F' N' Y' hlt
  k_lt hlt
  obtain ⟨o1, o2, hE, dc1, dc2⟩ := CellsAre.two Y'
  subst hE
  simp only [List.cons_append, List.nil_append] at N'
  have C' := C.keeps hg'
  with_reducible change wpAny _ _ _ _ _ _
  k_fold
  k_steps
  refine held ?_
  k_dflt (refine' fset0_N ?F ?N ?U fx_applies ?_; (case F => k_asm); (case N => k_asm); (case U => k_updF))
  intro D5 h5 tk5 t5 F5 N5 l5
  k_lt l5
  (try dsimp only at N5)
  k_steps
  refine held ?_
  k_dflt (refine' fset1_N ?F ?N ?f ?d fx_allow ?hl ?e ?U ?z ?_; (case F => k_asm); (case N => k_asm); (case f => k_mem); (case d => k_mem); (case e => k_put); (case U => k_upd); (case hl => rfl); (case z => exact Nat.le_of_ble_eq_true rfl))
  intro h6 tk6 F6 N6
  (try dsimp only at N6)
  k_steps
  have hn : s.heap.objs.size ≤ L' := by
    have := F6.above
    rw [eh, hideAll_size] at this
    exact this
  have old : ∀ b o, b ≠ 101 → s.heap.get? b = some o → h6.get? b = some o := fun b o hb e => F6.keep b o (by rw [eh]; exact hideAll_get _ e fun hm => hb (List.mem_singleton.mp hm))
  have hg6 : ∀ b o, g.get? b = some o → h6.get? b = some o := fun b o e => F6.keep b o (hg' b o e)
  have m0 := N6 _ (by k_dflt (exact .head _))
  have m1 := N6 _ (by k_dflt (exact .tail _ (.head _)))
  have m3 := N6 _ (by k_dflt (exact .tail _ (.tail _ (.head _))))
  have m5 := N6 _ (by k_dflt (exact .tail _ (.tail _ (.tail _ (.head _)))))
  have m6 := N6 _ (by k_dflt (exact .tail _ (.tail _ (.tail _ (.tail _ (.head _))))))
  have m7 := N6 _ (by k_dflt (exact .tail _ (.tail _ (.tail _ (.tail _ (.tail _ (.head _)))))))
  have fr : ∀ {b}, h₀.get? b = none → b ≠ 101 → s.heap.get? b = none := fun e hb => fresh_of eh e fun hm => hb (List.mem_singleton.mp hm)
  have old' : ∀ b o, s.heap.get? b = some o → h6.get? b = some o := fun b o e => by
    by_cases hb : b = 101
    · subst hb
      rw [hl] at e; cases e
      exact m7.1
    · exact old b o hb e
  exact hQ h6 _ _ old' ⟨⟨_, _, _, _, _, _, grow_new (fr m3.2.2 (neN (by (try dsimp only); omega))) m3.1, grow_new (fr m0.2.2 (neN (by (try dsimp only); omega))) m0.1, rfl, rfl,
    ⟨⟨_, _, _, _, _, _, _, _, _, grow_new (fr m1.2.2 (neN (by (try dsimp only); omega))) m1.1, codeRec_keep hcr (grow_old hg6), grow_new (fr m6.2.2 (neN (by (try dsimp only); omega))) m6.1, by assumption, grow_new (fr m5.2.2 (neN (by (try dsimp only); omega))) m5.1, by assumption⟩⟩⟩⟩
end

theorem tab_ne (c1 c2 : Addr) : tab101 c1 c2 ≠ tabObj #[] := fun h => by
  have : (#[rawInt 112, rawInt 11, .ref c1, rawInt 113, rawInt 22, .ref c2] : Array Value) = #[] := by injection h with _ _ h _; injection h
  exact absurd (congrArg Array.size this) (by simp)
theorem rule_c {w : World} {A : Around} {s : Shared} {g : Heap} {path : Str} {mark : Int} {tp tm : Tok} {o1 : Obj} {Q : Value → Shared → Prop}
   (X : Amb w g) (C : CodeHd g 105 101) (hg : ∀ b o, g.get? b = some o → s.heap.get? b = some o) (hl : s.heap.get? 101 = some o1) (ht1 : o1 = tabObj #[] ∨ ∃ c1 c2, o1 = tab101 c1 c2 ∧ g.CodeRec (.ref c2) lamQual) (hgl : g.get? 101 = none) (hd : A.depth < 890)
   (hQ : ∀ h' tk r c1 c2, (∀ b o, b ≠ 101 → s.heap.get? b = some o → h'.get? b = some o) → h'.get? 101 = some (tab101 c1 c2) → (o1 ≠ tabObj #[] → tab101 c1 c2 = o1) → (grow g s.heap h').CodeRec (.ref c2) lamQual → RuleAt (grow g s.heap h') r path mark → Q (.ref r) { s with heap := h', toks := tk }) :
   wpAny (model PySem.Challenge.rw_ny0178_01.row.prog w) A (call (.ref 106) [.str path tp, .int mark tm]) Q (fun _ _ => False) s := by
  rcases ht1 with rfl | ⟨c1, c2, rfl, hcr⟩
  · exact rule0 X C hg hl hgl hd fun h' tk r c1 c2 hk h101 hc hr => hQ h' tk r c1 c2 hk h101 (fun q => absurd rfl q) hc hr
  · refine rule1 X C hg hl hcr hgl hd fun h' tk r hk hr => hQ h' tk r c1 c2 (fun b o _ e => hk b o e) (hk _ _ hl) (fun _ => rfl) (codeRec_keep hcr (grow_old fun b o e => hk b o (hg b o e))) hr

end Mine
namespace Mine
theorem offP11 : True ∧ True := by
  have h : True ∧ True := by first | (walk1; done) | exact ⟨trivial, trivial⟩
  w_top off
  exact h
abbrev entE (w : World) (t1 t2 t3 t4 : Tok) (a b c d : Value) : List DictEntry :=
  [⟨PyData.keyHash w.params (Str.ofString "useragents"), .str (Str.ofString "useragents") t1, a⟩, ⟨PyData.keyHash w.params (Str.ofString "rulelines"), .str (Str.ofString "rulelines") t2, b⟩,
   ⟨PyData.keyHash w.params (Str.ofString "delay"), .str (Str.ofString "delay") t3, c⟩, ⟨PyData.keyHash w.params (Str.ofString "req_rate"), .str (Str.ofString "req_rate") t4, d⟩]

theorem init_c : ∀ {w : World} {A : Around} {s : Shared} {g : Heap} {x dx : Addr} {R : Result → Shared → Prop} {p : Program} {loose : List Str} {mean : ExcName → Option Value} {mg mb : Str → Option Value}
   (X : (hd.heap_39 w.params).In g) (T : Top p loose mean mg mb g) (hg : ∀ b o, g.get? b = some o → s.heap.get? b = some o) (hx : s.heap.get? x = some (instObj 52 dx)) (hdx : s.heap.get? dx = some (dictOf [] 0)) (hgx : g.get? x = none) (hgd : g.get? dx = none) (hne : dx < x) (hd : A.depth < 890)
   (hQ : ∀ h' tk lu lr t1 t2 t3 t4, (∀ b o, b ≠ dx → s.heap.get? b = some o → h'.get? b = some o) → h'.get? dx = some (dictOf (entE w t1 t2 t3 t4 (.ref lu) (.ref lr) .none .none) 4) → h'.get? lu = some (listOf #[] 0) → h'.get? lr = some (listOf #[] 0) →
     s.heap.get? lu = none → s.heap.get? lr = none → x < lu → lu < lr → R (.ok (.ret .none)) { s with heap := h', toks := tk }),
   codeAny (model PySem.Challenge.rw_ny0178_01.row.prog w) A (.call (.ref 28) ⟨[.ref x], []⟩) R s := by
  k_fill
  intro w A s g x dx R p loose mean mg mb X T hg hx hdx hgx hgd hne hd hQ
  k_dflt (refine' enter_led (binds := [("self", .ref x)]) [(x, instObj 52 dx), (dx, dictOf [] 0)] X T hg (List.forall_mem_cons.mpr ⟨⟨hx, hgx⟩, List.forall_mem_cons.mpr ⟨⟨hdx, hgd⟩, List.forall_mem_nil _⟩⟩) ?k6 ?k7 ?k8 ?k9 ?kB ?_ ?c5 ?c2 ?c3 ?c4; (case k6 => k_is); (case k7 => k_is); (case k8 => simp only [recursionLimit]; omega); (case k9 => (refine' kp_binds ?kx ?ke; (case kx => exact X.keeps hg); (case ke => exact fun _ => rfl))); (case kB => exact locs rfl); (case c2 => exact rfl); (case c3 => exact rfl); (case c4 => exact rfl); (case c5 => decide))
  intro h₀ L' h' eh X' T' hg' F' N' hlt
  k_lt hlt
  k_lt2 hne
  with_reducible change wpAny _ _ _ _ _ _
  k_fold
  k_steps
  rename Fr _ _ _ _ => F6
  rename News _ _ _ _ => N6
  have m0 := N6 _ (by k_dflt (exact .head _))
  have m1 := N6 _ (by k_dflt (exact .tail _ (.head _)))
  have m2 := N6 _ (by k_dflt (exact .tail _ (.tail _ (.head _))))
  have m3 := N6 _ (by k_dflt (exact .tail _ (.tail _ (.tail _ (.head _)))))
  have fr : ∀ {b}, h₀.get? b = none → b ≠ x → b ≠ dx → s.heap.get? b = none := fun e h1 h2 => fresh_of eh e fun hm => by
    rcases List.mem_cons.mp hm with q | q
    · exact h1 q
    · exact h2 (List.mem_singleton.mp q)
  refine hQ _ _ _ _ _ _ _ _ (fun b o hb e => ?_) m3.1 m1.1 m0.1 (fr m1.2.2 (neN (by (try dsimp only); omega)) (neN (by (try dsimp only); omega))) (fr m0.2.2 (neN (by (try dsimp only); omega)) (neN (by (try dsimp only); omega))) (ltN (by (try dsimp only); omega)) (ltN (by (try dsimp only); omega))
  by_cases hbx : b = x
  · subst hbx
    rw [hx] at e; cases e
    exact m2.1
  · refine F6.keep b o ?_
    rw [eh]
    exact hideAll_get _ e fun hm => by
      rcases List.mem_cons.mp hm with q | q
      · exact hbx q
      · exact hb (List.mem_singleton.mp q)

/-- Entry(), met in a frame -/
theorem entry_K : ∀ {w : World} {A : Around} {s : Shared} {h₀ : Heap} {L : Addr} {m : Str → Option Value} {news : List (Addr × Obj)} {p : Program} {loose : List Str} {mean : ExcName → Option Value} {mg mb : Str → Option Value} {Q E : Value → Shared → Prop}
   (F : Fr h₀ L s.heap m) (N : News h₀ L s.heap news) (X : (hd.heap_39 w.params).In h₀) (T : Top p loose mean mg mb h₀) (hd : A.depth < 880)
   (hQ : ∀ x dx lu lr h' tk t1 t2 t3 t4, Fr h₀ L h' m → News h₀ L h' ((lr, listOf #[] 0) :: (lu, listOf #[] 0) :: (x, instObj 52 dx) :: (dx, dictOf (entE w t1 t2 t3 t4 (.ref lu) (.ref lr) .none .none) 4) :: news) →
     (∀ q ∈ news, q.1 < dx) → dx < x → x < lu → lu < lr → Q (.ref x) { s with heap := h', toks := tk }),
   wpAny (model PySem.Challenge.rw_ny0178_01.row.prog w) A (call (.ref 52) []) Q E s := by
  k_fill
  intro w A s h₀ L m news p loose mean mg mb Q E F N X T hd hQ
  k_dflt (refine' call_cls F X N ?k4 ?k5 ?k6 ?_; (case k4 => k_is); (case k5 => k_is); (case k6 => k_is))
  intro x dx h' F' N' l1 l2
  have mx := N' _ (.head _)
  have md := N' _ (.tail _ (.head _))
  refine init_c (X.keeps (fun b o e => e)) T F'.keep mx.1 md.1 mx.2.2 md.2.2 l2 (by rw [depth_under_make]; omega) fun h5 tk lu lr t1 t2 t3 t4 hk hd5 hu5 hr5 fu fr lx lt => ?_
  refine ⟨rfl, ?_⟩
  obtain ⟨oL, _, _, hL, _⟩ := id F'.ns
  have ne : ∀ {b c oc}, h'.get? b = none → h'.get? c = some oc → b ≠ c := fun e ec q => by rw [q, ec] at e; cases e
  have no : ∀ {b}, h'.get? b = none → h₀.get? b = none := fun {b} e => by
    cases q : h₀.get? b with
    | none => rfl
    | some o => rw [F'.keep _ _ q] at e; cases e
  refine hQ x dx lu lr h5 tk t1 t2 t3 t4 (fr_but F' md.2.2 md.2.1 hk) (news_cons hr5 (ne fr hL) (no fr) (news_cons hu5 (ne fu hL) (no fu) (news_cons (hk _ _ (Nat.ne_of_gt l2) mx.1) mx.2.1 mx.2.2 (news_cons hd5 md.2.1 md.2.2 ?_)))) l1 l2 lx lt
  exact news_but (fun q hq => N' q (.tail _ (.tail _ hq))) (fun q hq => Nat.ne_of_lt (l1 q hq)) hk

end Mine
namespace Mine
theorem offP12 : True ∧ True := by
  have h : True ∧ True := by first | (walk1; done) | exact ⟨trivial, trivial⟩
  w_top off
  exact h
def ForEnd {σ : Type} (h₀ : Heap) (L : Addr) (s : Shared) (Led : σ → List (Addr × Obj)) (ps : σ → List (Str × Value)) (stored : List Str) (m₀ : Str → Option Value) (P : σ → Prop) (I : Addr) (oI : Obj) (s₂ : Shared) : Prop :=
  ∃ (c' : σ) (h' : Heap) (tk : Nat) (m' : Str → Option Value), s₂ = { s with heap := h', toks := tk } ∧ Fr h₀ L h' m' ∧ News h₀ L h' ((I, oI) :: Led c') ∧ (∀ q ∈ Led c', q.1 ≠ I) ∧ (∀ q ∈ ps c', m' q.1 = some q.2) ∧
    (∀ z, (∀ q ∈ ps c', z ≠ q.1) → stored.contains z = false → m' z = m₀ z) ∧ P c'
def ForPost {σ : Type} (h₀ : Heap) (L : Addr) (s : Shared) (Led : σ → List (Addr × Obj)) (ps : σ → List (Str × Value)) (stored : List Str) (m₀ : Str → Option Value) (P : σ → Prop) (I : Addr) (oI : Obj) (Q : Flow → Shared → Prop) (f : Flow) (s₂ : Shared) : Prop :=
  match f with
  | .ret v => Q (.ret v) s₂
  | .brk => Q .next s₂
  | _ => ForEnd h₀ L s Led ps stored m₀ P I oI s₂
theorem for_end {σ : Type} {h₀ : Heap} {L : Addr} {s : Shared} {Led : σ → List (Addr × Obj)} {ps : σ → List (Str × Value)} {stored : List Str} {m₀ m' : Str → Option Value} {P : σ → Prop} {I : Addr} {oI : Obj} {h' : Heap} {tk : Nat} (c' : σ)
    (F : Fr h₀ L h' m') (N : News h₀ L h' ((I, oI) :: Led c')) (ho : ∀ q ∈ Led c', q.1 ≠ I) (hk : ∀ q ∈ ps c', m' q.1 = some q.2) (hr : ∀ z, (∀ q ∈ ps c', z ≠ q.1) → stored.contains z = false → m' z = m₀ z) (hp : P c') :
    ForEnd h₀ L s Led ps stored m₀ P I oI { s with heap := h', toks := tk } := ⟨c', h', tk, m', rfl, F, N, ho, hk, hr, hp⟩

/-- a for over a list that stands in the base or in the ledger, by what holds of the state at each turn -/
theorem for_list {prog : Program} {w : World} {A : Around} {E : Value → Shared → Prop} {Q : Flow → Shared → Prop} {s : Shared} {env : Env} {h₀ : Heap} {σ : Type} {target iter : Expr} {body : List Stmt} {pos : Pos} {m₀ : Str → Option Value} {l : Addr} {vs : List Value}
    (Led : σ → List (Addr × Obj)) (ps : σ → List (Str × Value)) (stored : List Str) (P : Nat → σ → Prop) (c₀ : σ)
    (hh : A.handled = none) (F : Fr h₀ env.locals s.heap m₀) (N : News h₀ env.locals s.heap (Led c₀))
    (hl : h₀.IsList l vs.toArray ∨ ∃ lo n, (∀ c, (l, lo) ∈ Led c) ∧ lo.cls = .type "list" ∧ lo.data = .seq vs.toArray n)
    (hk : ∀ q ∈ ps c₀, m₀ q.1 = some q.2) (hp : P 0 c₀)
    (he : ∀ Q' : Value → Shared → Prop, (∀ tk, Q' (.ref l) { s with toks := tk }) → wpAny (model prog w) A (eval iter env) Q' E s)
    (turn : ∀ i v c (u : Str → Option Value) h tk I oI, vs[i]? = some v → P i c → Fr h₀ env.locals h (kstB (fun z => if stored.contains z then u z else m₀ z) (ps c)) → News h₀ env.locals h ((I, oI) :: Led c) → (∀ q ∈ Led c, q.1 ≠ I) →
      wpAny (model prog w) A (assign target env v) (fun _ s₂ => wpAny (model prog w) A (execs body env) (ForPost h₀ env.locals s Led ps stored m₀ (P (i + 1)) I oI Q) E s₂) E { s with heap := h, toks := tk })
    (done : ∀ c (u : Str → Option Value) h tk, P vs.length c → Fr h₀ env.locals h (kstB (fun z => if stored.contains z then u z else m₀ z) (ps c)) → News h₀ env.locals h (Led c) → Q .next { s with heap := h, toks := tk })
    (hs : ∀ x, foldedSetIterable iter env x = pure x := by intro _; rfl)
    (hE : PassesOwn (model prog w) A env E := by passes_own) :
    wpAny (model prog w) A (exec (.For target iter body [] pos) env) Q E s := by
  refine For_turns F (he _ fun tk0 => ?_) hs hE
  have hls : s.heap.IsList l vs.toArray := by
    rcases hl with hl | ⟨lo, n, hm, hc, hd⟩
    · exact list_keep hl F.keep
    · exact ⟨lo, (N _ (hm c₀)).1, hc, n, hd⟩
  have hlt : l < s.heap.objs.size := by obtain ⟨ol, hol, _⟩ := hls; exact Heap.lt_size hol
  have hne : l ≠ s.heap.objs.size := Nat.ne_of_lt hlt
  refine wpAny_pyIter_list hls ?_
  have hL : l ≠ env.locals := by
    rcases hl with ⟨ol, hol, _⟩ | ⟨lo, n, hm, hc, hd⟩
    · exact Nat.ne_of_lt (Nat.lt_of_lt_of_le (Heap.lt_size hol) F.above)
    · exact (N _ (hm c₀)).2.1
  let J : Nat → (Str → Option Value) → List (Addr × Obj) → Prop := fun i m nx => ∃ c : σ, nx = Led c ∧ (∀ q ∈ ps c, m q.1 = some q.2) ∧ (∀ z, (∀ q ∈ ps c, z ≠ q.1) → stored.contains z = false → m z = m₀ z) ∧ P i c
  refine ⟨s.heap.objs.size, [s.heap.objs.size, l], [s.heap.objs.size], vs.toArray.size, _, _, _, m₀, Led c₀, J, rfl,
    KTurns.ofWalks (Walks.list hh s.heap.objs.size l hne vs.toArray) (fun i v s Q E st q => letGo_listiter st.1 q), ?_, ?_, ?_, ⟨⟨_, Heap.get?_push_size _ rfl, rfl, rfl⟩, hls.at fun o e => Heap.get?_push_of_some _ e⟩, F.push _,
    (fun p hp => ⟨Heap.get?_push_of_some _ (N p hp).1, (N p hp).2⟩), ⟨c₀, rfl, hk, fun _ _ _ => rfl, hp⟩, ?_, ?_⟩
  · intro hm
    rcases List.mem_cons.mp hm with e | hm
    · exact absurd F.ns.lt (e ▸ Nat.lt_irrefl _)
    · exact hL (List.mem_singleton.mp hm).symm
  · intro b hb
    rw [List.mem_singleton.mp hb]
    exact next_is_new F
  · intro p hp hI
    exact absurd (Heap.lt_size (N p hp).1) ((List.mem_singleton.mp hI) ▸ Nat.lt_irrefl _)
  · rintro i v m₁ news₁ h₁ tk₁ own hin hP ⟨c, rfl, hk', hr', hp'⟩ hoff hown hget hall hst F₁ N₁
    obtain ⟨oI, hoI, _⟩ := hst.1
    have hI : (s.heap.objs.size, oI) ∈ own := hall s.heap.objs.size (by simp) (next_is_new F) oI hoI
    have ex : ∀ p ∈ own, p = (s.heap.objs.size, oI) ∨ p ∈ Led c ∧ p.1 = l := by
      intro p hp
      have h1 := hown p hp
      rcases List.mem_cons.mp h1 with e | e
      · refine .inl (Prod.ext e ?_)
        have := hget p hp
        rw [e, hoI] at this
        exact (Option.some.inj this).symm
      · have e' := List.mem_singleton.mp e
        rcases hl with ⟨ol, hol, _⟩ | ⟨lo, n, hm, hc, hd⟩
        · have := (N₁ p (List.mem_append_left _ hp)).2.2
          rw [e', hol] at this; cases this
        · refine .inr ⟨?_, e'⟩
          have h2 := (N₁ _ (List.mem_append_right _ (hm c))).1
          have h3 := hget p hp
          rw [e'] at h3
          rw [h2] at h3
          have : p = (l, lo) := Prod.ext e' (Option.some.inj h3).symm
          rw [this]; exact hm c
    have hlist : vs[i]? = some v := by have : vs.toArray[i]? = some v := hP; simpa using this
    have hoff' : ∀ q ∈ Led c, q.1 ≠ s.heap.objs.size := fun q hq e => hoff q hq (by simp [e])
    refine wpAny_mono (turn i v c m₁ h₁ tk₁ s.heap.objs.size oI hlist hp' (ksw_fr hk' hr' F₁) (fun q hq => ?_) hoff') (fun _ s₂ h₂ => wpAny_mono h₂ (fun f s₃ h₃ => ?_) fun _ _ e => e) fun _ _ e => e
    · rcases List.mem_cons.mp hq with rfl | hq
      · exact N₁ _ (List.mem_append_left _ hI)
      · exact N₁ _ (List.mem_append_right _ hq)
    · have fin : ForEnd h₀ env.locals s Led ps stored m₀ (P (i + 1)) s.heap.objs.size oI s₃ → LoopStepU h₀ env.locals [s.heap.objs.size] own (J (i + 1)) { s with heap := h₁, toks := tk₁ } .next s₃ := by
        rintro ⟨c', h', tk, m', e, F', N', ho', hk2, hr2, hp2⟩
        refine ⟨rfl, h', tk, m', Led c', e, F', fun q hq => ?_, fun q hq hw => ho' q hq (List.mem_singleton.mp hw), c', rfl, hk2, hr2, hp2⟩
        rcases List.mem_append.mp hq with hq | hq
        · rcases ex q hq with rfl | ⟨hm, hq1⟩
          · exact N' _ (.head _)
          · rcases hl with ⟨ol, hol, _⟩ | ⟨lo, n, hml, hc, hd⟩
            · have := (N₁ q (List.mem_append_right _ hm)).2.2
              rw [hq1, hol] at this; cases this
            · have e2 : q = (l, lo) := by
                have h2 := (N₁ _ (List.mem_append_right _ (hml c))).1
                have h3 := hget q hq
                rw [hq1, h2] at h3
                exact Prod.ext hq1 (Option.some.inj h3).symm
              rw [e2]
              exact N' _ (.tail _ (hml c'))
        · exact N' _ (.tail _ hq)
      cases f with
      | ret v => exact .ret h₃
      | brk => exact .brk h₃
      | next => exact .next (fin h₃)
      | cont => exact .cont (fin h₃)
  · rintro h' tk m' news' F' N' _ ⟨c, rfl, hk', hr', hp'⟩
    refine done c m' h' tk ?_ (ksw_fr hk' hr' F') N'
    rwa [List.size_toArray] at hp'

end Mine
namespace Mine
theorem offP13 : True ∧ True := by
  have h : True ∧ True := by first | (walk1; done) | exact ⟨trivial, trivial⟩
  w_top off
  exact h
def PairsAt (h : Heap) : List Value → List (Str × Int) → Prop
  | [], [] => True
  | v :: vs, r :: rs => (∃ t tp tm, v = .ref t ∧ IsTup h t #[.str r.1 tp, .int r.2 tm]) ∧ PairsAt h vs rs
  | _, _ => False
def RulesAt (h : Heap) : List Value → List (Str × Int) → Prop
  | [], [] => True
  | v :: vs, r :: rs => (∃ a, v = .ref a ∧ RuleAt h a r.1 r.2) ∧ RulesAt h vs rs
  | _, _ => False
theorem PairsAt.keep {h h' : Heap} (hk : ∀ b o, h.get? b = some o → h'.get? b = some o) : ∀ {vs : List Value} {rs : List (Str × Int)}, PairsAt h vs rs → PairsAt h' vs rs
  | [], [], _ => trivial
  | _ :: _, _ :: _, ⟨⟨t, tp, tm, e, x⟩, r⟩ => ⟨⟨t, tp, tm, e, IsTup.keeps x hk⟩, PairsAt.keep hk r⟩
theorem PairsAt.len {h : Heap} : ∀ {vs : List Value} {rs : List (Str × Int)}, PairsAt h vs rs → vs.length = rs.length
  | [], [], _ => rfl
  | _ :: _, _ :: _, ⟨_, r⟩ => by simp [PairsAt.len r]
theorem PairsAt.get {h : Heap} : ∀ {vs : List Value} {rs : List (Str × Int)}, PairsAt h vs rs → ∀ {i : Nat} {v : Value}, vs[i]? = some v → ∃ r t tp tm, rs[i]? = some r ∧ v = .ref t ∧ IsTup h t #[.str r.1 tp, .int r.2 tm]
  | _ :: _, r :: _, ⟨⟨t, tp, tm, e, x⟩, _⟩, 0, v, q => by simp at q; exact ⟨r, t, tp, tm, rfl, q ▸ e, x⟩
  | _ :: _, _ :: _, ⟨_, k⟩, i + 1, v, q => by simp at q ⊢; simpa using PairsAt.get k q
  | [], [], _, _, _, q => by simp at q
theorem RulesAt.keep {h h' : Heap} (hk : ∀ b o, h.get? b = some o → h'.get? b = some o) : ∀ {vs : List Value} {rs : List (Str × Int)}, RulesAt h vs rs → RulesAt h' vs rs
  | [], [], _ => trivial
  | _ :: _, _ :: _, ⟨⟨a, e, x⟩, r⟩ => ⟨⟨a, e, x.keep hk⟩, RulesAt.keep hk r⟩
theorem RulesAt.len {h : Heap} : ∀ {vs : List Value} {rs : List (Str × Int)}, RulesAt h vs rs → vs.length = rs.length
  | [], [], _ => rfl
  | _ :: _, _ :: _, ⟨_, r⟩ => by simp [RulesAt.len r]
theorem RulesAt.append {h : Heap} : ∀ {vs vs' : List Value} {rs rs' : List (Str × Int)}, RulesAt h vs rs → RulesAt h vs' rs' → RulesAt h (vs ++ vs') (rs ++ rs')
  | [], _, [], _, _, k => k
  | _ :: _, _, _ :: _, _, ⟨a, r⟩, k => ⟨a, RulesAt.append r k⟩
theorem RulesAt.get {h : Heap} : ∀ {vs : List Value} {rs : List (Str × Int)}, RulesAt h vs rs → ∀ {i : Nat} {v : Value}, vs[i]? = some v → ∃ r a, rs[i]? = some r ∧ v = .ref a ∧ RuleAt h a r.1 r.2
  | _ :: _, r :: _, ⟨⟨a, e, x⟩, _⟩, 0, v, q => by simp at q; exact ⟨r, a, rfl, q ▸ e, x⟩
  | _ :: _, _ :: _, ⟨_, k⟩, i + 1, v, q => by simp at q ⊢; simpa using RulesAt.get k q
  | [], [], _, _, _, q => by simp at q

structure RecAt (w : World) (h : Heap) (e : Addr) (rs : List (Str × Int)) : Prop where
  at_ : ∃ dx lu lr t1 t2 t3 t4 refs n nu, h.get? e = some (instObj 52 dx) ∧ h.get? dx = some (dictOf (entE w t1 t2 t3 t4 (.ref lu) (.ref lr) .none .none) 4) ∧ h.get? lu = some (listOf #[] nu) ∧ h.get? lr = some (listOf (refs : List Value).toArray n) ∧ RulesAt h refs rs
theorem RecAt.keep {w : World} {h h' : Heap} {e : Addr} {rs : List (Str × Int)} (X : RecAt w h e rs) (hk : ∀ b o, h.get? b = some o → h'.get? b = some o) : RecAt w h' e rs :=
  let ⟨dx, lu, lr, t1, t2, t3, t4, refs, n, nu, a, b, c, d, r⟩ := X.at_; ⟨dx, lu, lr, t1, t2, t3, t4, refs, n, nu, hk _ _ a, hk _ _ b, hk _ _ c, hk _ _ d, r.keep hk⟩

/-- a view's objects that are not of the base, as a ledger -/
def ledOf (gv h₀ : Heap) : List (Addr × Obj) := (List.range gv.objs.size).filterMap fun b => match gv.get? b, h₀.get? b with
  | some o, none => some (b, o)
  | _, _ => none
theorem mem_ledOf {gv h₀ : Heap} {b : Addr} {o : Obj} : (b, o) ∈ ledOf gv h₀ ↔ gv.get? b = some o ∧ h₀.get? b = none := by
  unfold ledOf
  constructor
  · intro h
    obtain ⟨c, hc, e⟩ := List.mem_filterMap.mp h
    split at e
    · rename_i o' h1 h2
      cases e
      exact ⟨h1, h2⟩
    · cases e
  · rintro ⟨h1, h2⟩
    exact List.mem_filterMap.mpr ⟨b, List.mem_range.mpr (Heap.lt_size h1), by rw [h1, h2]⟩

/-- gv is a view that has grown out of g since the heap was hs; h holds it -/
structure View (g hs gv h : Heap) : Prop where
  low : ∀ b o, g.get? b = some o → gv.get? b = some o
  up : ∀ b o, gv.get? b = some o → h.get? b = some o
  new : ∀ b o, gv.get? b = some o → g.get? b = some o ∨ hs.get? b = none
theorem View.sub {g hs gv h : Heap} (V : View g hs gv h) : ∀ b o, gv.get? b = some o → (grow g hs h).get? b = some o := fun b o e => by
  rcases V.new b o e with q | q
  · exact grow_old (fun b o e => V.up b o (V.low b o e)) b o q
  · exact grow_new q (V.up b o e)
theorem View.start {g hs : Heap} (hg : ∀ b o, g.get? b = some o → hs.get? b = some o) : View g hs g hs := ⟨fun _ _ e => e, hg, fun _ _ e => .inl e⟩
theorem View.next {g hs gv h h' : Heap} (V : View g hs gv h) (hk : ∀ b o, gv.get? b = some o → h'.get? b = some o) (hold : ∀ b o, hs.get? b = some o → ∃ o', h.get? b = some o') : View g hs (grow gv h h') h' :=
  ⟨fun b o e => grow_old hk b o (V.low b o e), grow_sub, fun b o e => by
    cases q : gv.get? b with
    | some o' =>
      have : o' = o := by have := grow_old (hs := h) hk b o' q; rw [e] at this; exact (Option.some.inj this).symm
      exact this ▸ V.new b o' q
    | none =>
      refine .inr ?_
      cases z : hs.get? b with
      | none => rfl
      | some oz =>
        obtain ⟨o', z'⟩ := hold b oz z
        rw [grow_none z' q] at e; cases e⟩
theorem View.held {g hs gv h h' : Heap} (V : View g hs gv h) (hk : ∀ b o, gv.get? b = some o → h'.get? b = some o) : View g hs gv h' := ⟨V.low, hk, V.new⟩
/-- what the ledger of a view bears stands in the heap -/
theorem led_up {gv h₀ h : Heap} {L : Addr} {m : Str → Option Value} {l : List (Addr × Obj)} (F : Fr h₀ L h m) (N : News h₀ L h l) (hm : ∀ q ∈ ledOf gv h₀, q ∈ l) (hc : ∀ b o o', gv.get? b = some o → h₀.get? b = some o' → o = o') :
    ∀ b o, gv.get? b = some o → h.get? b = some o := fun b o e => by
  cases q : h₀.get? b with
  | none => exact (N _ (hm _ (mem_ledOf.mpr ⟨e, q⟩))).1
  | some o' => rw [hc b o o' e q]; exact F.keep b o' q
theorem led_news {gv h₀ h : Heap} {L : Addr} (hu : ∀ b o, gv.get? b = some o → h.get? b = some o) (hL : gv.get? L = none) : News h₀ L h (ledOf gv h₀) := fun q hq => by
  obtain ⟨b, o⟩ := q
  obtain ⟨e1, e2⟩ := mem_ledOf.mp hq
  exact ⟨hu b o e1, (fun z => by rw [show b = L from z, hL] at e1; cases e1), e2⟩
theorem led_ne {gv h₀ : Heap} {d : Addr} (hd : gv.get? d = none) : ∀ q ∈ ledOf gv h₀, q.1 ≠ d := fun q hq z => by
  obtain ⟨b, o⟩ := q
  have := (mem_ledOf.mp hq).1
  dsimp only at z
  rw [z, hd] at this; cases this

section
local macro_rules | `(tactic| walk_at "call ref") => `(tactic| refine Held.out ?_)
local macro_rules | `(tactic| walk_at "exec For Tuple Name cons nil") => `(tactic| refine Held.out ?_)
local macro_rules | `(tactic| walk_at "call builtin:list.append") => `(tactic| refine Held.out ?_)

local macro_rules | `(tactic| walk_at "mine same") => `(tactic| (intro z h2 h3; (try simp only [List.forall_mem_cons, List.not_mem_nil, false_implies, implies_true, and_true, ne_eq] at h2); (simp only [List.contains_cons, List.contains_nil, Bool.or_false, Bool.or_eq_false_iff, beq_eq_false_iff_ne, ne_eq] at h3); simp [kstB, h2, h3]))
theorem record_c : ∀ {w : World} {A : Around} {s : Shared} {g : Heap} {l : Addr} {vs : List Value} {rs : List (Str × Int)} {o1 : Obj} {Q : Value → Shared → Prop}
   (X : Amb w g) (C : CodeHd g 105 101) (hg : ∀ b o, g.get? b = some o → s.heap.get? b = some o) (hl : g.IsList l vs.toArray) (hp : PairsAt g vs rs) (hz : rs.length < 1000)
   (ht : s.heap.get? 101 = some o1) (ht1 : o1 = tabObj #[] ∨ ∃ c1 c2, o1 = tab101 c1 c2 ∧ g.CodeRec (.ref c2) lamQual) (hgt : g.get? 101 = none) (hh : A.handled = none) (hd : A.depth < 870)
   (hQ : ∀ h' tk e o', (∀ b o, b ≠ 101 → s.heap.get? b = some o → h'.get? b = some o) → h'.get? 101 = some o' → (o1 ≠ tabObj #[] → o' = o1) → ((∃ c1 c2, o' = tab101 c1 c2 ∧ (grow g s.heap h').CodeRec (.ref c2) lamQual) ∨ (o' = tabObj #[] ∧ rs = [])) →
     RecAt w (grow g s.heap h') e rs → Q (.ref e) { s with heap := h', toks := tk }),
   wpAny (model PySem.Challenge.rw_ny0178_01.row.prog w) A (call (.ref 113) [.ref l]) Q (fun _ _ => False) s := by
  unfold Amb
  k_fill
  intro w A s g l vs rs o1 Q X C hg hl hp hz ht ht1 hgt hh hd hQ
  obtain ⟨X, p, loose, mean, mg, mb, T⟩ := X
  refine wpAny_call ?_
  k_dflt (refine' enter_led (binds := [("rules", .ref l)]) [(101, o1)] X T hg (List.forall_mem_cons.mpr ⟨⟨ht, hgt⟩, List.forall_mem_nil _⟩) ?k6 ?k7 ?k8 ?k9 ?kB ?_ ?c5 ?c2 ?c3 ?c4; (case k6 => k_is); (case k7 => k_is); (case k8 => simp only [recursionLimit]; omega); (case k9 => (refine' kp_binds ?kx ?ke; (case kx => exact X.keeps hg); (case ke => exact fun _ => rfl))); (case kB => exact locs rfl); (case c2 => exact rfl); (case c3 => exact rfl); (case c4 => exact rfl); (case c5 => decide))
  intro h₀ L' h' eh X' T' hg' F' N' hlt
  k_lt hlt
  with_reducible change wpAny _ _ _ _ _ _
  k_fold
  k_steps
  refine held (entry_K F' N' X' T' (by show A.depth + 1 < 880; omega) fun x dx lu lr h2 tk2 t1 t2 t3 t4 F2 N2 l1 l2 l3 l4 => ?_)
  k_lt l1
  k_lt2 l2
  k_lt2 l3
  k_lt2 l4
  clear F' N'
  k_steps
  rename Fr _ _ _ _ => F3
  rename News _ _ _ _ => N3
  have hls : h₀.IsList l vs.toArray := list_keep hl hg'
  have mr := N3 _ (by k_dflt (exact .head _))
  have mu := N3 _ (by k_dflt (exact .tail _ (.head _)))
  have mx := N3 _ (by k_dflt (exact .tail _ (.tail _ (.head _))))
  have md := N3 _ (by k_dflt (exact .tail _ (.tail _ (.tail _ (.head _)))))
  have mt := N3 _ (by k_dflt (exact .tail _ (.tail _ (.tail _ (.tail _ (.head _))))))
  have fr : ∀ {b}, h₀.get? b = none → b ≠ 101 → s.heap.get? b = none := fun e hb => fresh_of eh e fun hm => hb (List.mem_singleton.mp hm)
  have gn : ∀ {b}, h₀.get? b = none → g.get? b = none := fun {b} e => by
    cases q : g.get? b with
    | none => rfl
    | some o => rw [hg' b o q] at e; cases e
  have gL : g.get? L' = none := by
    cases q : g.get? L' with
    | none => rfl
    | some o => exact absurd (Heap.lt_size (hg' _ _ q)) (Nat.not_lt.mpr F3.above)
  refine held (for_list (σ := (List Value × Nat) × (Obj × Heap)) (l := l) (vs := vs)
    (fun c => (lr, listOf c.1.1.toArray c.1.2) :: (101, c.2.1) :: (lu, listOf #[] 0) :: (x, instObj 52 dx) :: (dx, dictOf (entE w t1 t2 t3 t4 (.ref lu) (.ref lr) .none .none) 4) :: ledOf c.2.2 h₀)
    (fun _ => []) ["path", "mark"]
    (fun i c => RulesAt c.2.2 c.1.1 (rs.take i) ∧ (∀ b o, g.get? b = some o → c.2.2.get? b = some o) ∧ (∀ b o, c.2.2.get? b = some o → g.get? b = some o ∨ s.heap.get? b = none) ∧ (∀ b o o', c.2.2.get? b = some o → h₀.get? b = some o' → o = o') ∧
      (c.2.2.get? L' = none ∧ c.2.2.get? lr = none ∧ c.2.2.get? 101 = none ∧ c.2.2.get? lu = none ∧ c.2.2.get? x = none ∧ c.2.2.get? dx = none) ∧
      (o1 ≠ tabObj #[] → c.2.1 = o1) ∧ ((c.2.1 = tabObj #[] ∧ i = 0) ∨ ∃ c1 c2, c.2.1 = tab101 c1 c2 ∧ c.2.2.CodeRec (.ref c2) lamQual))
    (([], 0), (o1, g)) hh F3 ?hN (.inl hls) (List.forall_mem_nil _) ?hP (fun Q' q => ld F3 rfl (q _)) ?turn ?done)
  case hN =>
    exact news_cons mr.1 mr.2.1 mr.2.2 (news_cons mt.1 mt.2.1 mt.2.2 (news_cons mu.1 mu.2.1 mu.2.2 (news_cons mx.1 mx.2.1 mx.2.2 (news_cons md.1 md.2.1 md.2.2 (led_news (fun b o e => F3.keep b o (hg' b o e)) gL)))))
  case hP =>
    refine ⟨trivial, fun _ _ e => e, fun _ _ e => .inl e, fun b o o' e e' => ?_, ⟨gL, gn mr.2.2, hgt, gn mu.2.2, gn mx.2.2, gn md.2.2⟩, fun _ => rfl, ?_⟩
    · rw [hg' b o e] at e'; exact Option.some.inj e'
    · rcases ht1 with h | h
      · exact .inl ⟨h, rfl⟩
      · exact .inr h
  case turn =>
    rintro i v ⟨⟨refs, n⟩, tab, gv⟩ u h4 tk4 I oI hv ⟨q1, q2, q3, q4, ⟨eL, er, et, eu, ex, ed⟩, q6, q7⟩ F4 N4 hI
    dsimp only at q1 q2 q3 q4 eL er et eu ex ed q6 q7 F4 N4 hI
    clear F3 N3
    obtain ⟨r, t, tp, tm, hr, rfl, htup⟩ := hp.get hv
    have htup' := IsTup.keeps htup hg'
    refine unpackN_ F4 N4 (IsTup.keeps htup' F4.keep) hh rfl rfl fun h5 F5 N5 => ?_
    clear F4 N4
    with_reducible change wpAny _ _ _ _ _ _
    k_fold
    k_steps
    rename Fr _ _ _ _ => F6
    rename News _ _ _ _ => N6
    rename_i h6
    clear F5 N5
    have up6 := led_up F6 N6 (fun q hq => .tail _ (.tail _ (.tail _ (.tail _ (.tail _ (.tail _ hq)))))) q4
    have nI := N6 _ (.head _)
    have hold6 : ∀ b o, s.heap.get? b = some o → ∃ o', h6.get? b = some o' := fun b o e => by
      by_cases hb : b = 101
      · exact ⟨tab, by rw [hb]; exact (N6 _ (.tail _ (.tail _ (.head _)))).1⟩
      · exact ⟨o, F6.keep b o (by rw [eh]; exact hideAll_get _ e fun hm => hb (List.mem_singleton.mp hm))⟩
    have nr := N6 _ (.tail _ (.head _))
    have nt := N6 _ (.tail _ (.tail _ (.head _)))
    have nu := N6 _ (.tail _ (.tail _ (.tail _ (.head _))))
    have nx := N6 _ (.tail _ (.tail _ (.tail _ (.tail _ (.head _)))))
    have nd := N6 _ (.tail _ (.tail _ (.tail _ (.tail _ (.tail _ (.head _))))))
    have hI1 : lr ≠ I := hI _ (.head _)
    have hI2 : 101 ≠ I := hI _ (.tail _ (.head _))
    refine held (wpAny_mono (rule_c (g := gv) ⟨X.keeps q2, p, loose, mean, mg, mb, T.keeps q2⟩ (C.keeps q2) up6 nt.1 (q7.imp (·.1) id) et (by show A.depth + 1 < 890; omega) fun h7 tk7 ra c1 c2 hk7 h101 hsame hcr hra => ?_) (fun _ _ x => x) (fun _ _ x => x.elim))
    dsimp only at hk7 hcr hra
    have F7 := fr_but F6 nt.2.2 nt.2.1 hk7
    have keep7 := F7.keep
    have up7 : ∀ b o, gv.get? b = some o → h7.get? b = some o := fun b o e => hk7 b o (fun q => by rw [q, et] at e; cases e) (up6 b o e)
    obtain ⟨oL, _, _, hoL, _⟩ := id F6.ns
    have zL := grow_none (h := h7) hoL eL
    have zr := grow_none (h := h7) nr.1 er
    have zt := grow_none (h := h7) nt.1 et
    have zu := grow_none (h := h7) nu.1 eu
    have zx := grow_none (h := h7) nx.1 ex
    have zd := grow_none (h := h7) nd.1 ed
    have N7 : News h₀ L' h7 ((I, oI) :: (lr, listOf refs.toArray n) :: (101, tab101 c1 c2) :: (lu, listOf #[] 0) :: (x, instObj 52 dx) :: (dx, dictOf (entE w t1 t2 t3 t4 (.ref lu) (.ref lr) .none .none) 4) :: ledOf (grow gv h6 h7) h₀) :=
      news_cons (hk7 _ _ (Ne.symm hI2) nI.1) nI.2.1 nI.2.2 (news_cons (hk7 _ _ (neN (by (try dsimp only); omega)) nr.1) nr.2.1 nr.2.2 (news_cons h101 nt.2.1 nt.2.2 (news_cons (hk7 _ _ (neN (by (try dsimp only); omega)) nu.1) nu.2.1 nu.2.2
        (news_cons (hk7 _ _ (neN (by (try dsimp only); omega)) nx.1) nx.2.1 nx.2.2 (news_cons (hk7 _ _ (neN (by (try dsimp only); omega)) nd.1) nd.2.1 nd.2.2 (led_news grow_sub zL))))))
    clear F6 N6
    k_steps
    rename Fr _ _ _ _ => F8
    rename News _ _ _ _ => N8
    have hlen : refs.length ≤ 1000 := by have := RulesAt.len q1; rw [List.length_take] at this; omega
    refine held (append_K F8 N8 (Upd.tail (Ne.symm hI1) (Upd.head (List.forall_mem_cons.mpr ⟨neN (by (try dsimp only); omega), List.forall_mem_cons.mpr ⟨neN (by (try dsimp only); omega), List.forall_mem_cons.mpr ⟨neN (by (try dsimp only); omega), List.forall_mem_cons.mpr ⟨neN (by (try dsimp only); omega), led_ne zr⟩⟩⟩⟩))) (fun h9 F9 N9 => ?_) (by rw [List.size_toArray, sizeLine_eq]; omega))
    rw [List.push_toArray] at N9
    k_steps
    change ForEnd _ _ _ _ _ _ _ _ _ _ _
    refine for_end ((refs ++ [Value.ref ra], n + 1), (tab101 c1 c2, grow gv h6 h7)) F9 N9 ?ho (List.forall_mem_nil _) ?hr ?hp
    case ho =>
      have hI3 := hI _ (.tail _ (.tail _ (.head _)))
      have hI4 := hI _ (.tail _ (.tail _ (.tail _ (.head _))))
      have hI5 := hI _ (.tail _ (.tail _ (.tail _ (.tail _ (.head _)))))
      refine List.forall_mem_cons.mpr ⟨hI1, List.forall_mem_cons.mpr ⟨hI2, List.forall_mem_cons.mpr ⟨hI3, List.forall_mem_cons.mpr ⟨hI4, List.forall_mem_cons.mpr ⟨hI5, led_ne ?_⟩⟩⟩⟩⟩
      cases q : gv.get? I with
      | none => exact grow_none nI.1 q
      | some o =>
        cases q' : h₀.get? I with
        | none => exact absurd rfl (hI (I, o) (.tail _ (.tail _ (.tail _ (.tail _ (.tail _ (mem_ledOf.mpr ⟨q, q'⟩)))))))
        | some o' => have := nI.2.2; dsimp only at this; rw [q'] at this; cases this
    case hr => walk_at "mine same"
    case hp =>
      dsimp only
      refine ⟨?_, fun b o e => grow_old up7 b o (q2 b o e), ?_, ?_, ⟨zL, zr, zt, zu, zx, zd⟩, fun q => ?_, .inr ⟨c1, c2, rfl, hcr⟩⟩
      · have e1 : rs.take (i + 1) = rs.take i ++ [r] := by rw [List.take_add_one, hr]; rfl
        rw [e1]
        exact RulesAt.append (RulesAt.keep (grow_old up7) q1) ⟨⟨ra, rfl, hra⟩, trivial⟩
      · intro b o e
        cases q : gv.get? b with
        | some o' =>
          have : o' = o := by have := grow_old (hs := h6) up7 b o' q; rw [e] at this; exact (Option.some.inj this).symm
          exact this ▸ q3 b o' q
        | none =>
          refine .inr ?_
          cases z : s.heap.get? b with
          | none => rfl
          | some oz =>
            obtain ⟨o', z'⟩ := hold6 b oz z
            rw [grow_none z' q] at e; cases e
      · intro b o o' e e'
        have h1 := grow_sub b o e
        have h2 := keep7 b o' e'
        rw [h1] at h2; exact Option.some.inj h2
      · have e1 := q6 q
        rw [← e1]
        exact hsame (by rw [e1]; exact q)
  case done =>
    rintro ⟨⟨refs, n⟩, tab, gv⟩ u h4 tk4 ⟨q1, q2, q3, q4, ⟨eL, er, et, eu, ex, ed⟩, q6, q7⟩ F4 N4
    dsimp only at q1 q2 q3 q4 eL er et eu ex ed q6 q7 F4 N4
    clear F3 N3
    have up4 := led_up F4 N4 (fun q hq => .tail _ (.tail _ (.tail _ (.tail _ (.tail _ hq))))) q4
    have nr := N4 _ (.head _)
    have nt := N4 _ (.tail _ (.head _))
    have nu := N4 _ (.tail _ (.tail _ (.head _)))
    have nx := N4 _ (.tail _ (.tail _ (.tail _ (.head _))))
    have nd := N4 _ (.tail _ (.tail _ (.tail _ (.tail _ (.head _)))))
    have old : ∀ b o, b ≠ 101 → s.heap.get? b = some o → h4.get? b = some o := fun b o hb e => F4.keep b o (by rw [eh]; exact hideAll_get _ e fun hm => hb (List.mem_singleton.mp hm))
    k_steps
    have V : View g s.heap gv h4 := ⟨q2, up4, q3⟩
    have elen := PairsAt.len hp
    refine hQ h4 _ x tab old nt.1 q6 ?_ ⟨⟨dx, lu, lr, t1, t2, t3, t4, refs, n, 0, grow_new (fr nx.2.2 (neN (by (try dsimp only); omega))) nx.1, grow_new (fr nd.2.2 (neN (by (try dsimp only); omega))) nd.1, grow_new (fr nu.2.2 (neN (by (try dsimp only); omega))) nu.1, grow_new (fr nr.2.2 (neN (by (try dsimp only); omega))) nr.1, ?_⟩⟩
    · rcases q7 with ⟨h1, h2⟩ | ⟨c1, c2, h1, h2⟩
      · exact .inr ⟨h1, List.eq_nil_of_length_eq_zero (by omega)⟩
      · exact .inl ⟨c1, c2, h1, codeRec_keep h2 V.sub⟩
    · rw [elen, List.take_length] at q1
      exact RulesAt.keep V.sub q1
end

end Mine
namespace Mine
theorem offP14 : True ∧ True := by
  have h : True ∧ True := by first | (walk1; done) | exact ⟨trivial, trivial⟩
  w_top off
  exact h
/-- one rule met at a name: what stands best so far, and what it says -/
def stepA (nm : Str) (c : Int × Bool) (r : Str × Int) : Int × Bool :=
  if app r.1 r.2 nm = 0 then c
  else if c.1 < app r.1 r.2 nm then (app r.1 r.2 nm, r.2.fmod 2 == 1)
  else if app r.1 r.2 nm = c.1 ∧ c.2 = false then (c.1, r.2.fmod 2 == 1) else c
def scan (nm : Str) (rs : List (Str × Int)) : Int × Bool := rs.foldl (stepA nm) (-1, true)
/-- what the record says at a name -/
def says (nm : Str) (rs : List (Str × Int)) : Bool := (scan nm rs).2
theorem scan_snoc (nm : Str) (rs : List (Str × Int)) (r : Str × Int) : scan nm (rs ++ [r]) = stepA nm (scan nm rs) r := by unfold scan; rw [List.foldl_append]; rfl

theorem InstAt_base {h₀ h : Heap} {L x C dx : Addr} {m : Str → Option Value} {od : Obj} {sl : Array (Option Value)} (F : Fr h₀ L h m) (h1 : h₀.get? x = some ⟨.ref C, some dx, .plain, sl⟩) (h2 : h₀.get? dx = some od) :
    InstAt h x ⟨.ref C, some dx, .plain, sl⟩ C (some od) := ⟨F.keep _ _ h1, rfl, rfl, F.keep _ _ h2⟩
section
local macro_rules | `(tactic| k_inst) => `(tactic| (refine' InstAt_base ?F ?h1 ?h2; (case F => k_asm); (case h1 => assumption); (case h2 => assumption)))
local macro_rules | `(tactic| walk_at "exec For Name Attribute cons nil") => `(tactic| refine Held.out ?_)
local macro_rules | `(tactic| walk_at "getMethod ref") => `(tactic| refine Held.out ?_)
local macro_rules | `(tactic| walk_at "getAttr ref") => `(tactic| ((with_reducible show wpAny _ _ (getAttr (Value.ref _) (PySem.Str.ofString "allowance") _) _ _ _); refine Held.out ?_))
local macro_rules | `(tactic| walk_at "call ref") => `(tactic| refine Held.out ?_)
local macro_rules | `(tactic| walk_at "callWith ref") => `(tactic| refine Held.out ?_)
local macro_rules | `(tactic| walk_at "And") => `(tactic| ((with_reducible show FnAt _ _ ∧ _); refine Held.out ?_))
local macro_rules | `(tactic| walk_at "mine same") => `(tactic| (intro z h2 h3; (try simp only [List.forall_mem_cons, List.not_mem_nil, false_implies, implies_true, and_true, ne_eq] at h2); (simp only [List.contains_cons, List.contains_nil, Bool.or_false, Bool.or_eq_false_iff, beq_eq_false_iff_ne, ne_eq] at h3); simp [kstB, h2, h3]))

theorem allow_c : ∀ {w : World} {A : Around} {s : Shared} {e : Addr} {rs : List (Str × Int)} {nm : Str} {tn : Tok} {Q : Value → Shared → Prop}
   (X : Amb w s.heap) (hr : RecAt w s.heap e rs) (hz : ∀ r ∈ rs, r.1.length < 2 ^ 20) (hz2 : nm.length < 2 ^ 20) (hh : A.handled = none) (hd : A.depth < 870)
   (hQ : ∀ h' tk, (∀ b o, s.heap.get? b = some o → h'.get? b = some o) → Q (.bool (says nm rs)) { s with heap := h', toks := tk }),
   wpAny (model PySem.Challenge.rw_ny0178_01.row.prog w) A (call (.ref 49) [.ref e, .str nm tn]) Q (fun _ _ => False) s := by
  unfold Amb
  k_fill
  intro w A s e rs nm tn Q X hr hz hz2 hh hd hQ
  obtain ⟨X, p, loose, mean, mg, mb, T⟩ := X
  obtain ⟨dx, lu, lr, t1, t2, t3, t4, refs, n, nu, he, hdx, hlu, hlr, hrs⟩ := hr.at_
  refine wpAny_call ?_
  k_dflt (refine' enter_def (binds := [("self", .ref e), ("filename", .str nm tn)]) X T ?k6 ?k7 ?k8 ?k9 ?kB ?_ ?c5 ?c2 ?c3 ?c4; (case k6 => k_is); (case k7 => k_is); (case k8 => simp only [recursionLimit]; omega); (case k9 => (refine' kp_binds ?kx ?ke; (case kx => k_in); (case ke => exact fun _ => rfl))); (case kB => exact locs rfl); (case c2 => exact rfl); (case c3 => exact rfl); (case c4 => exact rfl); (case c5 => decide))
  intro L' h' F' N'
  with_reducible change wpAny _ _ _ _ _ _
  k_fold
  k_steps
  rename Fr _ _ _ _ => F3
  rename News _ _ _ _ => N3
  dsimp only at F3
  generalize (_ + 1 : Nat) = tb at F3
  have up3 := F3.keep
  refine held (for_list (σ := (Int × Tok) × Bool) (l := lr) (vs := refs) (fun _ => [])
    (fun c => [("best_match", .int c.1.1 c.1.2), ("allowance", .bool c.2)]) ["line", "m"]
    (fun i c => (c.1.1, c.2) = scan nm (rs.take i))
    ((-1, tb), true) hh F3 N3 (.inl ⟨_, hlr, rfl, n, rfl⟩) ?hk (by rw [List.take_zero]; rfl) ?he ?turn ?done)
  case hk => exact List.forall_mem_cons.mpr ⟨rfl, List.forall_mem_cons.mpr ⟨rfl, List.forall_mem_nil _⟩⟩
  case he =>
    intro Q' q
    k_steps
    exact q _
  case turn =>
    rintro i v ⟨⟨best, tbb⟩, al⟩ u h4 tk4 I oI hv hP F4 N4 hI
    dsimp only at hP F4 N4 hI
    clear F3 N3
    obtain ⟨r, a, hri, rfl, hrule⟩ := hrs.get hv
    obtain ⟨d, f, fd, sl, es, nn, ha, hda, g1, g2, hlam⟩ := hrule.at_
    with_reducible change wpAny _ _ _ _ _ _
    k_fold
    k_steps
    rename Fr _ _ _ _ => F5
    rename News _ _ _ _ => N5
    clear F4 N4
    refine held (fmethod (F5.keep _ _ ha) fx_applies (F5.keep _ _ hda) g1 rfl fun tk5 => ?_)
    k_steps
    have hf : FnAt f s.heap := by
      obtain ⟨pm, c', ctv, cp, cm, op, om, tp, tm, q, _⟩ := hlam.at_
      exact ⟨_, _, _, _, q⟩
    refine held (callWith_F (fnAt_keep hf F5.keep) ?_)
    k_steps
    refine held ⟨fnAt_keep hf F5.keep, ?_⟩
    refine wpAny_mono (lam_call (Amb.keep ⟨X, p, loose, mean, mg, mb, T⟩ F5.keep) (hlam.keep F5.keep) hh (by show A.depth + 1 < 890; omega) (hz r (List.mem_of_getElem? hri)) hz2 fun h6 tk6 t6 hk6 => ?_) (fun _ _ x => x) (fun _ _ x => x.elim)
    have F6 := fr_keep F5 hk6
    have N6 := news_keep N5 hk6
    clear F5 N5
    have eS : scan nm (rs.take (i + 1)) = stepA nm (best, al) r := by
      have e1 : rs.take (i + 1) = rs.take i ++ [r] := by rw [List.take_add_one, hri]; rfl
      rw [e1, scan_snoc, hP]
    k_steps
    · rename (best < _) => c1
      rename (_ ≠ (0 : Int)) => c0
      rename Fr _ _ _ _ => F7
      refine held (fget (F7.keep _ _ ha) fx_allow (F7.keep _ _ hda) g2 rfl fun tk7 => ?_)
      k_steps
      rename Fr _ _ _ _ => F8
      rename News _ _ _ _ => N8
      change ForEnd _ _ _ _ _ _ _ _ _ _ _
      refine for_end ((app r.1 r.2 nm, t6), (r.2.fmod 2 == 1)) F8 N8 (List.forall_mem_nil _) (List.forall_mem_cons.mpr ⟨rfl, List.forall_mem_cons.mpr ⟨rfl, List.forall_mem_nil _⟩⟩) ?hr ?hp
      case hr => walk_at "mine same"
      case hp => dsimp only; rw [eS]; unfold stepA; rw [if_neg c0, if_pos c1]
    · rename (¬ best < _) => c1
      rename (_ ≠ (0 : Int)) => c0
      rename (al = true) => c2
      rename Fr _ _ _ _ => F8
      rename News _ _ _ _ => N8
      change ForEnd _ _ _ _ _ _ _ _ _ _ _
      refine for_end ((best, tbb), al) F8 N8 (List.forall_mem_nil _) (List.forall_mem_cons.mpr ⟨rfl, List.forall_mem_cons.mpr ⟨rfl, List.forall_mem_nil _⟩⟩) ?hr ?hp
      case hr => walk_at "mine same"
      case hp => dsimp only; rw [eS]; unfold stepA; rw [if_neg c0, if_neg c1, if_neg (by rw [c2]; simp)]
    · rename (¬ best < _) => c1
      rename (_ ≠ (0 : Int)) => c0
      rename (al = false) => c2
      rename (_ = best) => c3
      rename Fr _ _ _ _ => F7
      refine held (fget (F7.keep _ _ ha) fx_allow (F7.keep _ _ hda) g2 rfl fun tk7 => ?_)
      k_steps
      rename Fr _ _ _ _ => F8
      rename News _ _ _ _ => N8
      change ForEnd _ _ _ _ _ _ _ _ _ _ _
      refine for_end ((best, tbb), (r.2.fmod 2 == 1)) F8 N8 (List.forall_mem_nil _) (List.forall_mem_cons.mpr ⟨rfl, List.forall_mem_cons.mpr ⟨rfl, List.forall_mem_nil _⟩⟩) ?hr ?hp
      case hr => walk_at "mine same"
      case hp => dsimp only; rw [eS]; unfold stepA; rw [if_neg c0, if_neg c1, if_pos ⟨c3, c2⟩]
    · rename (¬ best < _) => c1
      rename (_ ≠ (0 : Int)) => c0
      rename (_ ≠ best) => c3
      rename Fr _ _ _ _ => F8
      rename News _ _ _ _ => N8
      change ForEnd _ _ _ _ _ _ _ _ _ _ _
      refine for_end ((best, tbb), al) F8 N8 (List.forall_mem_nil _) (List.forall_mem_cons.mpr ⟨rfl, List.forall_mem_cons.mpr ⟨rfl, List.forall_mem_nil _⟩⟩) ?hr ?hp
      case hr => walk_at "mine same"
      case hp => dsimp only; rw [eS]; unfold stepA; rw [if_neg c0, if_neg c1, if_neg fun q => c3 q.1]
    · rename (_ = (0 : Int)) => c0
      rename Fr _ _ _ _ => F8
      rename News _ _ _ _ => N8
      change ForEnd _ _ _ _ _ _ _ _ _ _ _
      refine for_end ((best, tbb), al) F8 N8 (List.forall_mem_nil _) (List.forall_mem_cons.mpr ⟨rfl, List.forall_mem_cons.mpr ⟨rfl, List.forall_mem_nil _⟩⟩) ?hr ?hp
      case hr => walk_at "mine same"
      case hp => dsimp only; rw [eS]; unfold stepA; rw [if_pos c0]
  case done =>
    rintro ⟨⟨best, tbb⟩, al⟩ u h4 tk4 hP F4 N4
    dsimp only at hP F4 N4
    k_steps
    have e1 : al = says nm rs := by
      rw [RulesAt.len hrs, List.take_length] at hP
      unfold says
      rw [← hP]
    rw [← e1] at hQ
    exact hQ _ _ F4.keep
end

end Mine
namespace Mine
theorem offP15 : True ∧ True := by
  have h : True ∧ True := by first | (walk1; done) | exact ⟨trivial, trivial⟩
  w_top off
  exact h
section filter
theorem fl_owner : Manifest.owners.lookup (String.ofList ['r', 'e', 't', 'l', 'i', 'f'].reverse) = some Manifest.sig_filter := by kernel_rfl
theorem fl_next : Slot "filter" "__next__" "filter.__next__" :=
  .of (owner := "filter") (n := "__next__") (by rw [typeLookup_type, builtinLookup_eq_fast]; kernel_rfl) (by decide +kernel) (by decide +kernel) (by decide +kernel)
    (by first | exact .inl (by decide +kernel) | exact .inr (by decide +kernel)) (by rw [isSubtype_type]; kernel_rfl)
theorem fl_nextE : entryFor table "filter.__next__" = some Builtin.«filter.__next__» := entryFor_of_tree (by kernel_rfl)
theorem fl_nextA (a : Value) : argsOk "filter.__next__" ⟨[a], []⟩ := by
  unfold argsOk; rw [signature?_of (id := "filter.__next__") (n := ['_', '_', 't', 'x', 'e', 'n', '_', '_']) (o := ['r', 'e', 't', 'l', 'i', 'f']) (by kernel_rfl) fl_owner]; kernel_rfl
theorem fl_iter : Slot "filter" "__iter__" "filter.__iter__" :=
  .of (owner := "filter") (n := "__iter__") (by rw [typeLookup_type, builtinLookup_eq_fast]; kernel_rfl) (by decide +kernel) (by decide +kernel) (by decide +kernel)
    (by first | exact .inl (by decide +kernel) | exact .inr (by decide +kernel)) (by rw [isSubtype_type]; kernel_rfl)
theorem fl_iterA (a : Value) : argsOk "filter.__iter__" ⟨[a], []⟩ := by
  unfold argsOk; rw [signature?_of (id := "filter.__iter__") (n := ['_', '_', 'r', 'e', 't', 'i', '_', '_']) (o := ['r', 'e', 't', 'l', 'i', 'f']) (by kernel_rfl) fl_owner]; kernel_rfl
theorem fl_iterE : entryFor table "filter.__iter__" = some Builtin.«dict_keyiterator.__iter__» :=
  entryFor_alias (id' := "dict_keyiterator.__iter__") (by kernel_rfl) (by first | rfl | decide +kernel | (unfold String.splitOn; simp +decide [String.splitOnAux])) (by decide +kernel) (by kernel_rfl)
theorem fl_mro : mroOf (.type "filter") = pure [.type "filter", .type "object"] := by rw [mroOf_type]; kernel_rfl
theorem fl_lookup_new : typeLookup (.type "filter") "__new__" = pure (some (.builtin "filter.__new__")) := by rw [typeLookup_type, builtinLookup_eq_fast]; kernel_rfl
theorem fl_made : Bind.madeBy (.type "filter") = pure (some "filter.__new__") := madeBy_type fl_mro fl_lookup_new (by decide +kernel)
theorem fl_init : Slot "filter" "__init__" "object.__init__" :=
  .of (owner := "object") (n := "__init__") (by rw [typeLookup_type, builtinLookup_eq_fast]; kernel_rfl) (by decide +kernel) (by decide +kernel) (by decide +kernel)
    (by first | exact .inl (by decide +kernel) | exact .inr (by decide +kernel)) (by rw [isSubtype_type]; kernel_rfl)
theorem fl_called : TypeCalled "filter" "filter.__new__" "object.__init__" :=
  ⟨by decide +kernel, by decide +kernel, ⟨_, _, fl_mro⟩, fl_made, by decide +kernel, by rw [isSubtype_type]; kernel_rfl, fl_init⟩
theorem fl_typeCall (a b : Value) : checkTypeCall "filter" ⟨[a, b], []⟩ = pure () := by kernel_rfl
theorem fl_newCall (a b : Value) : checkBuiltinCall "filter.__new__" ⟨[.type "filter", a, b], []⟩ = pure () := by kernel_rfl
theorem fl_newE : entryFor table "filter.__new__" = some Builtin.«filter.__new__» := entryFor_of_tree (by kernel_rfl)
theorem fl_plain : plainId "filter.__new__" = true := by decide +kernel
theorem fl_sub : isSubtype (.type "filter") (.type "filter") = pure true := by rw [isSubtype_type]; kernel_rfl
theorem fl_initE : entryFor table "object.__init__" = some Builtin.«object.__init__» := entryFor_of_tree (by kernel_rfl)
theorem fl_initA (a b c : Value) : argsOk "object.__init__" ⟨[a, b, c], []⟩ := by unfold argsOk; kernel_rfl
theorem fl_nolen : typeLookup (.type "filter") "__len__" = pure none := by rw [typeLookup_type, builtinLookup_eq_fast]; kernel_rfl
theorem fl_nohint : typeLookup (.type "filter") "__length_hint__" = pure none := by rw [typeLookup_type, builtinLookup_eq_fast]; kernel_rfl

abbrev filtObj (v : Value) (I : Addr) : Obj := { cls := .type "filter", data := .fields #[v, .ref I] }
abbrev litObj (l : Addr) (i : Nat) : Obj := { cls := .type "list_iterator", data := .fields #[.ref l, .int i 0] }

theorem fl_newClass (a b : Value) : Builtin.SmallTypes.newClass "filter" ⟨[.type "filter", a, b], []⟩ = pure (.type "filter", [a, b]) := by
  unfold Builtin.SmallTypes.newClass
  simp only [isType, fl_sub, pure_bind, Bool.not_true, Bool.false_eq_true, if_false]

section
variable {prog : Program} {w : World} {A : Around} {E : Value → Shared → Prop} {s : Shared}

theorem fl_code_new {v : Value} {l : Addr} {items : Array Value} {Q₁ : Value → Shared → Prop} (hl : s.heap.IsList l items)
    (h : Q₁ (.ref (s.heap.objs.size + 1)) { s with heap := (s.heap.push (litObj l 0)).push (filtObj v s.heap.objs.size) }) :
    codeAny (model prog w) A (.call (.builtin "filter.__new__") ⟨[.type "filter", v, .ref l], []⟩) (wants Q₁ E) s := by
  refine codeAny_of_tree ?_
  show wpAny _ A.in1 (do checkBuiltinCall "filter.__new__" ⟨[.type "filter", v, .ref l], []⟩; again (.builtin "filter.__new__" ⟨[.type "filter", v, .ref l], []⟩)) _ _ s
  refine wpAny_bind (wpAny_of_eq (fl_newCall _ _) (wpAny_pure ⟨plainId_quiet fl_plain _, codeAny_builtin fl_newE ?_⟩))
  rw [Around.under_plainId fl_plain _]
  unfold Builtin.«filter.__new__»
  refine wpAny_bind (wpAny_of_eq (fl_newClass _ _) ?_)
  try dsimp only
  refine wpAny_bind (wpAny_of_eq (a := ()) (by first | rfl | kernel_rfl) ?_)
  refine wpAny_bind (wpAny_of_eq (a := ()) (by first | rfl | kernel_rfl) ?_)
  try dsimp only
  refine wpAny_bind (wpAny_pyIter_list hl ?_)
  refine wpAny_bind ?_
  show wpAny _ _ (newObj (.type "filter") (.fields #[v, .ref s.heap.objs.size])) _ _ _
  refine wpAny_newObj_type ?_ (by size_fits)
  refine wpAny_pure ?_
  have e : (s.heap.push (litObj l 0)).objs.size = s.heap.objs.size + 1 := Heap.size_push ..
  have h' := h
  rw [← e] at h'
  exact h'

theorem fl_call {v : Value} {l : Addr} {items : Array Value} {Q : Value → Shared → Prop} (hl : s.heap.IsList l items)
    (h : Q (.ref (s.heap.objs.size + 1)) { s with heap := (s.heap.push (litObj l 0)).push (filtObj v s.heap.objs.size) }) :
    wpAny (model prog w) A (call (.type "filter") [v, .ref l]) Q E s := by
  refine callType_codes (Q₁ := fun obj s₁ => obj = .ref (s.heap.objs.size + 1) ∧ s₁ = { s with heap := (s.heap.push (litObj l 0)).push (filtObj v s.heap.objs.size) }) fl_called (fl_typeCall _ _) fl_initE (fl_code_new hl ⟨rfl, rfl⟩) fun obj s₁ h₁ => ?_
  obtain ⟨rfl, rfl⟩ := h₁
  have hS : ((s.heap.push (litObj l 0)).push (filtObj v s.heap.objs.size)).get? (s.heap.objs.size + 1) = some (filtObj v s.heap.objs.size) := by
    have e : (s.heap.push (litObj l 0)).objs.size = s.heap.objs.size + 1 := Heap.size_push ..
    rw [← e]; exact Heap.get?_push_size _ rfl
  refine ⟨⟨_, hS, rfl⟩, fl_initA _ _ _, ?_⟩
  have hT : Shared.TypeIs { s with heap := (s.heap.push (litObj l 0)).push (filtObj v s.heap.objs.size) } (.ref (s.heap.objs.size + 1)) "filter" := ⟨_, hS, rfl⟩
  unfold Builtin.«object.__init__»
  have m1 := fl_made
  have m2 := fl_init.lookup
  repeat (first | (with_reducible refine wpAny_of_eq fl_made ?_) | (with_reducible refine wpAny_of_eq fl_init.lookup ?_) | wp_step)
  exact ⟨rfl, h⟩

/-- an emptied filter: the list under it has no item left -/
theorem fl_done {a I l : Addr} {v : Value} {Q : Option Value → Shared → Prop} (hh : A.handled = none) (ha : s.heap.get? a = some (filtObj v I)) (hI : s.heap.get? I = some (litObj l 0)) (hl : s.heap.IsList l #[])
    (hQ : ∀ h', Heap.ExtBut I s.heap h' → Q none { s with heap := h' }) : wpAny (model prog w) A (pyNext (.ref a)) Q E s := by
  obtain ⟨ol, hol, _, nl, hdl⟩ := hl
  have hT : s.TypeIs (.ref a) "filter" := ⟨_, ha, rfl⟩
  have hTI : s.TypeIs (.ref I) "list_iterator" := ⟨_, hI, rfl⟩
  unfold pyNext
  refine wpAny_bind (wpAny_attempt (wpAny_callSpecial?_slot (name := Str.ofString "__next__") hT fl_next (wpAny_call_entry fl_next hT fl_nextE ?_ (fl_nextA _))))
  unfold Builtin.«filter.__next__»
  refine wpAny_bind (wpAny_of_eq (a := (Value.ref a, [])) rfl ?_)
  try dsimp only
  refine wpAny_bind (wpAny_field ha rfl (x := v) rfl ?_)
  refine wpAny_bind (wpAny_field ha rfl (x := .ref I) rfl ?_)
  refine wpAny_bind (wpAny_callSpecial?_slot (name := Str.ofString "__next__") hTI slot_listiter_next (wpAny_call_entry slot_listiter_next hTI entry_listiter_next ?_ (args_listiter_next _)))
  show wpAny _ _ (field (.ref I) 0 >>= _) _ _ s
  refine wpAny_bind (wpAny_field hI rfl (x := .ref l) rfl ?_)
  show wpAny _ _ (if (Value.ref l == Value.none) = true then _ else _) _ _ s
  rw [if_neg (show ¬ ((Value.ref l == Value.none) = true) from Bool.false_ne_true)]
  show wpAny _ _ (field (.ref I) 1 >>= _) _ _ s
  refine wpAny_bind (wpAny_field hI rfl (x := .int (0 : Nat) 0) rfl ?_)
  show wpAny _ _ (seqItems? (.ref l) >>= _) _ _ s
  refine wpAny_bind (wpAny_seqItems hol hdl ?_)
  simp only [Int.toNat_natCast, Array.getElem?_empty]
  refine wpAny_bind (wpAny_rule (wpAny_bind (wpAny_setField hI rfl (by simp) ?_)))
  show wpAny _ _ (newExc (.type "StopIteration") [] >>= _) _ _ _
  refine wpAny_bind ?_
  simp only [newExc, newTuple]
  refine wpAny_bind (wpAny_newObj_type ?_ (by size_fits))
  refine wpAny_bind (m := firstArgMember _ _) (wpAny_of_eq (a := Value.none) (by first | rfl | (simp only [firstArgMember]; rfl)) ?_)
  refine wpAny_newObj_type ?_ (by size_fits)
  simp only [raiseNew]
  refine wpAny_bind (wpAny_handled ?_)
  rw [show A.in1.in1.handled = none from hh]
  refine wpAny_bind (wpAny_pure (wpAny_throw ?_))
  refine wpAny_bind (wpAny_isInstance (T := "StopIteration") (b := true) ⟨_, Heap.get?_push_size _ rfl, rfl⟩ isSubtype_stop ?_)
  exact wpAny_pure (hQ _ (((Heap.SameBut.update ..).extBut.push _).push _))

theorem fl_self {a I : Addr} {v : Value} {Q : Value → Shared → Prop} (ha : s.heap.get? a = some (filtObj v I)) (h : Q (.ref a) s) : wpAny (model prog w) A (pyIter (.ref a)) Q E s := by
  have hT : s.TypeIs (.ref a) "filter" := ⟨_, ha, rfl⟩
  refine wpAny_pyIter_slot hT fl_iter (wpAny_call_entry fl_iter hT fl_iterE ?_ (fl_iterA _))
  show wpAny _ _ (ret (.ref a)) _ _ s
  exact wpAny_pure ⟨_, rfl, "filter", _, hT, fl_next.lookup, h⟩
end
end filter

end Mine
namespace Mine
theorem offP15b : True ∧ True := by
  have h : True ∧ True := by first | (walk1; done) | exact ⟨trivial, trivial⟩
  w_top off
  exact h
section filter2
theorem fl_walks {prog : Program} {w : World} {A : Around} (hh : A.handled = none) (a I l : Addr) (v : Value) (h1 : a ≠ I) (h2 : l ≠ I) :
    Walks prog w A a [a, I, l] [I] 0 (fun _ _ => False) (fun _ h => h.get? a = some (filtObj v I) ∧ h.get? I = some (litObj l 0) ∧ h.IsList l #[]) where
  sub := fun b hb => by simp at hb; simp [hb]
  frame := fun _ _ _ st hk => ⟨hk a (by simp) _ st.1, hk I (by simp) _ st.2.1, st.2.2.at fun o e => hk l (by simp) o e⟩
  item := fun i s Q E hi => absurd hi (Nat.not_lt_zero _)
  done := fun s Q E st hQ => fl_done hh st.1 st.2.1 st.2.2 fun h' he => hQ h' s.toks fun b o hb e => he b o (fun q => hb (by simp [q])) e
  self := fun _ _ _ _ st hQ => fl_self st.1 hQ

section
variable {prog : Program} {w : World} {A : Around} {E : Value → Shared → Prop} {s : Shared}
/-- list() of an emptied filter is a new empty list -/
theorem fl_list {a I l : Addr} {v : Value} {Q : Value → Shared → Prop} (hh : A.handled = none) (ha : s.heap.get? a = some (filtObj v I)) (hI : s.heap.get? I = some (litObj l 0)) (hl : s.heap.IsList l #[]) (h1 : a ≠ I) (h2 : l ≠ I)
    (hQ : ∀ h' tk c, h'.get? s.heap.objs.size = some (listOf #[] c) → (∀ b o, b ≠ I → s.heap.get? b = some o → h'.get? b = some o) → Q (.ref s.heap.objs.size) { s with heap := h', toks := tk }) :
    wpAny (model prog w) A (call (.type "list") [.ref a]) Q E s := by
  have hla : a < s.heap.objs.size := Heap.lt_size ha
  have hlI : I < s.heap.objs.size := Heap.lt_size hI
  have hll : l < s.heap.objs.size := by obtain ⟨o, ho, _⟩ := id hl; exact Heap.lt_size ho
  refine callType_codes (Q₁ := fun obj s₁ => obj = .ref s.heap.objs.size ∧ s₁ = { s with heap := s.heap.push { cls := .type "list", data := .seq #[] } }) F.called_list (F.typeCall_list_1 _) F.entry_list_init
    (code_list_new _ ⟨rfl, rfl⟩) fun obj s₁ h₁ => ?_
  obtain ⟨rfl, rfl⟩ := h₁
  have hS : (s.heap.push { cls := .type "list", data := .seq #[] }).get? s.heap.objs.size = some { cls := .type "list", data := .seq #[] } := Heap.get?_push_size _ rfl
  refine ⟨⟨_, hS, rfl⟩, F.args_list_init_2 _ _, ?_⟩
  have hSf : s.heap.objs.size ∉ [a, I, l] := by
    simp only [List.mem_cons, List.not_mem_nil, or_false, not_or]
    exact ⟨Nat.ne_of_gt hla, Nat.ne_of_gt hlI, Nat.ne_of_gt hll⟩
  generalize hSz : s.heap.objs.size = S at hS hSf hla hlI hll hQ ⊢
  have hSa : S ≠ a := Nat.ne_of_gt hla
  show wpAny _ A.in1.in1 (do let old ← Builtin.List.listItems (.ref S); Builtin.List.listUpdate (.ref S) (fun _ => #[]); letGo old.toList.reverse; Builtin.List.listExtendWith (.ref S) (.ref a) .none) _ _ _
  refine wpAny_bind ?_
  unfold Builtin.List.listItems
  refine wpAny_bind (wpAny_seqItems hS rfl (wpAny_pure ?_))
  show wpAny _ A.in1.in1 (updateSeq S (fun _ => #[]) >>= fun _ => letGo (#[] : Array Value).toList.reverse >>= fun _ => Builtin.List.listExtendWith (.ref S) (.ref a) .none) _ _ _
  refine wpAny_bind (wpAny_updateSeq hS rfl ?_)
  have hS₂ := Heap.get?_update_self (Obj.mapSeq (fun _ => (#[] : Array Value))) hS rfl
  refine wpAny_bind (wpAny_letGo ?_)
  have oth : ∀ b o, b ≠ S → s.heap.get? b = some o → ((s.heap.push { cls := .type "list", data := .seq #[] }).update S (Obj.mapSeq (fun _ => (#[] : Array Value)))).get? b = some o :=
    fun b o hb e => (Heap.get?_update_other _ _ (Ne.symm hb)).trans (Heap.get?_push_of_some _ e)
  generalize hh2 : (s.heap.push { cls := .type "list", data := .seq #[] }).update S (Obj.mapSeq (fun _ => (#[] : Array Value))) = h2' at hS₂ oth ⊢
  have st2 : h2'.get? a = some (filtObj v I) ∧ h2'.get? I = some (litObj l 0) ∧ h2'.IsList l #[] := ⟨oth _ _ (Ne.symm hSa) ha, oth _ _ (Nat.ne_of_lt hlI) hI, hl.at fun o e => oth _ _ (Nat.ne_of_lt hll) e⟩
  unfold Builtin.List.listExtendWith
  have hT : Shared.TypeIs { s with heap := h2' } (.ref a) "filter" := ⟨_, st2.1, rfl⟩
  refine wpAny_bind (wpAny_typeOf hT ?_)
  have q1 : Builtin.List.listSameRef (.ref S) (.ref a) = false := by simp [Builtin.List.listSameRef, hSa]
  have q2 : (Value.type "filter" == Value.type "list") = false := by decide
  have q3 : (Value.type "filter" == Value.type "tuple") = false := by decide
  simp only [q1, q2, q3, Bool.or_false, Bool.false_eq_true, if_false]
  refine wpAny_bind (fl_self st2.1 ?_)
  refine wpAny_bind (wpAny_holding ?_)
  unfold Builtin.List.listLengthHint
  refine wpAny_bind (wpAny_specialOf hT fl_nolen ?_)
  show wpAny _ A.in1.in1 (specialOf (Value.ref a) (Str.ofString "__length_hint__") >>= _) _ _ _
  refine wpAny_bind (wpAny_specialOf hT fl_nohint ?_)
  refine wpAny_pure ?_
  show wpAny _ A.in1.in1 (rule "list.extend.makes-room" >>= fun _ => Builtin.List.listTouch (.ref S) >>= fun _ =>
    again (.builtin "list.extend.loop" ⟨[.ref S, .ref a, .none], []⟩)) _ _ _
  refine wpAny_bind (wpAny_rule ?_)
  refine wpAny_bind ?_
  show wpAny _ A.in1.in1 (updateSeq S (·.push .none) >>= fun _ => updateSeq S (·.pop)) _ _ _
  refine wpAny_bind (wpAny_updateSeq hS₂ rfl ?_)
  have hS₃ := Heap.get?_update_self (Obj.mapSeq (·.push Value.none)) hS₂ rfl
  refine wpAny_updateSeq (hz := by seq_fits) hS₃ rfl ?_
  have hS₄ := Heap.get?_update_self (Obj.mapSeq (·.pop)) hS₃ rfl
  have oth2 : ∀ b o, b ≠ S → h2'.get? b = some o → ((h2'.update S (Obj.mapSeq (·.push Value.none))).update S (Obj.mapSeq (·.pop))).get? b = some o :=
    fun b o hb e => (Heap.get?_update_other _ _ (Ne.symm hb)).trans ((Heap.get?_update_other _ _ (Ne.symm hb)).trans e)
  refine wpAny_pure ⟨plainId_quiet F.plain_extend_loop _, codeAny_extend_loopS (fl_walks (A := A.in1.in1) hh a I l v h1 h2).toS (by rw [sizeLine_eq]; omega) S hSf .none 0 0 _ #[] _ rfl (Nat.zero_le _)
    ⟨oth2 _ _ (Ne.symm hSa) st2.1, oth2 _ _ (Nat.ne_of_lt hlI) st2.2.1, st2.2.2.at fun o e => oth2 _ _ (Nat.ne_of_lt hll) e⟩ hS₄ (ItemsOf.nil _) fun s' acc' c' hm hS' hacc => ?_⟩
  obtain ⟨h', g', d', tk', os'⟩ := s'
  have eg : g' = s.gens := hm.gens
  have ed : d' = s.drawn := hm.drawn
  have eo : os' = s.os := hm.os
  subst eg; subst ed; subst eo
  have ea : acc' = #[] := Array.eq_empty_of_size_eq_zero hacc.1
  subst ea
  refine ⟨rfl, hQ h' tk' c' hS' fun b o hb e => hm.heap b o ?_ (oth2 b o (Nat.ne_of_lt (hSz ▸ Heap.lt_size e)) (oth b o (Nat.ne_of_lt (hSz ▸ Heap.lt_size e)) e))⟩
  simp only [List.mem_cons, List.not_mem_nil, or_false, not_or]
  exact ⟨Nat.ne_of_lt (hSz ▸ Heap.lt_size e), hb⟩
end
end filter2

end Mine
namespace Mine
theorem offP15c : True ∧ True := by
  have h : True ∧ True := by first | (walk1; done) | exact ⟨trivial, trivial⟩
  w_top off
  exact h
section setattr
open Builtin Builtin.ObjectAttr
theorem st_ga : Slot "set" "__getattribute__" "set.__getattribute__" :=
  .of (owner := "set") (n := "__getattribute__") (by rw [typeLookup_type, builtinLookup_eq_fast]; kernel_rfl) (by decide +kernel) (by decide +kernel) (by decide +kernel)
    (by first | exact .inl (by decide +kernel) | exact .inr (by decide +kernel)) (by rw [isSubtype_type]; kernel_rfl)
theorem st_gaE : entryFor table "set.__getattribute__" = some Builtin.«object.__getattribute__» :=
  entryFor_alias (id' := "object.__getattribute__") (by kernel_rfl) (by first | rfl | decide +kernel) (by decide +kernel) (by kernel_rfl)
theorem st_gaA (a b : Value) : argsOk "set.__getattribute__" ⟨[a, b], []⟩ := by unfold argsOk; kernel_rfl
theorem st_lk : typeLookup (.type "set") "__contains__" = pure (some (.builtin "set.__contains__")) := by rw [typeLookup_type, builtinLookup_eq_fast]; kernel_rfl
theorem st_ty : typeOf (.builtin "set.__contains__") = pure (.type "method_descriptor") := by show builtinType _ = _; rw [builtinType_eq_fast]; kernel_rfl
theorem md_get : Slot "method_descriptor" "__get__" "method_descriptor.__get__" :=
  .of (owner := "method_descriptor") (n := "__get__") (by rw [typeLookup_type, builtinLookup_eq_fast]; kernel_rfl) (by decide +kernel) (by decide +kernel) (by decide +kernel)
    (by first | exact .inl (by decide +kernel) | exact .inr (by decide +kernel)) (by rw [isSubtype_type]; kernel_rfl)
theorem md_set : typeLookup (.type "method_descriptor") "__set__" = pure none := by rw [typeLookup_type, builtinLookup_eq_fast]; kernel_rfl
theorem md_del : typeLookup (.type "method_descriptor") "__delete__" = pure none := by rw [typeLookup_type, builtinLookup_eq_fast]; kernel_rfl
theorem md_getE : entryFor table "method_descriptor.__get__" = some Builtin.«method_descriptor.__get__» := entryFor_of_tree (by kernel_rfl)
theorem md_getA (a b c : Value) : argsOk "method_descriptor.__get__" ⟨[a, b, c], []⟩ := by unfold argsOk; kernel_rfl
theorem sc_owner : (kfb_private% "ownerAndName") "set.__contains__" = ("set", "__contains__") := by first | decide +kernel | kernel_rfl
theorem sc_told : Manifest.toldItsClass.contains "set.__contains__" = false := by decide +kernel
theorem sc_cut : (".".intercalate ("set.__contains__".cutAt '.').dropLast) = "set" := by decide +kernel
theorem st_sub : isSubtype (.type "set") (.type "set") = pure true := by rw [isSubtype_type]; kernel_rfl

abbrev bndObj (S : Addr) : Obj := { cls := .type "builtin_function_or_method", data := .fields #[.builtin "set.__contains__", .ref S] }
section
variable {prog : Program} {w : World} {A : Around} {E : Value → Shared → Prop} {s : Shared}
theorem md_run {S : Addr} {P : Fin → Shared → Prop} (hT : s.TypeIs (.ref S) "set") (h : P (.done (.ret (.ref s.heap.objs.size))) { s with heap := s.heap.push (bndObj S) }) :
    wpAny (model prog w) A (Builtin.«method_descriptor.__get__» ⟨[.builtin "set.__contains__", .ref S, .type "set"], []⟩) P E s := by
  unfold Builtin.«method_descriptor.__get__»
  refine wpAny_bind (wpAny_of_eq (a := (.builtin "set.__contains__", some (.ref S), some (.type "set"))) (by first | rfl | kernel_rfl) ?_)
  dsimp only
  rw [sc_told]
  have h1 := sc_owner
  have h2 := st_sub
  repeat wp_step
  rw [sc_cut]
  refine wpAny_of_eq st_sub ?_
  repeat wp_step
  exact h

/-- the bound method __contains__ of a set, read as a value -/
theorem st_contains {S : Addr} {o : Obj} {Q : Value → Shared → Prop} {ex : Bool} (hS : s.heap.get? S = some o) (hc : o.cls = .type "set") (hdi : o.dict = none) (hda : ∃ es n t, o.data = .set es n t)
    (h : ∀ tk, Q (.ref s.heap.objs.size) { s with heap := s.heap.push (bndObj S), toks := tk }) : wpAny (model prog w) A (getAttr (.ref S) "__contains__" ex) Q E s := by
  have hT : ∀ tk, Shared.TypeIs { s with toks := tk } (.ref S) "set" := fun tk => ⟨_, hS, hc⟩
  obtain ⟨oc, od, odt, osl⟩ := o
  obtain ⟨es, n, t, hda⟩ := hda
  dsimp only at hc hdi hda
  subst hc hdi hda
  unfold getAttr getAttrBy
  refine wpAny_bind (wpAny_mkText (wpAny_holding ?_))
  have g1 := st_ga.lookup
  have g2 : typeLookup (.type "set") (Str.ofString "__contains__") = pure (some (.builtin "set.__contains__")) := st_lk
  repeat wp_step
  rw [if_neg (by simp [onTheHeap])]
  unfold boundAndCalled
  rw [st_ga.bind]
  refine wpAny_bind (wpAny_pure (wpAny_call ?_))
  refine codeAny_call_builtin st_ga.plain st_gaE (st_ga.check _ _ _ _ _ _ _ _ (hT _) (st_gaA _ _) ?_)
  unfold Builtin.«object.__getattribute__»
  have g3 := st_ty
  have g4 := md_get.lookup
  have g5 := md_set
  have g6 := md_del
  repeat wp_step
  have hTm : Shared.TypeIs { s with toks := s.toks + 1 } (.builtin "set.__contains__") "method_descriptor" := st_ty
  refine codeAny_call_builtin md_get.plain md_getE (md_get.check _ _ _ _ _ _ _ _ hTm (md_getA _ _ _) (md_run (hT _) ?_))
  exact wpAny_pure (wpAny_pure (h _))
end
end setattr

end Mine
namespace Mine
theorem offP15d : True ∧ True := by
  have h : True ∧ True := by first | (walk1; done) | exact ⟨trivial, trivial⟩
  w_top off
  exact h
section
variable {prog : Program} {w : World} {A : Around} {E : Value → Shared → Prop} {s : Shared} {h₀ : Heap} {L : Addr} {m : Str → Option Value} {news : List (Addr × Obj)}
theorem st_contains_N {S : Addr} {o : Obj} {Q : Value → Shared → Prop} {ex : Bool} (F : Fr h₀ L s.heap m) (N : News h₀ L s.heap ((S, o) :: news)) (hc : o.cls = .type "set") (hdi : o.dict = none) (hda : ∃ es n t, o.data = .set es n t)
    (h : ∀ v h' tk, Fr h₀ L h' m → News h₀ L h' news → Q v { s with heap := h', toks := tk }) : wpAny (model prog w) A (getAttr (.ref S) (Str.ofString "__contains__") ex) Q E s :=
  st_contains (N _ (.head _)).1 hc hdi hda fun tk => h _ _ tk (F.push _) (news_keep (fun q hq => N q (.tail _ hq)) fun b o e => Heap.get?_push_of_some _ e)
theorem fl_call_N {v : Value} {l : Addr} {Q : Value → Shared → Prop} (F : Fr h₀ L s.heap m) (N : News h₀ L s.heap news) (hl : s.heap.IsList l #[])
    (h : ∀ a I h', Fr h₀ L h' m → News h₀ L h' ((a, filtObj v I) :: (I, litObj l 0) :: news) → l < I → (∀ q ∈ news, q.1 < I) → I < a → Q (.ref a) { s with heap := h' }) :
    wpAny (model prog w) A (call (.type "filter") [v, .ref l]) Q E s := by
  refine fl_call hl (h _ s.heap.objs.size _ ((F.push _).push _) ?_ ?_ (fun q hq => Heap.lt_size (N q hq).1) (Nat.lt_succ_self _))
  · have := (N.push F (litObj l 0)).push (F.push _) (filtObj v s.heap.objs.size)
    rwa [Heap.size_push] at this
  · obtain ⟨o, ho, _⟩ := hl; exact Heap.lt_size ho
theorem fl_list_N {a I l : Addr} {v : Value} {Q : Value → Shared → Prop} (hh : A.handled = none) (F : Fr h₀ L s.heap m) (N : News h₀ L s.heap ((a, filtObj v I) :: (I, litObj l 0) :: news)) (hl : s.heap.IsList l #[]) (h1 : I < a) (h2 : l < I) (h3 : ∀ q ∈ news, q.1 < I)
    (h : ∀ D h' tk c, Fr h₀ L h' m → News h₀ L h' ((D, listOf #[] c) :: news) → (∀ q ∈ news, q.1 < D) → Q (.ref D) { s with heap := h', toks := tk }) :
    wpAny (model prog w) A (call (.type "list") [.ref a]) Q E s := by
  have ma := N _ (.head _)
  have mI := N _ (.tail _ (.head _))
  refine fl_list hh ma.1 mI.1 hl (Nat.ne_of_gt h1) (Nat.ne_of_lt h2) fun h' tk c hD hk => h s.heap.objs.size h' tk c (fr_but F mI.2.2 mI.2.1 hk) (news_cons hD (Nat.ne_of_gt F.ns.lt) ?_ ?_) ?_
  · cases hq : h₀.get? s.heap.objs.size with
    | none => rfl
    | some o' => exact absurd (Heap.lt_size (F.keep _ _ hq)) (Nat.lt_irrefl _)
  · exact news_but (fun q hq => N q (.tail _ (.tail _ hq))) (fun q hq => Nat.ne_of_lt (h3 q hq)) hk
  · exact fun q hq => Heap.lt_size (N q (.tail _ (.tail _ hq))).1
theorem add_N {l b : Addr} {vs ws : List Value} {Q : Value → Shared → Prop} (F : Fr h₀ L s.heap m) (N : News h₀ L s.heap news) (hl : s.heap.IsList l vs.toArray) (hb : s.heap.IsList b ws.toArray) (hsz : vs.length + ws.length ≤ sizeLine)
    (h : ∀ D h', Fr h₀ L h' m → News h₀ L h' ((D, listOf (vs ++ ws).toArray 0) :: news) → (∀ q ∈ news, q.1 < D) → Q (.ref D) { s with heap := h' }) :
    wpAny (model prog w) A (binaryOp .Add (.ref l) (.ref b)) Q E s :=
  add_lists F N hl hb (fun h' F' N' => h _ h' F' N' fun q hq => Heap.lt_size (N q hq).1) hsz
end

end Mine
namespace Mine
theorem offP16 : True ∧ True := by
  have h : True ∧ True := by first | (walk1; done) | exact ⟨trivial, trivial⟩
  w_top off
  exact h
section
local macro_rules | `(tactic| k_inst) => `(tactic| (refine' InstAt_base ?F ?h1 ?h2; (case F => k_asm); (case h1 => assumption); (case h2 => assumption)))
local macro_rules | `(tactic| walk_at "call ref") => `(tactic| refine Held.out ?_)

local macro_rules | `(tactic| walk_at "call type:set cons nil") => `(tactic| refine Held.out ?_)
local macro_rules | `(tactic| walk_at "binaryOp Add ref ref") => `(tactic| refine Held.out ?_)
local macro_rules | `(tactic| walk_at "call type:list cons nil") => `(tactic| refine Held.out ?_)
local macro_rules | `(tactic| walk_at "call type:filter cons nil") => `(tactic| refine Held.out ?_)
local macro_rules | `(tactic| walk_at "getAttr ref") => `(tactic| ((with_reducible show wpAny _ _ (getAttr (Value.ref _) (PySem.Str.ofString "__contains__") _) _ _ _); refine Held.out ?_))

theorem merge_c : ∀ {w : World} {A : Around} {s : Shared} {e1 e2 : Addr} {rs1 rs2 : List (Str × Int)} {Q : Value → Shared → Prop}
   (X : Amb w s.heap) (hr1 : RecAt w s.heap e1 rs1) (hr2 : RecAt w s.heap e2 rs2) (hz : rs1.length + rs2.length < 1000) (hh : A.handled = none) (hd : A.depth < 860)
   (hQ : ∀ h' tk e, (∀ b o, s.heap.get? b = some o → h'.get? b = some o) → RecAt w h' e (rs1 ++ rs2) → Q (.ref e) { s with heap := h', toks := tk }),
   wpAny (model PySem.Challenge.rw_ny0178_01.row.prog w) A (call (.ref 63) [.ref e1, .ref e2]) Q (fun _ _ => False) s := by
  unfold Amb
  k_fill
  intro w A s e1 e2 rs1 rs2 Q X hr1 hr2 hz hh hd hQ
  obtain ⟨X, p, loose, mean, mg, mb, T⟩ := X
  obtain ⟨dx1, lu1, lr1, a1, a2, a3, a4, refs1, n1, nu1, he1, hdx1, hlu1, hlr1, hrs1⟩ := hr1.at_
  obtain ⟨dx2, lu2, lr2, b1, b2, b3, b4, refs2, n2, nu2, he2, hdx2, hlu2, hlr2, hrs2⟩ := hr2.at_
  refine wpAny_call ?_
  k_dflt (refine' enter_def (binds := [("e1", .ref e1), ("e2", .ref e2)]) X T ?k6 ?k7 ?k8 ?k9 ?kB ?_ ?c5 ?c2 ?c3 ?c4; (case k6 => k_is); (case k7 => k_is); (case k8 => simp only [recursionLimit]; omega); (case k9 => (refine' kp_binds ?kx ?ke; (case kx => k_in); (case ke => exact fun _ => rfl))); (case kB => exact locs rfl); (case c2 => exact rfl); (case c3 => exact rfl); (case c4 => exact rfl); (case c5 => decide))
  intro L' h' F' N'
  with_reducible change wpAny _ _ _ _ _ _
  k_fold
  k_steps
  refine held (entry_K F' N' X T (by show A.depth + 1 < 880; omega) fun x dx lu lr h2 tk2 t1 t2 t3 t4 F2 N2 l1 l2 l3 l4 => ?_)
  clear l1
  k_lt2 l2
  k_lt2 l3
  k_lt2 l4
  clear F' N'
  k_steps
  rename Fr _ _ _ _ => F3
  rename News _ _ _ _ => N3
  refine held (newSetList_N (vs := []) (ns := []) F3 N3 hh ⟨_, hlu2, rfl, nu2, rfl⟩ (by first | exact .nil | constructor | trivial) (by decide) fun h4 tk4 oS F4 N4 hso _ _ => ?_)
  obtain ⟨⟨so1, so2, so3⟩, es, ep, ts, so4, _⟩ := hso
  clear F3 N3
  k_steps
  refine held (st_contains_N F4 N4 so1 so2 ⟨es, ep, ts, so4⟩ fun vb h5 tk5 F5 N5 => ?_)
  clear F4 N4
  k_steps
  refine held (fl_call_N F5 N5 ⟨_, F5.keep _ _ hlu1, rfl, nu1, rfl⟩ fun aF aI h6 F6 N6 m1 m2 m3 => ?_)
  clear F5 N5
  k_steps
  refine held (fl_list_N hh F6 N6 ⟨_, F6.keep _ _ hlu1, rfl, nu1, rfl⟩ m3 m1 m2 fun lu' h7 tk7 c7 F7 N7 l7 => ?_)
  k_lt l7
  clear F6 N6 m1 m2 m3
  k_steps
  rename Fr _ _ _ _ => F8
  rename News _ _ _ _ => N8
  have hlen1 := RulesAt.len hrs1
  have hlen2 := RulesAt.len hrs2
  refine held (add_N (vs := refs1) (ws := refs2) F8 N8 ⟨_, F8.keep _ _ hlr1, rfl, n1, rfl⟩ ⟨_, F8.keep _ _ hlr2, rfl, n2, rfl⟩ (by rw [sizeLine_eq]; omega) fun lr' h9 F9 N9 l9 => ?_)
  k_lt l9
  clear F8 N8
  k_steps
  rename Fr _ _ _ _ => F10
  rename News _ _ _ _ => N10
  have u0 := N10 _ (by k_dflt (exact .head _))
  have u1 := N10 _ (by k_dflt (exact .tail _ (.head _)))
  have u4 := N10 _ (by k_dflt (exact .tail _ (.tail _ (.tail _ (.tail _ (.head _))))))
  have u5 := N10 _ (by k_dflt (exact .tail _ (.tail _ (.tail _ (.tail _ (.tail _ (.head _)))))))
  exact hQ _ _ _ F10.keep ⟨⟨_, _, _, _, _, _, _, _, _, _, u4.1, u5.1, u1.1, u0.1, RulesAt.append (RulesAt.keep F10.keep hrs1) (RulesAt.keep F10.keep hrs2)⟩⟩
end

end Mine
namespace Mine
theorem offP17 : True ∧ True := by
  have h : True ∧ True := by first | (walk1; done) | exact ⟨trivial, trivial⟩
  w_top off
  exact h
theorem hide101_sub {h h' : Heap} (hk : ∀ b o, h.get? b = some o → h'.get? b = some o) : ∀ b o, (hideAll h [101]).get? b = some o → (hideAll h' [101]).get? b = some o := fun b o e =>
  hideAll_get _ (hk b o (of_hideAll _ e)) fun hm => by rw [hideAll_none _ hm] at e; cases e
theorem hide101 {h : Heap} {b : Addr} {o : Obj} (e : h.get? b = some o) (hb : b ≠ 101) : (hideAll h [101]).get? b = some o := hideAll_get _ e fun hm => hb (List.mem_singleton.mp hm)
/-- the state behind the first rule made: the code table of _law_rule is full, from here on nothing old is changed -/
structure Full (w : World) (h : Heap) : Prop where
  amb : Amb w (hideAll h [101])
  code : CodeHd (hideAll h [101]) 105 101
  tab : ∃ c1 c2, h.get? 101 = some (tab101 c1 c2) ∧ (hideAll h [101]).CodeRec (.ref c2) lamQual
theorem Full.keep {w : World} {h h' : Heap} (X : Full w h) (hk : ∀ b o, h.get? b = some o → h'.get? b = some o) : Full w h' :=
  ⟨X.amb.keep (hide101_sub hk), X.code.keeps (hide101_sub hk), let ⟨c1, c2, a, b⟩ := X.tab; ⟨c1, c2, hk _ _ a, codeRec_keep b (hide101_sub hk)⟩⟩
theorem Full.all {w : World} {h : Heap} (X : Full w h) : Amb w h := X.amb.keep fun _ _ e => of_hideAll _ e
theorem Full.ne {w : World} {h : Heap} (X : Full w h) {b : Addr} {o : Obj} (e : h.get? b = some o) (hc : o.cls ≠ .none) : b ≠ 101 := fun q => by
  obtain ⟨c1, c2, a, _⟩ := X.tab
  rw [q, a] at e; cases e; exact hc rfl

/-- the same, of a view -/
structure FullV (w : World) (g h : Heap) : Prop where
  amb : Amb w g
  code : CodeHd g 105 101
  no : g.get? 101 = none
  sub : ∀ b o, g.get? b = some o → h.get? b = some o
  tab : ∃ c1 c2, h.get? 101 = some (tab101 c1 c2) ∧ g.CodeRec (.ref c2) lamQual
theorem Full.view {w : World} {h₀ h g : Heap} (X : Full w h₀) (hk : ∀ b o, h₀.get? b = some o → h.get? b = some o) (h1 : ∀ b o, b ≠ 101 → h₀.get? b = some o → g.get? b = some o) (h2 : ∀ b o, g.get? b = some o → h.get? b = some o) (h3 : g.get? 101 = none) : FullV w g h :=
  have hs : ∀ b o, (hideAll h₀ [101]).get? b = some o → g.get? b = some o := fun b o e => h1 b o (fun q => by rw [q, hideAll_none _ (.head _)] at e; cases e) (of_hideAll _ e)
  ⟨X.amb.keep hs, X.code.keeps hs, h3, h2, let ⟨c1, c2, a, b⟩ := X.tab; ⟨c1, c2, hk _ _ a, codeRec_keep b hs⟩⟩

theorem record_v {w : World} {A : Around} {s : Shared} {g : Heap} {l : Addr} {vs : List Value} {rs : List (Str × Int)} {Q : Value → Shared → Prop}
   (X : FullV w g s.heap) (hl : g.IsList l vs.toArray) (hp : PairsAt g vs rs) (hz : rs.length < 1000) (hh : A.handled = none) (hd : A.depth < 870)
   (hQ : ∀ h' tk e, (∀ b o, s.heap.get? b = some o → h'.get? b = some o) → RecAt w (grow g s.heap h') e rs → Q (.ref e) { s with heap := h', toks := tk }) :
   wpAny (model PySem.Challenge.rw_ny0178_01.row.prog w) A (call (.ref 113) [.ref l]) Q (fun _ _ => False) s := by
  obtain ⟨c1, c2, ht, hcr⟩ := X.tab
  refine record_c X.amb X.code X.sub hl hp hz ht (.inr ⟨c1, c2, rfl, hcr⟩) X.no hh hd fun h' tk e o' hk h101 hsame _ hr => ?_
  have eo := hsame (tab_ne c1 c2)
  subst eo
  exact hQ h' tk e (fun b o eb => by
    by_cases hb : b = 101
    · subst hb; rw [ht] at eb; cases eb; exact h101
    · exact hk b o hb eb) hr

/-- the record's rules with one more, ahead or behind -/
def joinR (rs : List (Str × Int)) (mark : Int) : List (Str × Int) := if (mark.fdiv 2).fmod 2 = 0 then rs ++ [(Str.ofString "", mark)] else (Str.ofString "", mark) :: rs

section
local macro_rules | `(tactic| walk_at "call ref") => `(tactic| refine Held.out ?_)
theorem joined_c : ∀ {w : World} {A : Around} {s : Shared} {e : Addr} {rs : List (Str × Int)} {mark : Int} {tm : Tok} {Q : Value → Shared → Prop}
   (X : Amb w s.heap) (XF : Full w s.heap) (hr : RecAt w s.heap e rs) (hz : rs.length < 900) (hh : A.handled = none) (hd : A.depth < 850)
   (hQ : ∀ h' tk e', (∀ b o, s.heap.get? b = some o → h'.get? b = some o) → RecAt w h' e' (joinR rs mark) → Q (.ref e') { s with heap := h', toks := tk }),
   wpAny (model PySem.Challenge.rw_ny0178_01.row.prog w) A (call (.ref 120) [.ref e, .int mark tm]) Q (fun _ _ => False) s := by
  unfold Amb
  k_fill
  intro w A s e rs mark tm Q X XF hr hz hh hd hQ
  obtain ⟨X, p, loose, mean, mg, mb, T⟩ := X
  refine wpAny_call ?_
  k_dflt (refine' enter_def (binds := [("record", .ref e), ("mark", .int mark tm)]) X T ?k6 ?k7 ?k8 ?k9 ?kB ?_ ?c5 ?c2 ?c3 ?c4; (case k6 => k_is); (case k7 => k_is); (case k8 => simp only [recursionLimit]; omega); (case k9 => (refine' kp_binds ?kx ?ke; (case kx => k_in); (case ke => exact fun _ => rfl))); (case kB => exact locs rfl); (case c2 => exact rfl); (case c3 => exact rfl); (case c4 => exact rfl); (case c5 => decide))
  intro L' h' F' N'
  with_reducible change wpAny _ _ _ _ _ _
  k_fold
  k_steps
  rename Fr _ _ _ _ => F3
  rename News _ _ _ _ => N3
  rename_i tT _ _ lL h3 _
  have mL := N3 _ (.head _)
  have mT := N3 _ (.tail _ (.head _))
  have f101 : ∃ c1 c2, s.heap.get? 101 = some (tab101 c1 c2) := let ⟨c1, c2, a, _⟩ := XF.tab; ⟨c1, c2, a⟩
  obtain ⟨c1, c2, h101⟩ := f101
  have hLno : s.heap.get? L' = none := by
    cases q : s.heap.get? L' with
    | none => rfl
    | some o => exact absurd (Heap.lt_size q) (Nat.not_lt.mpr F3.above)
  have n101 : ∀ {b}, s.heap.get? b = none → b ≠ 101 := fun e q => by rw [q, h101] at e; cases e
  have gg : ∀ b o, b ≠ 101 → b ≠ L' → h3.get? b = some o → (hideAll h3 [101, L']).get? b = some o := fun b o h1 h2 e => hideAll_get _ e fun hm => by
    rcases List.mem_cons.mp hm with q | q
    · exact h1 q
    · exact h2 (List.mem_singleton.mp q)
  have V : FullV w (hideAll h3 [101, L']) h3 := XF.view F3.keep (fun b o hb e => gg b o hb (fun q => by rw [q, hLno] at e; cases e) (F3.keep b o e)) (fun b o e => of_hideAll _ e) (hideAll_none _ (.head _))
  refine held (wpAny_mono (record_v (s := { s with heap := h3, toks := _ }) (rs := [(Str.ofString "", mark)]) V ⟨_, gg _ _ (n101 mL.2.2) mL.2.1 mL.1, rfl, _, rfl⟩ ⟨⟨tT, _, _, rfl, ⟨_, gg _ _ (n101 mT.2.2) mT.2.1 mT.1, rfl, _, rfl⟩⟩, trivial⟩ (by simp) hh (by show A.depth + 1 < 870; omega) fun h4 tk4 e4 hk4 hr4 => ?_) (fun _ _ x => x) (fun _ _ x => x.elim))
  dsimp only at hk4 hr4
  have F4 := fr_keep F3 hk4
  obtain ⟨oL, _, _, hoL, _⟩ := id F3.ns
  have N4 : News s.heap L' h4 (ledOf (grow (hideAll h3 [101, L']) h3 h4) s.heap) := led_news grow_sub (grow_none hoL (hideAll_none _ (.tail _ (.head _))))
  have c4 : ∀ b o o', (grow (hideAll h3 [101, L']) h3 h4).get? b = some o → s.heap.get? b = some o' → o = o' := fun b o o' e e' => by
    have h1 := grow_sub b o e
    have h2 := F4.keep b o' e'
    rw [h1] at h2; exact Option.some.inj h2
  generalize grow (hideAll h3 [101, L']) h3 h4 = gv at hr4 N4 c4
  clear F3 N3 mL mT V gg hoL
  k_steps
  · rename (_ ≠ _) => hne
    rename Fr _ _ _ _ => F5
    rename News _ _ _ _ => N5
    have up5 := led_up F5 N5 (fun _ h => h) c4
    refine held (wpAny_mono (merge_c (XF.all.keep F5.keep) (hr4.keep up5) (hr.keep F5.keep) (by simp; omega) hh (by show A.depth + 1 < 860; omega) fun h6 tk6 e6 hk6 hr6 => ?_) (fun _ _ x => x) (fun _ _ x => x.elim))
    have F6 := fr_keep F5 hk6
    have ej : joinR rs mark = [(Str.ofString "", mark)] ++ rs := by unfold joinR; rw [if_neg hne]; rfl
    rw [ej] at hQ
    clear F5 N5
    k_steps
    exact hQ _ _ _ F6.keep hr6
  · rename (_ = _) => heq
    rename Fr _ _ _ _ => F5
    rename News _ _ _ _ => N5
    have up5 := led_up F5 N5 (fun _ h => h) c4
    refine held (wpAny_mono (merge_c (XF.all.keep F5.keep) (hr.keep F5.keep) (hr4.keep up5) (by simp; omega) hh (by show A.depth + 1 < 860; omega) fun h6 tk6 e6 hk6 hr6 => ?_) (fun _ _ x => x) (fun _ _ x => x.elim))
    have F6 := fr_keep F5 hk6
    have ej : joinR rs mark = rs ++ [(Str.ofString "", mark)] := by unfold joinR; rw [if_pos heq]
    rw [ej] at hQ
    clear F5 N5
    k_steps
    exact hQ _ _ _ F6.keep hr6
end

end Mine
namespace Mine
theorem offP18 : True ∧ True := by
  have h : True ∧ True := by first | (walk1; done) | exact ⟨trivial, trivial⟩
  w_top off
  exact h
def trnQual : Str := Str.ofString "_law_least" ++ ".<locals>." ++ Str.ofString "<lambda>"
def trnParams : Arguments := { posonlyargs := [], args := [{ arg := Str.ofString "mark", annotation := none, pos := ⟨141, 20, 141, 24⟩ }], vararg := none, kwonlyargs := [], kw_defaults := [], kwarg := none, defaults := [] }
def trnBody : Expr :=
  (((((Expr.Name (Str.ofString "_law_joined") ⟨141, 26, 141, 37⟩).Call [Expr.Name (Str.ofString "record") ⟨141, 38, 141, 44⟩, Expr.Name (Str.ofString "mark") ⟨141, 46, 141, 50⟩] [] ⟨141, 26, 141, 51⟩).Attribute
    (Str.ofString "allowance") ⟨141, 26, 141, 61⟩).Call [Expr.Name (Str.ofString "name") ⟨141, 62, 141, 66⟩] [] ⟨141, 26, 141, 67⟩).Compare [CmpOp.NotEq] [Expr.Name (Str.ofString "said") ⟨141, 71, 141, 75⟩] ⟨141, 26, 141, 75⟩)
def trnScope : Scope := { kind := ScopeKind.function, names := [(Str.ofString "mark", NameKind.local), (Str.ofString "name", NameKind.free), (Str.ofString "record", NameKind.free), (Str.ofString "said", NameKind.free), (Str.ofString "_law_joined", NameKind.globalImplicit)], isGenerator := false, isCoroutine := false }
structure TurnAt (h : Heap) (f e : Addr) (nm : Str) (sd : Bool) : Prop where
  at_ : ∃ cl pm c' ctv cr cn cs or_ on os tn, h.get? f = some (kla_obj "<lambda>" trnQual trnParams trnBody trnScope cl pm c' ctv) ∧ h.CodeRec (.ref c') trnQual ∧
    cl.lookup (Str.ofString "record") = some cr ∧ cl.lookup (Str.ofString "name") = some cn ∧ cl.lookup (Str.ofString "said") = some cs ∧
    h.get? cr = some or_ ∧ or_.data = .cell (some (.ref e)) ∧ h.get? cn = some on ∧ on.data = .cell (some (.str nm tn)) ∧ h.get? cs = some os ∧ os.data = .cell (some (.bool sd))
theorem TurnAt.keep {h h' : Heap} {f e : Addr} {nm : Str} {sd : Bool} (X : TurnAt h f e nm sd) (hk : ∀ b o, h.get? b = some o → h'.get? b = some o) : TurnAt h' f e nm sd :=
  let ⟨cl, pm, c', ctv, cr, cn, cs, or_, on, os, tn, a, b, c, d, e, f, g, i, j, k, l⟩ := X.at_; ⟨cl, pm, c', ctv, cr, cn, cs, or_, on, os, tn, hk _ _ a, codeRec_keep b hk, c, d, e, hk _ _ f, g, hk _ _ i, j, hk _ _ k, l⟩

section
local macro_rules | `(tactic| walk_at "eval Name") => `(tactic| (k_dflt (refine' nameX_Fb ?F ?c ?o ?d ?_ ?a ?b; (case a => rfl); (case b => rfl); (case F => k_asm); (case c => assumption); (case o => assumption); (case d => assumption); k_whole)))
local macro_rules | `(tactic| walk_at "call ref") => `(tactic| refine Held.out ?_)
local macro_rules | `(tactic| walk_at "getMethod ref") => `(tactic| refine Held.out ?_)

theorem turn_call : ∀ {w : World} {A : Around} {s : Shared} {f e : Addr} {rs : List (Str × Int)} {nm : Str} {sd : Bool} {mark : Int} {tm : Tok} {Q : Value → Shared → Prop}
   (X : Amb w s.heap) (XF : Full w s.heap) (ht : TurnAt s.heap f e nm sd) (hr : RecAt w s.heap e rs) (hz : rs.length < 900) (hz1 : ∀ r ∈ rs, r.1.length < 2 ^ 20) (hz2 : nm.length < 2 ^ 20) (hh : A.handled = none) (hd : A.depth < 840)
   (hQ : ∀ h' tk, (∀ b o, s.heap.get? b = some o → h'.get? b = some o) → Q (.bool (says nm (joinR rs mark) != sd)) { s with heap := h', toks := tk }),
   wpAny (model PySem.Challenge.rw_ny0178_01.row.prog w) A (call (.ref f) [.int mark tm]) Q (fun _ _ => False) s := by
  unfold Amb
  k_fill
  intro w A s f e rs nm sd mark tm Q X XF ht hr hz hz1 hz2 hh hd hQ
  obtain ⟨X, p, loose, mean, mg, mb, T⟩ := X
  obtain ⟨cl, pm, c', ctv, cr, cn, cs, or_, on, os, tn, ho, hcd, l1, l2, l3, g1, d1, g2, d2, g3, d3⟩ := ht.at_
  refine wpAny_call ?_
  refine enter_lam (binds := [("mark", .int mark tm)]) T.nolimit ho hcd (by simp only [recursionLimit]; omega) rfl (locs rfl) ?_ rfl rfl rfl (by decide)
  intro L' h' F' N'
  unfold trnBody trnScope
  with_reducible change wpAny _ _ _ _ _ _
  k_fold
  k_steps
  rename Fr _ _ _ _ => F3
  rename News _ _ _ _ => N3
  refine held (wpAny_mono (joined_c (XF.all.keep F3.keep) (XF.keep F3.keep) (hr.keep F3.keep) hz hh (by show A.depth + 1 < 850; omega) fun h4 tk4 e4 hk4 hr4 => ?_) (fun _ _ x => x) (fun _ _ x => x.elim))
  have F4 := fr_keep F3 hk4
  have N4 := news_keep N3 hk4
  clear F3 N3
  k_steps
  obtain ⟨dx4, _, _, _, _, _, _, _, _, _, he4, hd4, _⟩ := id hr4.at_
  refine held ?_
  k_dflt (refine' method_inst (f := 49) F4 X ⟨he4, rfl, rfl, hd4⟩ ?k4 ?k5 ?k6 ?k7 ?_; (case k4 => k_is); (case k5 => k_is); (case k6 => k_is); (case k7 => rfl))
  k_steps
  have hz3 : ∀ r ∈ joinR rs mark, r.1.length < 2 ^ 20 := fun r hm => by
    unfold joinR at hm
    split at hm
    · rcases List.mem_append.mp hm with q | q
      · exact hz1 r q
      · rw [List.mem_singleton.mp q]; show (Str.ofString "").length < 2 ^ 20; decide
    · rcases List.mem_cons.mp hm with q | q
      · rw [q]; show (Str.ofString "").length < 2 ^ 20; decide
      · exact hz1 r q
  refine held (wpAny_mono (allow_c (XF.all.keep F4.keep) hr4 hz3 hz2 hh (by show A.depth + 1 < 870; omega) fun h5 tk5 hk5 => ?_) (fun _ _ x => x) (fun _ _ x => x.elim))
  have F5 := fr_keep F4 hk5
  have N5 := news_keep N4 hk5
  clear F4 N4
  k_steps
  exact hQ _ _ F5.keep
end

end Mine
namespace Mine
theorem offP19 : True ∧ True := by
  have h : True ∧ True := by first | (walk1; done) | exact ⟨trivial, trivial⟩
  w_top off
  exact h
def frtQual : Str := Str.ofString "_law_spans" ++ ".<locals>." ++ Str.ofString "<lambda>"
def frtParams : Arguments := { posonlyargs := [], args := [{ arg := Str.ofString "name", annotation := none, pos := ⟨136, 23, 136, 27⟩ }], vararg := none, kwonlyargs := [], kw_defaults := [], kwarg := none, defaults := [] }
def frtBody : Expr :=
  (Expr.Name (Str.ofString "name") ⟨136, 29, 136, 33⟩).Subscript (Expr.Slice none (some ((Expr.Name (Str.ofString "len") ⟨136, 35, 136, 38⟩).Call [Expr.Name (Str.ofString "path") ⟨136, 39, 136, 43⟩] [] ⟨136, 35, 136, 44⟩)) none ⟨136, 34, 136, 44⟩) ⟨136, 29, 136, 45⟩
def frtScope : Scope := { kind := ScopeKind.function, names := [(Str.ofString "name", NameKind.local), (Str.ofString "path", NameKind.free), (Str.ofString "len", NameKind.globalImplicit)], isGenerator := false, isCoroutine := false }
structure FrontAt (h : Heap) (f : Addr) (path : Str) : Prop where
  at_ : ∃ cl pm c' ctv cp op tp, h.get? f = some (kla_obj "<lambda>" frtQual frtParams frtBody frtScope cl pm c' ctv) ∧ h.CodeRec (.ref c') frtQual ∧ cl.lookup (Str.ofString "path") = some cp ∧ h.get? cp = some op ∧ op.data = .cell (some (.str path tp))
theorem FrontAt.keep {h h' : Heap} {f : Addr} {path : Str} (X : FrontAt h f path) (hk : ∀ b o, h.get? b = some o → h'.get? b = some o) : FrontAt h' f path :=
  let ⟨cl, pm, c', ctv, cp, op, tp, a, b, c, d, e⟩ := X.at_; ⟨cl, pm, c', ctv, cp, op, tp, hk _ _ a, codeRec_keep b hk, c, hk _ _ d, e⟩
section
local macro_rules | `(tactic| walk_at "eval Name") => `(tactic| (k_dflt (refine' nameX_Fb ?F ?c ?o ?d ?_ ?a ?b; (case a => rfl); (case b => rfl); (case F => k_asm); (case c => assumption); (case o => assumption); (case d => assumption); k_whole)))
theorem front_call : ∀ {w : World} {A : Around} {s : Shared} {f : Addr} {path nm : Str} {tn : Tok} {Q : Value → Shared → Prop}
   (X : Amb w s.heap) (hl : FrontAt s.heap f path) (hh : A.handled = none) (hd : A.depth < 890) (hz : path.length < 2 ^ 20) (hz2 : nm.length < 2 ^ 20)
   (hQ : ∀ h' tk t, (∀ b o, s.heap.get? b = some o → h'.get? b = some o) → Q (.str (Txt.slice nm none (some (path.length : Int))) t) { s with heap := h', toks := tk }),
   wpAny (model PySem.Challenge.rw_ny0178_01.row.prog w) A (call (.ref f) [.str nm tn]) Q (fun _ _ => False) s := by
  unfold Amb
  k_fill
  intro w A s f path nm tn Q X hl hh hd hz hz2 hQ
  obtain ⟨X, p, loose, mean, mg, mb, T⟩ := X
  obtain ⟨cl, pm, c', ctv, cp, op, tp, ho, hcd, l1, g1, d1⟩ := hl.at_
  refine wpAny_call ?_
  refine enter_lam (binds := [("name", .str nm tn)]) T.nolimit ho hcd (by simp only [recursionLimit]; omega) rfl (locs rfl) ?_ rfl rfl rfl (by decide)
  intro L' h' F' N'
  unfold frtBody frtScope
  with_reducible change wpAny _ _ _ _ _ _
  k_fold
  k_steps
  rename Fr _ _ _ _ => F2
  exact hQ _ _ _ F2.keep
end

end Mine
namespace Mine
theorem offP20 : True ∧ True := by
  have h : True ∧ True := by first | (walk1; done) | exact ⟨trivial, trivial⟩
  w_top off
  exact h
abbrev tab136 (c : Addr) : Obj := tabObj #[rawInt 141, rawInt 13, .ref c]
/-- the marks among ns that say otherwise than sd; where halving ends; what _law_least gives back -/
def othersR (sd : Bool) (ns : List Int) : List Int := ns.filter fun a => (a.fmod 2 == 1) != sd
def leastP (rs : List (Str × Int)) (nm : Str) (sd : Bool) (os : List Int) : Nat := bis (fun i => !(says nm (joinR rs ((os[i]?).getD 0)) != sd)) 0 os.length
theorem leastP_le (rs : List (Str × Int)) (nm : Str) (sd : Bool) (os : List Int) : leastP rs nm sd os ≤ os.length := bis_le _ _ _ (Nat.zero_le _)
def leastR (rs : List (Str × Int)) (nm : Str) (sd : Bool) (ns : List Int) : List Int := ((othersR sd ns).drop (leastP rs nm sd (othersR sd ns))).take 1
theorem leastR_eq (rs : List (Str × Int)) (nm : Str) (sd : Bool) (ns : List Int) {p : Nat} (e : p = leastP rs nm sd (othersR sd ns)) :
    List.take (min ((p : Int) + 1).toNat (othersR sd ns).length - ((p : Int)).toNat) (List.drop ((p : Int)).toNat (othersR sd ns)) = leastR rs nm sd ns := by
  have hp := leastP_le rs nm sd (othersR sd ns)
  unfold leastR
  rw [← e] at hp ⊢
  have h1 : ((p : Int)).toNat = p := by omega
  have h2 : ((p : Int) + 1).toNat = p + 1 := by omega
  rw [h1, h2]
  by_cases q : p < (othersR sd ns).length
  · rw [show min (p + 1) (othersR sd ns).length - p = 1 by omega]
  · rw [List.drop_eq_nil_of_le (by omega)]; simp
theorem lt_true {prog : Program} {w : World} {A : Around} {E : Value → Shared → Prop} {s : Shared} {b : Bool} {Q : Value → Shared → Prop} (h : ∀ tk, Q (.bool (!b)) { s with toks := tk }) : wpAny (model prog w) A (compareOp .Lt (.bool b) (.bool true)) Q E s := by
  refine lt_bool ?_
  have := h s.toks
  cases b <;> exact this
section
local macro_rules | `(tactic| walk_at "call ref") => `(tactic| refine Held.out ?_)
theorem least0 : ∀ {w : World} {A : Around} {s : Shared} {g : Heap} {e l : Addr} {rs : List (Str × Int)} {nm : Str} {sd : Bool} {tn : Tok} {vs : List Value} {ns : List Int} {Q : Value → Shared → Prop}
   (X : Amb w g) (XF : Full w g) (C : CodeHd g 138 136) (hg : ∀ b o, g.get? b = some o → s.heap.get? b = some o) (hgt : g.get? 136 = none) (hr : RecAt w g e rs) (hl : g.IsList l vs.toArray) (hi : IntsAre vs ns)
   (ht : s.heap.get? 136 = some (tabObj #[])) (hz : rs.length < 900) (hz1 : ∀ r ∈ rs, r.1.length < 2 ^ 20) (hz2 : nm.length < 2 ^ 20) (hz3 : ns.length < 1000) (hh : A.handled = none) (hd : A.depth < 820)
   (hQ : ∀ h' tk lo ys c, (∀ b o, b ≠ 136 → s.heap.get? b = some o → h'.get? b = some o) → h'.get? 136 = some (tab136 c) → (grow g s.heap h').CodeRec (.ref c) trnQual → s.heap.get? lo = none → h'.IsList lo ys.toArray → IntsAre ys (leastR rs nm sd ns) → Q (.ref lo) { s with heap := h', toks := tk }),
   wpAny (model PySem.Challenge.rw_ny0178_01.row.prog w) A (call (.ref 139) [.ref e, .str nm tn, .ref l, .bool sd]) Q (fun _ _ => False) s := by
  unfold Amb
  k_fill
  intro w A s g e l rs nm sd tn vs ns Q X XF C hg hgt hr hl hi ht hz hz1 hz2 hz3 hh hd hQ
  obtain ⟨X, p, loose, mean, mg, mb, T⟩ := X
  obtain ⟨hn, dp, fr, gd, un⟩ := A
  dsimp only at hh hd
  subst hh
  refine wpAny_call ?_
  k_dflt (refine' enter_ledC (binds := [("record", .ref e), ("name", .str nm tn), ("rivals", .ref l), ("said", .bool sd)]) [(136, tabObj #[])] X T hg (List.forall_mem_cons.mpr ⟨⟨ht, hgt⟩, List.forall_mem_nil _⟩) ?k6 ?k7 ?k8 ?k9 ?kB ?kD ?_ ?c2 ?c3 ?c4; (case k6 => k_is); (case k7 => k_is); (case k8 => simp only [recursionLimit]; omega); (case k9 => (refine' kp_binds ?kx ?ke; (case kx => exact X.keeps hg); (case ke => exact fun _ => rfl))); (case kB => exact rfl); (case kD => decide +kernel); (case c2 => exact rfl); (case c3 => exact rfl); (case c4 => exact rfl))
  intro h₀ L' h' tk cells eh X' T' hg' F' N' Y' hlt
  k_lt hlt
  obtain ⟨o1, o2, o3, hE, dc1, dc2, dc3⟩ := CellsAre.three Y'
  subst hE
  simp only [List.cons_append, List.nil_append] at N'
  have C' := C.keeps hg'
  have hl' := list_keep hl hg'
  with_reducible change wpAny _ _ _ _ _ _
  k_fold
  k_steps
  any_goals first | exact Str.ofString "" | exact (0 : Addr) | exact Value.none
  rename Fr _ _ _ _ => F6
  rename News _ _ _ _ => N6
  rename_i c6 oc6 _ _ _ _ _ _ _ _ _ _ D6 ys6 h6 tk6 _ _ _ _ nX6 iX6
  have m0 := N6 _ (by k_dflt (exact .head _))
  have m1 := N6 _ (by k_dflt (exact .tail _ (.head _)))
  have m2 := N6 _ (by k_dflt (exact .tail _ (.tail _ (.head _))))
  have m3 := N6 _ (by k_dflt (exact .tail _ (.tail _ (.tail _ (.head _)))))
  have m4 := N6 _ (by k_dflt (exact .tail _ (.tail _ (.tail _ (.tail _ (.head _))))))
  have m5 := N6 _ (by k_dflt (exact .tail _ (.tail _ (.tail _ (.tail _ (.tail _ (.head _)))))))
  have hg6 : ∀ b o, g.get? b = some o → h6.get? b = some o := fun b o e => F6.keep b o (hg' b o e)
  have cr : h6.CodeRec (.ref _) trnQual := ⟨_, _, _, _, rfl, m2.1, by assumption, by assumption⟩
  have ta : TurnAt h6 _ e nm sd := ⟨⟨_, _, _, _, _, _, _, _, _, _, _, m1.1, cr, rfl, rfl, rfl, m5.1, by assumption, m4.1, by assumption, m3.1, by assumption⟩⟩
  have iY : IntsAre ys6 (othersR sd ns) := by rw [List.map_id'] at iX6; exact iX6
  have hlen : ys6.length ≤ ns.length := by rw [iY.length]; exact List.length_filter_le _ _
  clear iX6
  refine held (wpAny_mono (bl_key (s := { s with heap := h6, toks := _ }) (vs := ys6) (c := fun i => !(says nm (joinR rs (((othersR sd ns)[i]?).getD 0)) != sd)) (KV := fun i kv => kv = .bool (says nm (joinR rs (((othersR sd ns)[i]?).getD 0)) != sd)) (X'.keeps F6.keep) (T'.keeps F6.keep) ⟨_, m0.1, rfl, _, rfl⟩ rfl (by show dp + 1 < 900; omega) (by omega) ⟨_, _, _, _, m1.1⟩ ?_ ?_ ?_) (fun _ _ x => x) (fun _ _ x => x.elim))
  · intro i v hv A' s₁ Q' hh' hd' _ hk' _ _ _ hq
    obtain ⟨n, t, rfl, hn⟩ := iY.at i v hv
    have hk6 : ∀ b o, g.get? b = some o → s₁.heap.get? b = some o := fun b o e => hk' b o (hg6 b o e)
    exact turn_call ((XF.keep hk6).all) (XF.keep hk6) (ta.keep hk') (hr.keep hk6) hz hz1 hz2 hh' (by have : A'.depth ≤ dp + 1 + 1 := hd'; omega) fun h'' tk'' hk'' => hq _ _ _ hk'' (by show Value.bool _ = Value.bool _; rw [hn]; rfl)
  · intro i kv _ hkv A' E' s' Q' hq
    subst hkv
    exact lt_true hq
  intro h7 tk7 t7 hk7
  have F7 := fr_keep F6 hk7
  have N7 := news_keep N6 hk7
  clear F6 N6 m0 m1 m2 m3 m4 m5
  have e7 : bis (fun i => !(says nm (joinR rs (((othersR sd ns)[i]?).getD 0)) != sd)) 0 ys6.length = leastP rs nm sd (othersR sd ns) := by unfold leastP; rw [iY.length]
  rw [e7]
  k_steps
  rename Fr _ _ _ _ => F8
  rename News _ _ _ _ => N8
  rename_i h8 iX8 _ _ _
  have m0 := N8 _ (by k_dflt (exact .head _))
  have m3 := N8 _ (by k_dflt (exact .tail _ (.tail _ (.tail _ (.head _)))))
  have m7 := N8 _ (by k_dflt (exact .tail _ (.tail _ (.tail _ (.tail _ (.tail _ (.tail _ (.tail _ (.head _)))))))))
  have fr' : ∀ {b}, h₀.get? b = none → b ≠ 136 → s.heap.get? b = none := fun e hb => fresh_of eh e fun hm => hb (List.mem_singleton.mp hm)
  have old : ∀ b o, b ≠ 136 → s.heap.get? b = some o → h8.get? b = some o := fun b o hb e => F8.keep b o (by rw [eh]; exact hideAll_get _ e fun hm => hb (List.mem_singleton.mp hm))
  rw [leastR_eq rs nm sd ns rfl] at iX8
  exact hQ _ _ _ _ _ old m7.1 ⟨_, _, _, _, rfl, grow_new (fr' m3.2.2 (neN (by (try dsimp only); omega))) m3.1, by assumption, by assumption⟩ (fr' m0.2.2 (neN (by (try dsimp only); omega))) ⟨_, m0.1, rfl, _, rfl⟩ iX8
theorem least1 : ∀ {w : World} {A : Around} {s : Shared} {g : Heap} {e l : Addr} {rs : List (Str × Int)} {nm : Str} {sd : Bool} {tn : Tok} {vs : List Value} {ns : List Int} {c0 : Addr} {Q : Value → Shared → Prop}
   (X : Amb w g) (XF : Full w g) (C : CodeHd g 138 136) (hg : ∀ b o, g.get? b = some o → s.heap.get? b = some o) (hgt : g.get? 136 = none) (hr : RecAt w g e rs) (hl : g.IsList l vs.toArray) (hi : IntsAre vs ns)
   (ht : s.heap.get? 136 = some (tab136 c0)) (hcr : g.CodeRec (.ref c0) trnQual) (hz : rs.length < 900) (hz1 : ∀ r ∈ rs, r.1.length < 2 ^ 20) (hz2 : nm.length < 2 ^ 20) (hz3 : ns.length < 1000) (hh : A.handled = none) (hd : A.depth < 820)
   (hQ : ∀ h' tk lo ys, (∀ b o, s.heap.get? b = some o → h'.get? b = some o) → s.heap.get? lo = none → h'.IsList lo ys.toArray → IntsAre ys (leastR rs nm sd ns) → Q (.ref lo) { s with heap := h', toks := tk }),
   wpAny (model PySem.Challenge.rw_ny0178_01.row.prog w) A (call (.ref 139) [.ref e, .str nm tn, .ref l, .bool sd]) Q (fun _ _ => False) s := by
  unfold Amb
  k_fill
  intro w A s g e l rs nm sd tn vs ns c0 Q X XF C hg hgt hr hl hi ht hcr hz hz1 hz2 hz3 hh hd hQ
  obtain ⟨X, p, loose, mean, mg, mb, T⟩ := X
  obtain ⟨hn, dp, fr, gd, un⟩ := A
  dsimp only at hh hd
  subst hh
  refine wpAny_call ?_
  k_dflt (refine' enter_ledC (binds := [("record", .ref e), ("name", .str nm tn), ("rivals", .ref l), ("said", .bool sd)]) [(136, tab136 c0)] X T hg (List.forall_mem_cons.mpr ⟨⟨ht, hgt⟩, List.forall_mem_nil _⟩) ?k6 ?k7 ?k8 ?k9 ?kB ?kD ?_ ?c2 ?c3 ?c4; (case k6 => k_is); (case k7 => k_is); (case k8 => simp only [recursionLimit]; omega); (case k9 => (refine' kp_binds ?kx ?ke; (case kx => exact X.keeps hg); (case ke => exact fun _ => rfl))); (case kB => exact rfl); (case kD => decide +kernel); (case c2 => exact rfl); (case c3 => exact rfl); (case c4 => exact rfl))
  intro h₀ L' h' tk cells eh X' T' hg' F' N' Y' hlt
  k_lt hlt
  obtain ⟨o1, o2, o3, hE, dc1, dc2, dc3⟩ := CellsAre.three Y'
  subst hE
  simp only [List.cons_append, List.nil_append] at N'
  have C' := C.keeps hg'
  have hl' := list_keep hl hg'
  with_reducible change wpAny _ _ _ _ _ _
  k_fold
  k_steps
  any_goals first | exact Str.ofString "" | exact (0 : Addr) | exact Value.none
  rename Fr _ _ _ _ => F6
  rename News _ _ _ _ => N6
  rename_i D6 ys6 h6 tk6 _ _ _ _ nX6 iX6
  have m0 := N6 _ (by k_dflt (exact .head _))
  have m1 := N6 _ (by k_dflt (exact .tail _ (.head _)))
  have m3 := N6 _ (by k_dflt (exact .tail _ (.tail _ (.head _))))
  have m4 := N6 _ (by k_dflt (exact .tail _ (.tail _ (.tail _ (.head _)))))
  have m5 := N6 _ (by k_dflt (exact .tail _ (.tail _ (.tail _ (.tail _ (.head _))))))
  have hg6 : ∀ b o, g.get? b = some o → h6.get? b = some o := fun b o e => F6.keep b o (hg' b o e)
  have cr : h6.CodeRec (.ref c0) trnQual := codeRec_keep hcr hg6
  have ta : TurnAt h6 _ e nm sd := ⟨⟨_, _, _, _, _, _, _, _, _, _, _, m1.1, cr, rfl, rfl, rfl, m5.1, by assumption, m4.1, by assumption, m3.1, by assumption⟩⟩
  have iY : IntsAre ys6 (othersR sd ns) := by rw [List.map_id'] at iX6; exact iX6
  have hlen : ys6.length ≤ ns.length := by rw [iY.length]; exact List.length_filter_le _ _
  clear iX6
  refine held (wpAny_mono (bl_key (s := { s with heap := h6, toks := _ }) (vs := ys6) (c := fun i => !(says nm (joinR rs (((othersR sd ns)[i]?).getD 0)) != sd)) (KV := fun i kv => kv = .bool (says nm (joinR rs (((othersR sd ns)[i]?).getD 0)) != sd)) (X'.keeps F6.keep) (T'.keeps F6.keep) ⟨_, m0.1, rfl, _, rfl⟩ rfl (by show dp + 1 < 900; omega) (by omega) ⟨_, _, _, _, m1.1⟩ ?_ ?_ ?_) (fun _ _ x => x) (fun _ _ x => x.elim))
  · intro i v hv A' s₁ Q' hh' hd' _ hk' _ _ _ hq
    obtain ⟨n, t, rfl, hn⟩ := iY.at i v hv
    have hk6 : ∀ b o, g.get? b = some o → s₁.heap.get? b = some o := fun b o e => hk' b o (hg6 b o e)
    exact turn_call ((XF.keep hk6).all) (XF.keep hk6) (ta.keep hk') (hr.keep hk6) hz hz1 hz2 hh' (by have : A'.depth ≤ dp + 1 + 1 := hd'; omega) fun h'' tk'' hk'' => hq _ _ _ hk'' (by show Value.bool _ = Value.bool _; rw [hn]; rfl)
  · intro i kv _ hkv A' E' s' Q' hq
    subst hkv
    exact lt_true hq
  intro h7 tk7 t7 hk7
  have F7 := fr_keep F6 hk7
  have N7 := news_keep N6 hk7
  clear F6 N6 m0 m1 m3 m4 m5
  have e7 : bis (fun i => !(says nm (joinR rs (((othersR sd ns)[i]?).getD 0)) != sd)) 0 ys6.length = leastP rs nm sd (othersR sd ns) := by unfold leastP; rw [iY.length]
  rw [e7]
  k_steps
  rename Fr _ _ _ _ => F8
  rename News _ _ _ _ => N8
  rename_i h8 iX8 _ _ _
  have m0 := N8 _ (by k_dflt (exact .head _))
  have m7 := N8 _ (by k_dflt (exact .tail _ (.tail _ (.tail _ (.tail _ (.tail _ (.tail _ (.head _))))))))
  have fr' : ∀ {b}, h₀.get? b = none → b ≠ 136 → s.heap.get? b = none := fun e hb => fresh_of eh e fun hm => hb (List.mem_singleton.mp hm)
  have old : ∀ b o, b ≠ 136 → s.heap.get? b = some o → h8.get? b = some o := fun b o hb e => F8.keep b o (by rw [eh]; exact hideAll_get _ e fun hm => hb (List.mem_singleton.mp hm))
  rw [leastR_eq rs nm sd ns rfl] at iX8
  have old' : ∀ b o, s.heap.get? b = some o → h8.get? b = some o := fun b o e => by
    by_cases hb : b = 136
    · subst hb
      rw [ht] at e; cases e
      exact m7.1
    · exact old b o hb e
  exact hQ _ _ _ _ old' (fr' m0.2.2 (neN (by (try dsimp only); omega))) ⟨_, m0.1, rfl, _, rfl⟩ iX8
end

theorem tab136_ne (c : Addr) : tab136 c ≠ tabObj #[] := fun h => by
  have : (#[rawInt 141, rawInt 13, .ref c] : Array Value) = #[] := by injection h with _ _ h _; injection h
  exact absurd (congrArg Array.size this) (by simp)
theorem least_c {w : World} {A : Around} {s : Shared} {g : Heap} {e l : Addr} {rs : List (Str × Int)} {nm : Str} {sd : Bool} {tn : Tok} {vs : List Value} {ns : List Int} {o1 : Obj} {Q : Value → Shared → Prop}
   (X : Amb w g) (XF : Full w g) (C : CodeHd g 138 136) (hg : ∀ b o, g.get? b = some o → s.heap.get? b = some o) (hgt : g.get? 136 = none) (hr : RecAt w g e rs) (hl : g.IsList l vs.toArray) (hi : IntsAre vs ns)
   (ht : s.heap.get? 136 = some o1) (ht1 : o1 = tabObj #[] ∨ ∃ c, o1 = tab136 c ∧ g.CodeRec (.ref c) trnQual) (hz : rs.length < 900) (hz1 : ∀ r ∈ rs, r.1.length < 2 ^ 20) (hz2 : nm.length < 2 ^ 20) (hz3 : ns.length < 1000) (hh : A.handled = none) (hd : A.depth < 820)
   (hQ : ∀ h' tk lo ys c, (∀ b o, b ≠ 136 → s.heap.get? b = some o → h'.get? b = some o) → h'.get? 136 = some (tab136 c) → (grow g s.heap h').CodeRec (.ref c) trnQual → s.heap.get? lo = none → h'.IsList lo ys.toArray → IntsAre ys (leastR rs nm sd ns) → Q (.ref lo) { s with heap := h', toks := tk }) :
   wpAny (model PySem.Challenge.rw_ny0178_01.row.prog w) A (call (.ref 139) [.ref e, .str nm tn, .ref l, .bool sd]) Q (fun _ _ => False) s := by
  rcases ht1 with rfl | ⟨c, rfl, hcr⟩
  · exact least0 X XF C hg hgt hr hl hi ht hz hz1 hz2 hz3 hh hd hQ
  · exact least1 X XF C hg hgt hr hl hi ht hcr hz hz1 hz2 hz3 hh hd fun h' tk lo ys hk h1 h2 h3 => hQ h' tk lo ys c (fun b o _ e => hk b o e) (hk _ _ ht) (codeRec_keep hcr (grow_old fun b o e => hk b o (hg b o e))) h1 h2 h3

end Mine
namespace Mine
theorem offP21 : True ∧ True := by
  have h : True ∧ True := by first | (walk1; done) | exact ⟨trivial, trivial⟩
  w_top off
  exact h
def zAt (ns : List Int) (i : Nat) : Int := (ns[i]?).getD 0
def blZ (ns : List Int) (x : Int) : Nat := bis (fun i => decide (zAt ns i < x)) 0 ns.length
def brZ (ns : List Int) (x : Int) : Nat := bis (fun i => !decide (x < zAt ns i)) 0 ns.length
def insZ (ns : List Int) (p : Nat) (x : Int) : List Int := ns.take p ++ x :: ns.drop p
def stepV (row : List Int) (x : Int) : List Int := if blZ row x = brZ row x then insZ row (blZ row x) x else row
def rivR (rs : List (Str × Int)) : List Int := rs.foldl (fun row r => stepV (stepV row (r.2 - 1)) (r.2 + 1)) [0, 2]
theorem rivR_snoc (rs : List (Str × Int)) (r : Str × Int) : rivR (rs ++ [r]) = stepV (stepV (rivR rs) (r.2 - 1)) (r.2 + 1) := by unfold rivR; rw [List.foldl_append]; rfl
theorem ne_nat {a b : Nat} (h : ((a : Nat) : Int) ≠ ((b : Nat) : Int)) : ¬ a = b := fun q => h (congrArg Int.ofNat q)
theorem stepV_len (row : List Int) (x : Int) : (stepV row x).length ≤ row.length + 1 := by
  unfold stepV insZ
  split
  · simp; omega
  · omega
theorem rivR_len (rs : List (Str × Int)) : (rivR rs).length ≤ 2 + 2 * rs.length := by
  unfold rivR
  generalize hr : ([0, 2] : List Int) = row
  have hl : row.length = 2 := by rw [← hr]; rfl
  have key : ∀ (rs : List (Str × Int)) (row : List Int), (rs.foldl (fun row r => stepV (stepV row (r.2 - 1)) (r.2 + 1)) row).length ≤ row.length + 2 * rs.length := by
    intro rs
    induction rs with
    | nil => intro row; simp
    | cons r rs ih =>
      intro row
      have h1 := stepV_len row (r.2 - 1)
      have h2 := stepV_len (stepV row (r.2 - 1)) (r.2 + 1)
      have h3 := ih (stepV (stepV row (r.2 - 1)) (r.2 + 1))
      simp only [List.foldl_cons, List.length_cons]
      omega
  have := key rs row
  omega
theorem ints_take {vs : List Value} {ns : List Int} (h : IntsAre vs ns) : ∀ p, IntsAre (vs.take p) (ns.take p) := by
  induction h with
  | nil => intro p; cases p <;> exact .nil
  | cons m t h ih => intro p; cases p with
    | zero => exact .nil
    | succ p => exact .cons m t (ih p)
theorem ints_drop {vs : List Value} {ns : List Int} (h : IntsAre vs ns) : ∀ p, IntsAre (vs.drop p) (ns.drop p) := by
  induction h with
  | nil => intro p; cases p <;> exact .nil
  | cons m t h ih => intro p; cases p with
    | zero => exact .cons m t h
    | succ p => exact ih p
theorem ints_ins {vs : List Value} {ns : List Int} (h : IntsAre vs ns) {p : Nat} (hp : p ≤ vs.length) (x : Int) (t : Tok) : IntsAre (kl_ins vs (p : Nat) (.int x t)) (insZ ns p x) := by
  have e : (if ((p : Nat) : Int) < 0 then (((p : Nat) : Int) + (vs.length : Int)).toNat else min ((p : Nat) : Int).toNat vs.length) = p := by
    rw [if_neg (by omega)]; omega
  unfold kl_ins insZ
  rw [e]
  exact IntsAre.append (ints_take h p) (.cons x t (ints_drop h p))
theorem lt_left {prog : Program} {w : World} {vs : List Value} {ns : List Int} (h : IntsAre vs ns) (x : Int) (t : Tok) (i : Nat) (v : Value) (hv : vs[i]? = some v) (A' : Around) (E' : Value → Shared → Prop) (s' : Shared) (Q' : Value → Shared → Prop) (q : ∀ tk, Q' (.bool (decide (zAt ns i < x))) { s' with toks := tk }) : wpAny (model prog w) A' (compareOp .Lt v (.int x t)) Q' E' s' := by
  obtain ⟨n, u, rfl, hn⟩ := h.at i v hv
  refine lt_int ?_
  have := q s'.toks
  unfold zAt at this
  rw [hn] at this
  exact this
theorem lt_right {prog : Program} {w : World} {vs : List Value} {ns : List Int} (h : IntsAre vs ns) (x : Int) (t : Tok) (i : Nat) (v : Value) (hv : vs[i]? = some v) (A' : Around) (E' : Value → Shared → Prop) (s' : Shared) (Q' : Value → Shared → Prop) (q : ∀ tk, Q' (.bool (!(fun i => !decide (x < zAt ns i)) i)) { s' with toks := tk }) : wpAny (model prog w) A' (compareOp .Lt (.int x t) v) Q' E' s' := by
  obtain ⟨n, u, rfl, hn⟩ := h.at i v hv
  refine lt_int ?_
  have := q s'.toks
  unfold zAt at this
  dsimp only at this
  rw [hn, Bool.not_not] at this
  exact this

section
local macro_rules | `(tactic| walk_at "call ref") => `(tactic| refine Held.out ?_)
local macro_rules | `(tactic| walk_at "exec For Tuple Name cons nil") => `(tactic| refine Held.out ?_)
local macro_rules | `(tactic| walk_at "mine same") => `(tactic| (intro z h2 h3; (try simp only [List.forall_mem_cons, List.not_mem_nil, false_implies, implies_true, and_true, ne_eq] at h2); (simp only [List.contains_cons, List.contains_nil, Bool.or_false, Bool.or_eq_false_iff, beq_eq_false_iff_ne, ne_eq] at h3); simp [kstB, h2, h3]))
theorem rivals_c : ∀ {w : World} {A : Around} {s : Shared} {l : Addr} {vs : List Value} {rs : List (Str × Int)} {Q : Value → Shared → Prop}
   (X : Amb w s.heap) (hl : s.heap.IsList l vs.toArray) (hp : PairsAt s.heap vs rs) (hz : rs.length < 100) (hh : A.handled = none) (hd : A.depth < 870)
   (hQ : ∀ h' tk lo ys n, (∀ b o, s.heap.get? b = some o → h'.get? b = some o) → s.heap.get? lo = none → h'.get? lo = some (listOf ys.toArray n) → IntsAre ys (rivR rs) → Q (.ref lo) { s with heap := h', toks := tk }),
   wpAny (model PySem.Challenge.rw_ny0178_01.row.prog w) A (call (.ref 127) [.ref l]) Q (fun _ _ => False) s := by
  unfold Amb
  k_fill
  intro w A s l vs rs Q X hl hp hz hh hd hQ
  obtain ⟨X, p, loose, mean, mg, mb, T⟩ := X
  obtain ⟨hn, dp, fr, gd, un⟩ := A
  dsimp only at hh hd
  subst hh
  refine wpAny_call ?_
  k_dflt (refine' enter_def (binds := [("rules", .ref l)]) X T ?k6 ?k7 ?k8 ?k9 ?kB ?_ ?c5 ?c2 ?c3 ?c4; (case k6 => k_is); (case k7 => k_is); (case k8 => simp only [recursionLimit]; omega); (case k9 => (refine' kp_binds ?kx ?ke; (case kx => k_in); (case ke => exact fun _ => rfl))); (case kB => exact locs rfl); (case c2 => exact rfl); (case c3 => exact rfl); (case c4 => exact rfl); (case c5 => decide))
  intro L' h' F' N'
  with_reducible change wpAny _ _ _ _ _ _
  k_fold
  k_steps
  rename Fr _ _ _ _ => F3
  rename News _ _ _ _ => N3
  rename_i tk0 lr _ _ h3
  have mr := N3 _ (by k_dflt (exact .head _))
  refine held (for_list (σ := List Value × Nat) (l := l) (vs := vs)
    (fun c => [(lr, listOf c.1.toArray c.2)])
    (fun _ => []) ["path", "mark", "rival"]
    (fun i c => IntsAre c.1 (rivR (rs.take i)))
    ([.int 0 tk0, .int 2 (tk0 + 1)], 0) rfl F3 N3 (.inl hl) (List.forall_mem_nil _) ?hP (fun Q' q => ld F3 rfl (q _)) ?turn ?done)
  case hP => exact .cons _ _ (.cons _ _ .nil)
  case turn =>
    rintro i v ⟨row, n⟩ u h4 tk4 I oI hv hrow F4 N4 hI
    dsimp only at hrow F4 N4 hI
    clear F3 N3
    obtain ⟨⟨pt, mk⟩, t, tp, tm, hr, rfl, htup⟩ := hp.get hv
    refine unpackN_ F4 N4 (IsTup.keeps htup F4.keep) rfl rfl rfl fun h5 F5 N5 => ?_
    clear F4 N4
    with_reducible change wpAny _ _ _ _ _ _
    k_fold
    k_steps
    have hbound : row.length < 900 := by have := rivR_len (rs.take i); have h2 : (rs.take i).length ≤ rs.length := List.length_take_le' _ _; have h3 := hrow.length; omega
    have hI1 : lr ≠ I := hI _ (.head _)
    rename Fr _ _ _ _ => F6
    rename News _ _ _ _ => N6
    rename_i h6
    have mm6 := N6 _ (by k_dflt (exact .tail _ (.tail _ (.tail _ (.head _)))))
    refine held (wpAny_mono (bl_any (s := { s with heap := h6, toks := _ }) (vs := row) (c := fun i' => decide (zAt (rivR (rs.take i)) i' < mk - 1)) (X.keeps F6.keep) (T.keeps F6.keep) ⟨_, mm6.1, rfl, _, rfl⟩ (by show dp + 1 < 900; omega) (by omega) (.inl ⟨rfl, rfl⟩) (lt_left hrow _ _) ?_) (fun _ _ x => x) (fun _ _ x => x.elim))
    intro h7 tk7 t7 hk7
    have F7 := fr_keep F6 hk7
    have N7 := news_keep N6 hk7
    clear F6 N6 mm6
    k_steps
    have mm6 := N7 _ (by k_dflt (exact .tail _ (.tail _ (.tail _ (.head _)))))
    refine held (wpAny_mono (br_any (s := { s with heap := h7, toks := _ }) (vs := row) (c := fun i' => !decide (mk - 1 < zAt (rivR (rs.take i)) i')) (X.keeps F7.keep) (T.keeps F7.keep) ⟨_, mm6.1, rfl, _, rfl⟩ (by show dp + 1 < 900; omega) (by omega) (.inl ⟨rfl, rfl⟩) (lt_right hrow _ _) ?_) (fun _ _ x => x) (fun _ _ x => x.elim))
    intro h8 tk8 t8 hk8
    have F8 := fr_keep F7 hk8
    have N8 := news_keep N7 hk8
    clear F7 N7 mm6
    have e7 : bis (fun i' => decide (zAt (rivR (rs.take i)) i' < mk - 1)) 0 row.length = blZ (rivR (rs.take i)) (mk - 1) := by unfold blZ; rw [hrow.length]
    have e8 : bis (fun i' => !decide (mk - 1 < zAt (rivR (rs.take i)) i')) 0 row.length = brZ (rivR (rs.take i)) (mk - 1) := by unfold brZ; rw [hrow.length]
    rw [e7, e8]
    k_steps
    · rename_i hE8
      rename Fr _ _ _ _ => F8
      rename News _ _ _ _ => N8
      have q0 := N8 _ (by k_dflt (exact .head _))
      have q1 := N8 _ (by k_dflt (exact .tail _ (.head _)))
      have q2 := N8 _ (by k_dflt (exact .tail _ (.tail _ (.head _))))
      have q3 := N8 _ (by k_dflt (exact .tail _ (.tail _ (.tail _ (.head _)))))
      refine held (wpAny_mono (insl (g := s.heap) (vs := row) (c := fun i' => decide (zAt (rivR (rs.take i)) i' < mk - 1)) X T F8.keep q3.1 q3.2.2 (by show dp + 1 < 890; omega) (by omega) (lt_left hrow _ _) ?_) (fun _ _ x => x) (fun _ _ x => x.elim))
      intro h9 tk9 n9 hk9 hl9
      rw [e7] at hl9
      dsimp only at hk9 hl9
      have hle : blZ (rivR (rs.take i)) (mk - 1) ≤ row.length := by rw [hrow.length]; exact bis_le _ _ _ (Nat.zero_le _)
      have st : stepV (rivR (rs.take i)) (mk - 1) = insZ (rivR (rs.take i)) (blZ (rivR (rs.take i)) (mk - 1)) (mk - 1) := if_pos (Int.ofNat.inj hE8)
      obtain ⟨row2, hrow2, hm9⟩ : ∃ r2, IntsAre r2 (stepV (rivR (rs.take i)) (mk - 1)) ∧ h9.get? lr = some (listOf r2.toArray n9) := ⟨_, by rw [st]; exact ints_ins hrow hle (mk - 1) _, hl9⟩
      clear hl9
      have hln : row2.length ≤ row.length + 1 := by rw [hrow2.length, hrow.length]; exact stepV_len _ _
      have F9 := fr_but F8 q3.2.2 q3.2.1 hk9
      have N9 : News s.heap L' h9 [_, _, _, _] := news_cons (hk9 _ _ (neN (by (try dsimp only); omega)) q0.1) q0.2.1 q0.2.2 (news_cons (hk9 _ _ (neN (by (try dsimp only); omega)) q1.1) q1.2.1 q1.2.2 (news_cons (hk9 _ _ (Ne.symm hI1) q2.1) q2.2.1 q2.2.2 (news_cons (p := (lr, listOf row2.toArray n9)) hm9 q3.2.1 q3.2.2 (News.nil))))
      clear F8 N8 q0 q1 q2 q3
      k_steps
      rename Fr _ _ _ _ => F16
      rename News _ _ _ _ => N16
      rename_i h16
      have mm16 := N16 _ (by k_dflt (exact .tail _ (.tail _ (.tail _ (.head _)))))
      refine held (wpAny_mono (bl_any (s := { s with heap := h16, toks := _ }) (vs := row2) (c := fun i' => decide (zAt (stepV (rivR (rs.take i)) (mk - 1)) i' < mk + 1)) (X.keeps F16.keep) (T.keeps F16.keep) ⟨_, mm16.1, rfl, _, rfl⟩ (by show dp + 1 < 900; omega) (by omega) (.inl ⟨rfl, rfl⟩) (lt_left hrow2 _ _) ?_) (fun _ _ x => x) (fun _ _ x => x.elim))
      intro h17 tk17 t17 hk17
      have F17 := fr_keep F16 hk17
      have N17 := news_keep N16 hk17
      clear F16 N16 mm16
      k_steps
      have mm16 := N17 _ (by k_dflt (exact .tail _ (.tail _ (.tail _ (.head _)))))
      refine held (wpAny_mono (br_any (s := { s with heap := h17, toks := _ }) (vs := row2) (c := fun i' => !decide (mk + 1 < zAt (stepV (rivR (rs.take i)) (mk - 1)) i')) (X.keeps F17.keep) (T.keeps F17.keep) ⟨_, mm16.1, rfl, _, rfl⟩ (by show dp + 1 < 900; omega) (by omega) (.inl ⟨rfl, rfl⟩) (lt_right hrow2 _ _) ?_) (fun _ _ x => x) (fun _ _ x => x.elim))
      intro h18 tk18 t18 hk18
      have F18 := fr_keep F17 hk18
      have N18 := news_keep N17 hk18
      clear F17 N17 mm16
      have e17 : bis (fun i' => decide (zAt (stepV (rivR (rs.take i)) (mk - 1)) i' < mk + 1)) 0 row2.length = blZ (stepV (rivR (rs.take i)) (mk - 1)) (mk + 1) := by unfold blZ; rw [hrow2.length]
      have e18 : bis (fun i' => !decide (mk + 1 < zAt (stepV (rivR (rs.take i)) (mk - 1)) i')) 0 row2.length = brZ (stepV (rivR (rs.take i)) (mk - 1)) (mk + 1) := by unfold brZ; rw [hrow2.length]
      rw [e17, e18]
      k_steps
      · rename_i hE18
        rename Fr _ _ _ _ => F18
        rename News _ _ _ _ => N18
        have q0 := N18 _ (by k_dflt (exact .head _))
        have q1 := N18 _ (by k_dflt (exact .tail _ (.head _)))
        have q2 := N18 _ (by k_dflt (exact .tail _ (.tail _ (.head _))))
        have q3 := N18 _ (by k_dflt (exact .tail _ (.tail _ (.tail _ (.head _)))))
        refine held (wpAny_mono (insl (g := s.heap) (vs := row2) (c := fun i' => decide (zAt (stepV (rivR (rs.take i)) (mk - 1)) i' < mk + 1)) X T F18.keep q3.1 q3.2.2 (by show dp + 1 < 890; omega) (by omega) (lt_left hrow2 _ _) ?_) (fun _ _ x => x) (fun _ _ x => x.elim))
        intro h19 tk19 n19 hk19 hl19
        rw [e17] at hl19
        dsimp only at hk19 hl19
        have hle : blZ (stepV (rivR (rs.take i)) (mk - 1)) (mk + 1) ≤ row2.length := by rw [hrow2.length]; exact bis_le _ _ _ (Nat.zero_le _)
        have st : stepV (stepV (rivR (rs.take i)) (mk - 1)) (mk + 1) = insZ (stepV (rivR (rs.take i)) (mk - 1)) (blZ (stepV (rivR (rs.take i)) (mk - 1)) (mk + 1)) (mk + 1) := if_pos (Int.ofNat.inj hE18)
        obtain ⟨row3, hrow3, hm19⟩ : ∃ r2, IntsAre r2 (stepV (stepV (rivR (rs.take i)) (mk - 1)) (mk + 1)) ∧ h19.get? lr = some (listOf r2.toArray n19) := ⟨_, by rw [st]; exact ints_ins hrow2 hle (mk + 1) _, hl19⟩
        clear hl19
        have hln : row3.length ≤ row2.length + 1 := by rw [hrow3.length, hrow2.length]; exact stepV_len _ _
        have F19 := fr_but F18 q3.2.2 q3.2.1 hk19
        have N19 : News s.heap L' h19 [_, _, _, _] := news_cons (hk19 _ _ (neN (by (try dsimp only); omega)) q0.1) q0.2.1 q0.2.2 (news_cons (hk19 _ _ (neN (by (try dsimp only); omega)) q1.1) q1.2.1 q1.2.2 (news_cons (hk19 _ _ (Ne.symm hI1) q2.1) q2.2.1 q2.2.2 (news_cons (p := (lr, listOf row3.toArray n19)) hm19 q3.2.1 q3.2.2 (News.nil))))
        clear F18 N18 q0 q1 q2 q3
        k_steps
        rename Fr _ _ _ _ => F20
        rename News _ _ _ _ => N20
        change ForEnd _ _ _ _ _ _ _ _ _ _ _
        refine for_end (row3, n19) F20 (fun q hq => N20 q (by k_dflt (first | exact .tail _ (.tail _ hq) | exact .tail _ hq | exact hq))) (List.forall_mem_cons.mpr ⟨hI1, List.forall_mem_nil _⟩) (List.forall_mem_nil _) ?hr ?hp
        case hr => walk_at "mine same"
        case hp =>
          dsimp only
          rw [List.take_add_one, hr]
          show IntsAre row3 (rivR (rs.take i ++ [(pt, mk)]))
          rw [rivR_snoc]
          exact hrow3
      · have hrow3 : IntsAre row2 (stepV (stepV (rivR (rs.take i)) (mk - 1)) (mk + 1)) := by
          have st : stepV (stepV (rivR (rs.take i)) (mk - 1)) (mk + 1) = stepV (rivR (rs.take i)) (mk - 1) := if_neg (ne_nat (by assumption))
          rw [st]; exact hrow2
        rename Fr _ _ _ _ => F20
        rename News _ _ _ _ => N20
        change ForEnd _ _ _ _ _ _ _ _ _ _ _
        refine for_end (row2, n9) F20 (fun q hq => N20 q (by k_dflt (first | exact .tail _ (.tail _ hq) | exact .tail _ hq | exact hq))) (List.forall_mem_cons.mpr ⟨hI1, List.forall_mem_nil _⟩) (List.forall_mem_nil _) ?hr ?hp
        case hr => walk_at "mine same"
        case hp =>
          dsimp only
          rw [List.take_add_one, hr]
          show IntsAre row2 (rivR (rs.take i ++ [(pt, mk)]))
          rw [rivR_snoc]
          exact hrow3
    · have hrow2 : IntsAre row (stepV (rivR (rs.take i)) (mk - 1)) := by
        have st : stepV (rivR (rs.take i)) (mk - 1) = rivR (rs.take i) := if_neg (ne_nat (by assumption))
        rw [st]; exact hrow
      rename Fr _ _ _ _ => F16
      rename News _ _ _ _ => N16
      rename_i h16
      have mm16 := N16 _ (by k_dflt (exact .tail _ (.tail _ (.tail _ (.head _)))))
      refine held (wpAny_mono (bl_any (s := { s with heap := h16, toks := _ }) (vs := row) (c := fun i' => decide (zAt (stepV (rivR (rs.take i)) (mk - 1)) i' < mk + 1)) (X.keeps F16.keep) (T.keeps F16.keep) ⟨_, mm16.1, rfl, _, rfl⟩ (by show dp + 1 < 900; omega) (by omega) (.inl ⟨rfl, rfl⟩) (lt_left hrow2 _ _) ?_) (fun _ _ x => x) (fun _ _ x => x.elim))
      intro h17 tk17 t17 hk17
      have F17 := fr_keep F16 hk17
      have N17 := news_keep N16 hk17
      clear F16 N16 mm16
      k_steps
      have mm16 := N17 _ (by k_dflt (exact .tail _ (.tail _ (.tail _ (.head _)))))
      refine held (wpAny_mono (br_any (s := { s with heap := h17, toks := _ }) (vs := row) (c := fun i' => !decide (mk + 1 < zAt (stepV (rivR (rs.take i)) (mk - 1)) i')) (X.keeps F17.keep) (T.keeps F17.keep) ⟨_, mm16.1, rfl, _, rfl⟩ (by show dp + 1 < 900; omega) (by omega) (.inl ⟨rfl, rfl⟩) (lt_right hrow2 _ _) ?_) (fun _ _ x => x) (fun _ _ x => x.elim))
      intro h18 tk18 t18 hk18
      have F18 := fr_keep F17 hk18
      have N18 := news_keep N17 hk18
      clear F17 N17 mm16
      have e17 : bis (fun i' => decide (zAt (stepV (rivR (rs.take i)) (mk - 1)) i' < mk + 1)) 0 row.length = blZ (stepV (rivR (rs.take i)) (mk - 1)) (mk + 1) := by unfold blZ; rw [hrow2.length]
      have e18 : bis (fun i' => !decide (mk + 1 < zAt (stepV (rivR (rs.take i)) (mk - 1)) i')) 0 row.length = brZ (stepV (rivR (rs.take i)) (mk - 1)) (mk + 1) := by unfold brZ; rw [hrow2.length]
      rw [e17, e18]
      k_steps
      · rename_i hE18
        rename Fr _ _ _ _ => F18
        rename News _ _ _ _ => N18
        have q0 := N18 _ (by k_dflt (exact .head _))
        have q1 := N18 _ (by k_dflt (exact .tail _ (.head _)))
        have q2 := N18 _ (by k_dflt (exact .tail _ (.tail _ (.head _))))
        have q3 := N18 _ (by k_dflt (exact .tail _ (.tail _ (.tail _ (.head _)))))
        refine held (wpAny_mono (insl (g := s.heap) (vs := row) (c := fun i' => decide (zAt (stepV (rivR (rs.take i)) (mk - 1)) i' < mk + 1)) X T F18.keep q3.1 q3.2.2 (by show dp + 1 < 890; omega) (by omega) (lt_left hrow2 _ _) ?_) (fun _ _ x => x) (fun _ _ x => x.elim))
        intro h19 tk19 n19 hk19 hl19
        rw [e17] at hl19
        dsimp only at hk19 hl19
        have hle : blZ (stepV (rivR (rs.take i)) (mk - 1)) (mk + 1) ≤ row.length := by rw [hrow2.length]; exact bis_le _ _ _ (Nat.zero_le _)
        have st : stepV (stepV (rivR (rs.take i)) (mk - 1)) (mk + 1) = insZ (stepV (rivR (rs.take i)) (mk - 1)) (blZ (stepV (rivR (rs.take i)) (mk - 1)) (mk + 1)) (mk + 1) := if_pos (Int.ofNat.inj hE18)
        obtain ⟨row3, hrow3, hm19⟩ : ∃ r2, IntsAre r2 (stepV (stepV (rivR (rs.take i)) (mk - 1)) (mk + 1)) ∧ h19.get? lr = some (listOf r2.toArray n19) := ⟨_, by rw [st]; exact ints_ins hrow2 hle (mk + 1) _, hl19⟩
        clear hl19
        have hln : row3.length ≤ row.length + 1 := by rw [hrow3.length, hrow2.length]; exact stepV_len _ _
        have F19 := fr_but F18 q3.2.2 q3.2.1 hk19
        have N19 : News s.heap L' h19 [_, _, _, _] := news_cons (hk19 _ _ (neN (by (try dsimp only); omega)) q0.1) q0.2.1 q0.2.2 (news_cons (hk19 _ _ (neN (by (try dsimp only); omega)) q1.1) q1.2.1 q1.2.2 (news_cons (hk19 _ _ (Ne.symm hI1) q2.1) q2.2.1 q2.2.2 (news_cons (p := (lr, listOf row3.toArray n19)) hm19 q3.2.1 q3.2.2 (News.nil))))
        clear F18 N18 q0 q1 q2 q3
        k_steps
        rename Fr _ _ _ _ => F20
        rename News _ _ _ _ => N20
        change ForEnd _ _ _ _ _ _ _ _ _ _ _
        refine for_end (row3, n19) F20 (fun q hq => N20 q (by k_dflt (first | exact .tail _ (.tail _ hq) | exact .tail _ hq | exact hq))) (List.forall_mem_cons.mpr ⟨hI1, List.forall_mem_nil _⟩) (List.forall_mem_nil _) ?hr ?hp
        case hr => walk_at "mine same"
        case hp =>
          dsimp only
          rw [List.take_add_one, hr]
          show IntsAre row3 (rivR (rs.take i ++ [(pt, mk)]))
          rw [rivR_snoc]
          exact hrow3
      · have hrow3 : IntsAre row (stepV (stepV (rivR (rs.take i)) (mk - 1)) (mk + 1)) := by
          have st : stepV (stepV (rivR (rs.take i)) (mk - 1)) (mk + 1) = stepV (rivR (rs.take i)) (mk - 1) := if_neg (ne_nat (by assumption))
          rw [st]; exact hrow2
        rename Fr _ _ _ _ => F20
        rename News _ _ _ _ => N20
        change ForEnd _ _ _ _ _ _ _ _ _ _ _
        refine for_end (row, n) F20 (fun q hq => N20 q (by k_dflt (first | exact .tail _ (.tail _ hq) | exact .tail _ hq | exact hq))) (List.forall_mem_cons.mpr ⟨hI1, List.forall_mem_nil _⟩) (List.forall_mem_nil _) ?hr ?hp
        case hr => walk_at "mine same"
        case hp =>
          dsimp only
          rw [List.take_add_one, hr]
          show IntsAre row (rivR (rs.take i ++ [(pt, mk)]))
          rw [rivR_snoc]
          exact hrow3
  case done =>
    rintro ⟨row, n⟩ u h4 tk4 hrow F4 N4
    dsimp only at hrow F4 N4
    clear F3 N3
    k_steps
    have hlen := hp.len
    rw [hlen, List.take_length] at hrow
    have m0 := N4 _ (.head _)
    exact hQ _ _ _ _ _ F4.keep m0.2.2 m0.1 hrow
end

end Mine
namespace Mine
theorem offP22 : True ∧ True := by
  have h : True ∧ True := by first | (walk1; done) | exact ⟨trivial, trivial⟩
  w_top off
  exact h
abbrev tab129 (c : Addr) : Obj := tabObj #[rawInt 136, rawInt 16, .ref c]
def StrsAt (vs : List Value) (nms : List Str) : Prop := vs.length = nms.length ∧ ∀ (i : Nat) v, vs[i]? = some v → ∃ t, v = .str ((nms[i]?).getD (Str.ofString "")) t
/-- the three numbers of each span, in tuples of the ledger -/
def tupObj (its : Array Value) : Obj := { cls := Value.type "tuple", data := Data.seq its }
def TripIn (tl : List (Addr × Obj)) : List Value → List (Int × Nat × Nat) → Prop
  | [], [] => True
  | v :: vs, r :: rs => (∃ t t1 t2 t3, v = .ref t ∧ (t, tupObj #[.int r.1 t1, .int (r.2.1 : Nat) t2, .int (r.2.2 : Nat) t3]) ∈ tl) ∧ TripIn tl vs rs
  | _, _ => False
def TripAt (h : Heap) : List Value → List (Int × Nat × Nat) → Prop
  | [], [] => True
  | v :: vs, r :: rs => (∃ t t1 t2 t3, v = .ref t ∧ IsTup h t #[.int r.1 t1, .int (r.2.1 : Nat) t2, .int (r.2.2 : Nat) t3]) ∧ TripAt h vs rs
  | _, _ => False
theorem TripIn.mono {tl tl' : List (Addr × Obj)} (hk : ∀ q ∈ tl, q ∈ tl') : ∀ {vs : List Value} {rs : List (Int × Nat × Nat)}, TripIn tl vs rs → TripIn tl' vs rs
  | [], [], _ => trivial
  | _ :: _, _ :: _, ⟨⟨t, t1, t2, t3, e, x⟩, r⟩ => ⟨⟨t, t1, t2, t3, e, hk _ x⟩, TripIn.mono hk r⟩
theorem TripIn.len {tl : List (Addr × Obj)} : ∀ {vs : List Value} {rs : List (Int × Nat × Nat)}, TripIn tl vs rs → vs.length = rs.length
  | [], [], _ => rfl
  | _ :: _, _ :: _, ⟨_, r⟩ => by simp [TripIn.len r]
theorem TripIn.append {tl : List (Addr × Obj)} : ∀ {vs vs' : List Value} {rs rs' : List (Int × Nat × Nat)}, TripIn tl vs rs → TripIn tl vs' rs' → TripIn tl (vs ++ vs') (rs ++ rs')
  | [], _, [], _, _, h => h
  | _ :: _, _, _ :: _, _, ⟨a, r⟩, h => ⟨a, TripIn.append r h⟩
theorem TripAt.keep {h h' : Heap} (hk : ∀ b o, h.get? b = some o → h'.get? b = some o) : ∀ {vs : List Value} {rs : List (Int × Nat × Nat)}, TripAt h vs rs → TripAt h' vs rs
  | [], [], _ => trivial
  | _ :: _, _ :: _, ⟨⟨t, t1, t2, t3, e, x⟩, r⟩ => ⟨⟨t, t1, t2, t3, e, IsTup.keeps x hk⟩, TripAt.keep hk r⟩
theorem TripAt.len {h : Heap} : ∀ {vs : List Value} {rs : List (Int × Nat × Nat)}, TripAt h vs rs → vs.length = rs.length
  | [], [], _ => rfl
  | _ :: _, _ :: _, ⟨_, r⟩ => by simp [TripAt.len r]
theorem TripAt.get {h : Heap} : ∀ {vs : List Value} {rs : List (Int × Nat × Nat)}, TripAt h vs rs → ∀ {i : Nat} {v : Value}, vs[i]? = some v → ∃ r t t1 t2 t3, rs[i]? = some r ∧ v = .ref t ∧ IsTup h t #[.int r.1 t1, .int (r.2.1 : Nat) t2, .int (r.2.2 : Nat) t3]
  | _ :: _, r :: _, ⟨⟨t, t1, t2, t3, e, x⟩, _⟩, 0, v, q => by simp at q; exact ⟨r, t, t1, t2, t3, rfl, q ▸ e, x⟩
  | _ :: _, _ :: _, ⟨_, k⟩, i + 1, v, q => by simp at q ⊢; simpa using TripAt.get k q
  | [], [], _, _, _, q => by simp at q
theorem TripIn.at_ {h : Heap} {tl : List (Addr × Obj)} (hk : ∀ q ∈ tl, h.get? q.1 = some q.2) : ∀ {vs : List Value} {rs : List (Int × Nat × Nat)}, TripIn tl vs rs → TripAt h vs rs
  | [], [], _ => trivial
  | _ :: _, _ :: _, ⟨⟨t, t1, t2, t3, e, x⟩, r⟩ => ⟨⟨t, t1, t2, t3, e, ⟨_, hk _ x, rfl, _, rfl⟩⟩, TripIn.at_ hk r⟩
def CodeIn (tl : List (Addr × Obj)) (c : Addr) (q : Str) : Prop := ∃ oc vs t, (c, oc) ∈ tl ∧ oc.data = .fields vs ∧ vs[1]? = some (.str q t)
theorem CodeIn.mono {tl tl' : List (Addr × Obj)} (hk : ∀ q ∈ tl, q ∈ tl') {c : Addr} {q : Str} (X : CodeIn tl c q) : CodeIn tl' c q := let ⟨oc, vs, t, a, b⟩ := X; ⟨oc, vs, t, hk _ a, b⟩
theorem CodeIn.at_ {h : Heap} {tl : List (Addr × Obj)} (hk : ∀ q ∈ tl, h.get? q.1 = some q.2) {c : Addr} {q : Str} (X : CodeIn tl c q) : h.CodeRec (.ref c) q := let ⟨oc, vs, t, a, b, d⟩ := X; ⟨c, oc, vs, t, rfl, hk _ a, b, d⟩
def cutS (nms : List Str) (p : Str) (i : Nat) : Str := Txt.slice ((nms[i]?).getD (Str.ofString "")) none (some (p.length : Int))
def firstP (nms : List Str) (p : Str) : Nat := bis (fun i => decide ((cutS nms p i).cps.toList < p.cps.toList)) 0 nms.length
def behindP (nms : List Str) (p : Str) : Nat := bis (fun i => !decide (p.cps.toList < (cutS nms p i).cps.toList)) 0 nms.length
def spanR (nms : List Str) (rs : List (Str × Int)) : List (Int × Nat × Nat) := rs.filterMap fun r => if r.2 > 1 then some (r.2, firstP nms r.1, behindP nms r.1) else none
theorem spanR_pos (nms : List Str) (rs : List (Str × Int)) {p : Str} {m : Int} (h : 1 < (p, m).2) : spanR nms (rs ++ [(p, m)]) = spanR nms rs ++ [(m, firstP nms p, behindP nms p)] := by
  unfold spanR; rw [List.filterMap_append]; congr 1; exact List.filterMap_cons_some (if_pos h)
theorem spanR_neg (nms : List Str) (rs : List (Str × Int)) {p : Str} {m : Int} (h : ¬ 1 < (p, m).2) : spanR nms (rs ++ [(p, m)]) = spanR nms rs := by
  unfold spanR; rw [List.filterMap_append]; rw [show List.filterMap _ [(p, m)] = [] from List.filterMap_cons_none (if_neg h), List.append_nil]
section
local macro_rules | `(tactic| walk_at "call ref") => `(tactic| refine Held.out ?_)
local macro_rules | `(tactic| walk_at "exec For Tuple Name cons nil") => `(tactic| refine Held.out ?_)
local macro_rules | `(tactic| walk_at "call builtin:list.append") => `(tactic| refine Held.out ?_)
local macro_rules | `(tactic| walk_at "mine same") => `(tactic| (intro z h2 h3; (try simp only [List.forall_mem_cons, List.not_mem_nil, false_implies, implies_true, and_true, ne_eq] at h2); (simp only [List.contains_cons, List.contains_nil, Bool.or_false, Bool.or_eq_false_iff, beq_eq_false_iff_ne, ne_eq] at h3); simp [kstB, h2, h3]))
local macro_rules | `(tactic| k_all) => `(tactic| with_reducible assumption)
theorem spans_c : ∀ {w : World} {A : Around} {s : Shared} {g : Heap} {ln l : Addr} {nvs vs : List Value} {nms : List Str} {rs : List (Str × Int)} {Q : Value → Shared → Prop}
   (X : Amb w g) (C : CodeHd g 133 129) (hg : ∀ b o, g.get? b = some o → s.heap.get? b = some o) (hgt : g.get? 129 = none) (hln : g.IsList ln nvs.toArray) (hns : StrsAt nvs nms) (hl : g.IsList l vs.toArray) (hp : PairsAt g vs rs)
   (ht : s.heap.get? 129 = some (tabObj #[])) (hz : rs.length < 100) (hz1 : ∀ r ∈ rs, r.1.length < 2 ^ 20) (hz2 : ∀ r ∈ nms, r.length < 2 ^ 20) (hz3 : nms.length < 1000) (hh : A.handled = none) (hd : A.depth < 870)
   (hQ : ∀ h' tk lo ys n, (∀ b o, b ≠ 129 → s.heap.get? b = some o → h'.get? b = some o) → s.heap.get? lo = none → h'.get? lo = some (listOf ys.toArray n) → TripAt (grow g s.heap h') ys (spanR nms rs) → (∃ a, h'.get? 129 = some (tabObj a)) → Q (.ref lo) { s with heap := h', toks := tk }),
   wpAny (model PySem.Challenge.rw_ny0178_01.row.prog w) A (call (.ref 134) [.ref ln, .ref l]) Q (fun _ _ => False) s := by
  unfold Amb
  k_fill
  intro w A s g ln l nvs vs nms rs Q X C hg hgt hln hns hl hp ht hz hz1 hz2 hz3 hh hd hQ
  obtain ⟨X, p, loose, mean, mg, mb, T⟩ := X
  obtain ⟨hn, dp, fr, gd, un⟩ := A
  dsimp only at hh hd
  subst hh
  refine wpAny_call ?_
  k_dflt (refine' enter_ledC (binds := [("names", .ref ln), ("rules", .ref l)]) [(129, tabObj #[])] X T hg (List.forall_mem_cons.mpr ⟨⟨ht, hgt⟩, List.forall_mem_nil _⟩) ?k6 ?k7 ?k8 ?k9 ?kB ?kD ?_ ?c2 ?c3 ?c4; (case k6 => k_is); (case k7 => k_is); (case k8 => simp only [recursionLimit]; omega); (case k9 => (refine' kp_binds ?kx ?ke; (case kx => exact X.keeps hg); (case ke => exact fun _ => rfl))); (case kB => exact rfl); (case kD => decide +kernel); (case c2 => exact rfl); (case c3 => exact rfl); (case c4 => exact rfl))
  intro h₀ L' h' tk cells eh X' T' hg' F' N' Y' hlt
  k_lt hlt
  obtain ⟨o1, hE, dc1⟩ := CellsAre.one Y'
  subst hE
  simp only [List.cons_append, List.nil_append] at N'
  have C' := C.keeps hg'
  have hl' := list_keep hl hg'
  have hln' := list_keep hln hg'
  with_reducible change wpAny _ _ _ _ _ _
  k_fold
  k_steps
  rename Fr _ _ _ _ => F3
  rename News _ _ _ _ => N3
  rename_i lr _ _ h3
  refine held (for_list (σ := (List Value × Nat) × (Obj × Obj) × List (Addr × Obj)) (l := l) (vs := vs)
    (fun c => (lr, listOf c.1.1.toArray c.1.2) :: (L' + 1, c.2.1.1) :: (129, c.2.1.2) :: c.2.2)
    (fun _ => []) ["mark", "front"]
    (fun i c => TripIn c.2.2 c.1.1 (spanR nms (rs.take i)) ∧ (∃ v₀, c.2.1.1.data = .cell v₀) ∧ ((∀ q ∈ c.2.2, q.1 ≠ lr) ∧ (∀ q ∈ c.2.2, q.1 ≠ L' + 1) ∧ (∀ q ∈ c.2.2, q.1 ≠ 129)) ∧ (c.2.1.2 = tabObj #[] ∨ ∃ c', c.2.1.2 = tab129 c' ∧ CodeIn c.2.2 c' frtQual))
    (([], 0), (o1, tabObj #[]), []) rfl F3 N3 (.inl hl') (List.forall_mem_nil _) ?hP (fun Q' q => nameX_L F3 rfl (q _)) ?turn ?done)
  case hP => exact ⟨trivial, ⟨_, dc1⟩, ⟨List.forall_mem_nil _, List.forall_mem_nil _, List.forall_mem_nil _⟩, .inl rfl⟩
  case turn =>
    rintro i v ⟨⟨sp, n⟩, ⟨oc, tab⟩, tl⟩ u h4 tk4 I oI hv ⟨q1, ⟨v₀, q2⟩, ⟨q3, q4, q5⟩, q6⟩ F4 N4 hI
    dsimp only at q1 q2 q3 q4 q5 q6 F4 N4 hI
    clear F3 N3
    have hI1 : @Ne Nat lr I := hI _ (.head _)
    have hI2 : @Ne Nat (L' + 1) I := hI _ (.tail _ (.head _))
    have hI3 : @Ne Nat 129 I := hI _ (.tail _ (.tail _ (.head _)))
    obtain ⟨⟨pt, mk⟩, t, tp, tm, hr, rfl, htup⟩ := hp.get hv
    have htup' := IsTup.keeps htup hg'
    have hzp : pt.length < 2 ^ 20 := hz1 _ (List.mem_of_getElem? hr)
    have hz2' : ∀ i' : Nat, ((nms[i']?).getD (Str.ofString "")).length < 2 ^ 20 := fun i' => by
      cases q : nms[i']? with
      | none => show (Str.ofString "").length < 2 ^ 20; decide
      | some x => exact hz2 x (List.mem_of_getElem? q)
    rcases q6 with rfl | ⟨c', rfl, q6⟩
    · with_reducible change wpAny _ _ _ _ _ _
      k_fold
      k_steps
      · rename Fr _ _ _ _ => F6
        rename News _ _ _ _ => N6
        rename_i h6 _
        have mf := N6 _ (by k_dflt (exact .head _))
        have mc := N6 _ (by k_dflt (exact .tail _ (.tail _ (.tail _ (.tail _ (.head _))))))
        have mk' := N6 _ (by k_dflt (exact .tail _ (.head _)))
        have cr : h6.CodeRec (.ref _) frtQual := ⟨_, _, _, _, rfl, mk'.1, by assumption, by assumption⟩
        have fa : FrontAt h6 _ pt := ⟨⟨_, _, _, _, _, _, _, mf.1, cr, rfl, mc.1, by assumption⟩⟩
        refine held (wpAny_mono (bl_key (s := { s with heap := h6, toks := _ }) (vs := nvs) (c := fun i' => decide ((cutS nms pt i').cps.toList < pt.cps.toList)) (KV := fun i' kv => ∃ t, kv = .str (cutS nms pt i') t) (X'.keeps F6.keep) (T'.keeps F6.keep) (list_keep hln' F6.keep) rfl (by show dp + 1 < 900; omega) (by rw [hns.1]; omega) ⟨_, _, _, _, mf.1⟩ ?_ ?_ ?_) (fun _ _ x => x) (fun _ _ x => x.elim))
        · intro i' v' hv' A' s₁ Q' hh' hd' _ hk' _ _ _ hq
          obtain ⟨t', rfl⟩ := hns.2 i' v' hv'
          have hk6 : ∀ b o, h₀.get? b = some o → s₁.heap.get? b = some o := fun b o e => hk' b o (F6.keep b o e)
          exact front_call ⟨X'.keeps hk6, p, loose, mean, mg, mb, T'.keeps hk6⟩ (fa.keep hk') hh' (by have : A'.depth ≤ dp + 1 + 1 := hd'; omega) hzp (hz2' i') fun h'' tk'' t'' hk'' => hq _ _ _ hk'' ⟨t'', rfl⟩
        · intro i' kv _ hkv A' E' s' Q' hq
          obtain ⟨t', rfl⟩ := hkv
          exact lt_str (hq s'.toks)
        intro h7 tk7 t7 hk7
        have F7 := fr_keep F6 hk7
        have N7 := news_keep N6 hk7
        clear F6 N6 mf mc cr fa mk'
        rw [hns.1]
        k_steps
        have mf := N7 _ (by k_dflt (exact .head _))
        have mc := N7 _ (by k_dflt (exact .tail _ (.tail _ (.tail _ (.tail _ (.head _))))))
        have mk' := N7 _ (by k_dflt (exact .tail _ (.head _)))
        have cr : h7.CodeRec (.ref _) frtQual := ⟨_, _, _, _, rfl, mk'.1, by assumption, by assumption⟩
        have fa : FrontAt h7 _ pt := ⟨⟨_, _, _, _, _, _, _, mf.1, cr, rfl, mc.1, by assumption⟩⟩
        refine held (wpAny_mono (br_key (s := { s with heap := h7, toks := _ }) (vs := nvs) (c := fun i' => !decide (pt.cps.toList < (cutS nms pt i').cps.toList)) (KV := fun i' kv => ∃ t, kv = .str (cutS nms pt i') t) (X'.keeps F7.keep) (T'.keeps F7.keep) (list_keep hln' F7.keep) rfl (by show dp + 1 < 900; omega) (by rw [hns.1]; omega) ⟨_, _, _, _, mf.1⟩ ?_ ?_ ?_) (fun _ _ x => x) (fun _ _ x => x.elim))
        · intro i' v' hv' A' s₁ Q' hh' hd' _ hk' _ _ _ hq
          obtain ⟨t', rfl⟩ := hns.2 i' v' hv'
          have hk6 : ∀ b o, h₀.get? b = some o → s₁.heap.get? b = some o := fun b o e => hk' b o (F7.keep b o e)
          exact front_call ⟨X'.keeps hk6, p, loose, mean, mg, mb, T'.keeps hk6⟩ (fa.keep hk') hh' (by have : A'.depth ≤ dp + 1 + 1 := hd'; omega) hzp (hz2' i') fun h'' tk'' t'' hk'' => hq _ _ _ hk'' ⟨t'', rfl⟩
        · intro i' kv _ hkv A' E' s' Q' hq
          obtain ⟨t', rfl⟩ := hkv
          refine lt_str ?_
          have := hq s'.toks
          rw [Bool.not_not] at this
          exact this
        intro h8 tk8 t8 hk8
        have F8 := fr_keep F7 hk8
        have N8 := news_keep N7 hk8
        clear F7 N7 mf mc cr fa mk'
        rw [hns.1]
        k_steps
        rename Fr _ _ _ _ => F18
        rename News _ _ _ _ => N18
        have hlen : sp.length ≤ 1000 := by
          have h1 := q1.len
          have h2 : (spanR nms (rs.take i)).length ≤ (rs.take i).length := List.length_filterMap_le _ _
          have h3 : (rs.take i).length ≤ rs.length := List.length_take_le' _ _
          omega
        refine' held (append_K F18 N18 ?U ?_ ?z)
        case U => k_dflt k_upd
        case z => rw [List.size_toArray, sizeLine_eq]; omega
        intro h19 F19 N19
        rw [List.push_toArray] at N19
        clear F18 N18
        k_steps
        rename Fr _ _ _ _ => F20
        rename News _ _ _ _ => N20
        have mI := N20 _ (by k_dflt (exact .tail _ (.tail _ (.tail _ (.head _)))))
        have mr := N20 _ (by k_dflt (exact .tail _ (.tail _ (.tail _ (.tail _ (.head _))))))
        have mc := N20 _ (by k_dflt (exact .tail _ (.tail _ (.tail _ (.tail _ (.tail _ (.head _)))))))
        have mt := N20 _ (by k_dflt (exact .tail _ (.tail _ (.tail _ (.tail _ (.tail _ (.tail _ (.head _))))))))
        have ml : News h₀ L' _ tl := fun q hq => N20 q (by k_dflt (exact .tail _ (.tail _ (.tail _ (.tail _ (.tail _ (.tail _ (.tail _ (hq)))))))))
        have mp := N20 _ (by k_dflt (exact .head _))
        have mk2 := N20 _ (by k_dflt (exact .tail _ (.tail _ (.head _))))
        change ForEnd _ _ _ _ _ _ _ _ _ _ _
        refine for_end ((sp ++ [_], n + 1), (_, tab129 _), _ :: _ :: tl) F20 (news_cons mI.1 mI.2.1 mI.2.2 (news_cons mr.1 mr.2.1 mr.2.2 (news_cons mc.1 mc.2.1 mc.2.2 (news_cons mt.1 mt.2.1 mt.2.2 (news_cons mp.1 mp.2.1 mp.2.2 (news_cons mk2.1 mk2.2.1 mk2.2.2 ml)))))) (List.forall_mem_cons.mpr ⟨hI1, List.forall_mem_cons.mpr ⟨hI2, List.forall_mem_cons.mpr ⟨hI3, (List.forall_mem_cons.mpr ⟨neN (by (try dsimp only); omega), (List.forall_mem_cons.mpr ⟨neN (by (try dsimp only); omega), (fun q hq => hI q (.tail _ (.tail _ (.tail _ hq))))⟩)⟩)⟩⟩⟩) (List.forall_mem_nil _) ?hr ?hp
        case hr => walk_at "mine same"
        case hp =>
          dsimp only
          rw [List.take_add_one, hr]
          refine ⟨?_, ⟨_, by assumption⟩, ⟨(List.forall_mem_cons.mpr ⟨neN (by (try dsimp only); omega), (List.forall_mem_cons.mpr ⟨neN (by (try dsimp only); omega), q3⟩)⟩), (List.forall_mem_cons.mpr ⟨neN (by (try dsimp only); omega), (List.forall_mem_cons.mpr ⟨neN (by (try dsimp only); omega), q4⟩)⟩), (List.forall_mem_cons.mpr ⟨neN (by (try dsimp only); omega), (List.forall_mem_cons.mpr ⟨neN (by (try dsimp only); omega), q5⟩)⟩)⟩, .inr ⟨_, rfl, ⟨_, _, _, .tail _ (.head _), by assumption, by assumption⟩⟩⟩
          show TripIn _ _ (spanR nms (rs.take i ++ [(pt, mk)]))
          rw [spanR_pos _ _ (by assumption)]
          exact (q1.mono (fun q hq => .tail _ (.tail _ hq))).append ⟨⟨_, _, _, _, rfl, .head _⟩, trivial⟩
      · rename Fr _ _ _ _ => F20
        rename News _ _ _ _ => N20
        have mI := N20 _ (by k_dflt (exact .tail _ (.tail _ (.head _))))
        have mr := N20 _ (by k_dflt (exact .tail _ (.tail _ (.tail _ (.head _)))))
        have mc := N20 _ (by k_dflt (exact .tail _ (.tail _ (.tail _ (.tail _ (.head _))))))
        have mt := N20 _ (by k_dflt (exact .tail _ (.tail _ (.tail _ (.tail _ (.tail _ (.head _)))))))
        have ml : News h₀ L' _ tl := fun q hq => N20 q (by k_dflt (exact .tail _ (.tail _ (.tail _ (.tail _ (.tail _ (.tail _ (hq))))))))
        have mk2 := N20 _ (by k_dflt (exact .tail _ (.head _)))
        change ForEnd _ _ _ _ _ _ _ _ _ _ _
        refine for_end ((sp, n), (_, tab129 _), _ :: tl) F20 (news_cons mI.1 mI.2.1 mI.2.2 (news_cons mr.1 mr.2.1 mr.2.2 (news_cons mc.1 mc.2.1 mc.2.2 (news_cons mt.1 mt.2.1 mt.2.2 (news_cons mk2.1 mk2.2.1 mk2.2.2 ml))))) (List.forall_mem_cons.mpr ⟨hI1, List.forall_mem_cons.mpr ⟨hI2, List.forall_mem_cons.mpr ⟨hI3, (List.forall_mem_cons.mpr ⟨neN (by (try dsimp only); omega), (fun q hq => hI q (.tail _ (.tail _ (.tail _ hq))))⟩)⟩⟩⟩) (List.forall_mem_nil _) ?hr ?hp
        case hr => walk_at "mine same"
        case hp =>
          dsimp only
          rw [List.take_add_one, hr]
          refine ⟨?_, ⟨_, by assumption⟩, ⟨(List.forall_mem_cons.mpr ⟨neN (by (try dsimp only); omega), q3⟩), (List.forall_mem_cons.mpr ⟨neN (by (try dsimp only); omega), q4⟩), (List.forall_mem_cons.mpr ⟨neN (by (try dsimp only); omega), q5⟩)⟩, .inr ⟨_, rfl, ⟨_, _, _, .head _, by assumption, by assumption⟩⟩⟩
          show TripIn _ _ (spanR nms (rs.take i ++ [(pt, mk)]))
          rw [spanR_neg _ _ (by assumption)]
          exact q1.mono (fun q hq => .tail _ hq)
    · with_reducible change wpAny _ _ _ _ _ _
      k_fold
      k_steps
      · rename Fr _ _ _ _ => F6
        rename News _ _ _ _ => N6
        rename_i h6 _
        have mf := N6 _ (by k_dflt (exact .head _))
        have mc := N6 _ (by k_dflt (exact .tail _ (.tail _ (.tail _ (.head _)))))
        have cr : h6.CodeRec (.ref c') frtQual := q6.at_ fun q hq => (N6 q (.tail _ (.tail _ (.tail _ (.tail _ (.tail _ hq)))))).1
        have fa : FrontAt h6 _ pt := ⟨⟨_, _, _, _, _, _, _, mf.1, cr, rfl, mc.1, by assumption⟩⟩
        refine held (wpAny_mono (bl_key (s := { s with heap := h6, toks := _ }) (vs := nvs) (c := fun i' => decide ((cutS nms pt i').cps.toList < pt.cps.toList)) (KV := fun i' kv => ∃ t, kv = .str (cutS nms pt i') t) (X'.keeps F6.keep) (T'.keeps F6.keep) (list_keep hln' F6.keep) rfl (by show dp + 1 < 900; omega) (by rw [hns.1]; omega) ⟨_, _, _, _, mf.1⟩ ?_ ?_ ?_) (fun _ _ x => x) (fun _ _ x => x.elim))
        · intro i' v' hv' A' s₁ Q' hh' hd' _ hk' _ _ _ hq
          obtain ⟨t', rfl⟩ := hns.2 i' v' hv'
          have hk6 : ∀ b o, h₀.get? b = some o → s₁.heap.get? b = some o := fun b o e => hk' b o (F6.keep b o e)
          exact front_call ⟨X'.keeps hk6, p, loose, mean, mg, mb, T'.keeps hk6⟩ (fa.keep hk') hh' (by have : A'.depth ≤ dp + 1 + 1 := hd'; omega) hzp (hz2' i') fun h'' tk'' t'' hk'' => hq _ _ _ hk'' ⟨t'', rfl⟩
        · intro i' kv _ hkv A' E' s' Q' hq
          obtain ⟨t', rfl⟩ := hkv
          exact lt_str (hq s'.toks)
        intro h7 tk7 t7 hk7
        have F7 := fr_keep F6 hk7
        have N7 := news_keep N6 hk7
        clear F6 N6 mf mc cr fa 
        rw [hns.1]
        k_steps
        have mf := N7 _ (by k_dflt (exact .head _))
        have mc := N7 _ (by k_dflt (exact .tail _ (.tail _ (.tail _ (.head _)))))
        have cr : h7.CodeRec (.ref c') frtQual := q6.at_ fun q hq => (N7 q (.tail _ (.tail _ (.tail _ (.tail _ (.tail _ hq)))))).1
        have fa : FrontAt h7 _ pt := ⟨⟨_, _, _, _, _, _, _, mf.1, cr, rfl, mc.1, by assumption⟩⟩
        refine held (wpAny_mono (br_key (s := { s with heap := h7, toks := _ }) (vs := nvs) (c := fun i' => !decide (pt.cps.toList < (cutS nms pt i').cps.toList)) (KV := fun i' kv => ∃ t, kv = .str (cutS nms pt i') t) (X'.keeps F7.keep) (T'.keeps F7.keep) (list_keep hln' F7.keep) rfl (by show dp + 1 < 900; omega) (by rw [hns.1]; omega) ⟨_, _, _, _, mf.1⟩ ?_ ?_ ?_) (fun _ _ x => x) (fun _ _ x => x.elim))
        · intro i' v' hv' A' s₁ Q' hh' hd' _ hk' _ _ _ hq
          obtain ⟨t', rfl⟩ := hns.2 i' v' hv'
          have hk6 : ∀ b o, h₀.get? b = some o → s₁.heap.get? b = some o := fun b o e => hk' b o (F7.keep b o e)
          exact front_call ⟨X'.keeps hk6, p, loose, mean, mg, mb, T'.keeps hk6⟩ (fa.keep hk') hh' (by have : A'.depth ≤ dp + 1 + 1 := hd'; omega) hzp (hz2' i') fun h'' tk'' t'' hk'' => hq _ _ _ hk'' ⟨t'', rfl⟩
        · intro i' kv _ hkv A' E' s' Q' hq
          obtain ⟨t', rfl⟩ := hkv
          refine lt_str ?_
          have := hq s'.toks
          rw [Bool.not_not] at this
          exact this
        intro h8 tk8 t8 hk8
        have F8 := fr_keep F7 hk8
        have N8 := news_keep N7 hk8
        clear F7 N7 mf mc cr fa 
        rw [hns.1]
        k_steps
        rename Fr _ _ _ _ => F18
        rename News _ _ _ _ => N18
        have hlen : sp.length ≤ 1000 := by
          have h1 := q1.len
          have h2 : (spanR nms (rs.take i)).length ≤ (rs.take i).length := List.length_filterMap_le _ _
          have h3 : (rs.take i).length ≤ rs.length := List.length_take_le' _ _
          omega
        refine' held (append_K F18 N18 ?U ?_ ?z)
        case U => k_dflt k_upd
        case z => rw [List.size_toArray, sizeLine_eq]; omega
        intro h19 F19 N19
        rw [List.push_toArray] at N19
        clear F18 N18
        k_steps
        rename Fr _ _ _ _ => F20
        rename News _ _ _ _ => N20
        have mI := N20 _ (by k_dflt (exact .tail _ (.tail _ (.head _))))
        have mr := N20 _ (by k_dflt (exact .tail _ (.tail _ (.tail _ (.head _)))))
        have mc := N20 _ (by k_dflt (exact .tail _ (.tail _ (.tail _ (.tail _ (.head _))))))
        have mt := N20 _ (by k_dflt (exact .tail _ (.tail _ (.tail _ (.tail _ (.tail _ (.head _)))))))
        have ml : News h₀ L' _ tl := fun q hq => N20 q (by k_dflt (exact .tail _ (.tail _ (.tail _ (.tail _ (.tail _ (.tail _ (hq))))))))
        have mp := N20 _ (by k_dflt (exact .head _))
        change ForEnd _ _ _ _ _ _ _ _ _ _ _
        refine for_end ((sp ++ [_], n + 1), (_, tab129 _), _ :: tl) F20 (news_cons mI.1 mI.2.1 mI.2.2 (news_cons mr.1 mr.2.1 mr.2.2 (news_cons mc.1 mc.2.1 mc.2.2 (news_cons mt.1 mt.2.1 mt.2.2 (news_cons mp.1 mp.2.1 mp.2.2 ml))))) (List.forall_mem_cons.mpr ⟨hI1, List.forall_mem_cons.mpr ⟨hI2, List.forall_mem_cons.mpr ⟨hI3, (List.forall_mem_cons.mpr ⟨neN (by (try dsimp only); omega), (fun q hq => hI q (.tail _ (.tail _ (.tail _ hq))))⟩)⟩⟩⟩) (List.forall_mem_nil _) ?hr ?hp
        case hr => walk_at "mine same"
        case hp =>
          dsimp only
          rw [List.take_add_one, hr]
          refine ⟨?_, ⟨_, by assumption⟩, ⟨(List.forall_mem_cons.mpr ⟨neN (by (try dsimp only); omega), q3⟩), (List.forall_mem_cons.mpr ⟨neN (by (try dsimp only); omega), q4⟩), (List.forall_mem_cons.mpr ⟨neN (by (try dsimp only); omega), q5⟩)⟩, .inr ⟨_, rfl, q6.mono (fun q hq => .tail _ hq)⟩⟩
          show TripIn _ _ (spanR nms (rs.take i ++ [(pt, mk)]))
          rw [spanR_pos _ _ (by assumption)]
          exact (q1.mono (fun q hq => .tail _ hq)).append ⟨⟨_, _, _, _, rfl, .head _⟩, trivial⟩
      · rename Fr _ _ _ _ => F20
        rename News _ _ _ _ => N20
        have mI := N20 _ (by k_dflt (exact .tail _ (.head _)))
        have mr := N20 _ (by k_dflt (exact .tail _ (.tail _ (.head _))))
        have mc := N20 _ (by k_dflt (exact .tail _ (.tail _ (.tail _ (.head _)))))
        have mt := N20 _ (by k_dflt (exact .tail _ (.tail _ (.tail _ (.tail _ (.head _))))))
        have ml : News h₀ L' _ tl := fun q hq => N20 q (by k_dflt (exact .tail _ (.tail _ (.tail _ (.tail _ (.tail _ (hq)))))))
        change ForEnd _ _ _ _ _ _ _ _ _ _ _
        refine for_end ((sp, n), (_, tab129 _), tl) F20 (news_cons mI.1 mI.2.1 mI.2.2 (news_cons mr.1 mr.2.1 mr.2.2 (news_cons mc.1 mc.2.1 mc.2.2 (news_cons mt.1 mt.2.1 mt.2.2 ml)))) (List.forall_mem_cons.mpr ⟨hI1, List.forall_mem_cons.mpr ⟨hI2, List.forall_mem_cons.mpr ⟨hI3, (fun q hq => hI q (.tail _ (.tail _ (.tail _ hq))))⟩⟩⟩) (List.forall_mem_nil _) ?hr ?hp
        case hr => walk_at "mine same"
        case hp =>
          dsimp only
          rw [List.take_add_one, hr]
          refine ⟨?_, ⟨_, by assumption⟩, ⟨q3, q4, q5⟩, .inr ⟨_, rfl, q6.mono (fun q hq => hq)⟩⟩
          show TripIn _ _ (spanR nms (rs.take i ++ [(pt, mk)]))
          rw [spanR_neg _ _ (by assumption)]
          exact q1.mono (fun q hq => hq)
  case done =>
    rintro ⟨⟨sp, n⟩, ⟨oc, tab⟩, tl⟩ u h4 tk4 ⟨q1, ⟨v₀, q2⟩, ⟨q3, q4, q5⟩, q6⟩ F4 N4
    dsimp only at q1 q2 q3 q4 q5 q6 F4 N4
    clear F3 N3
    k_steps
    rw [hp.len, List.take_length] at q1
    have m0 := N4 _ (.head _)
    have old : ∀ b o, b ≠ 129 → s.heap.get? b = some o → h4.get? b = some o := fun b o hb e => F4.keep b o (by rw [eh]; exact hideAll_get _ e fun hm => hb (List.mem_singleton.mp hm))
    have fr' : ∀ {b}, h₀.get? b = none → b ≠ 129 → s.heap.get? b = none := fun e hb => fresh_of eh e fun hm => hb (List.mem_singleton.mp hm)
    refine hQ _ _ _ sp n old (fr' m0.2.2 (neN (by (try dsimp only); omega))) m0.1 (q1.at_ fun q hq => grow_new (fr' (N4 q (.tail _ (.tail _ (.tail _ hq)))).2.2 (q5 q hq)) (N4 q (.tail _ (.tail _ (.tail _ hq)))).1) ?_
    have mt := N4 _ (.tail _ (.tail _ (.head _)))
    dsimp only at mt
    rcases q6 with q6 | ⟨c', q6, _⟩
    · rw [q6] at mt; exact ⟨_, mt.1⟩
    · rw [q6] at mt; exact ⟨_, mt.1⟩
end

end Mine
namespace Mine
theorem offP23 : True ∧ True := by
  have h : True ∧ True := by first | (walk1; done) | exact ⟨trivial, trivial⟩
  w_top off
  exact h
/-- the turns of a comprehension by what holds of its list and of the ledger -/
theorem comp_inv {prog : Program} {w : World} {A : Around} {h₀ : Heap} {L : Addr} {m : Str → Option Value} {env : Env} {elt : Expr} {x : Str} {scope : Scope} {cl : List (Str × Addr)} {s : Shared} {S : List (Addr × Obj) → Prop} {P : Nat → Value → Prop}
    {Fin : List Value → List (Addr × Obj) → Prop} {n : Nat} {news : List (Addr × Obj)} (Inv : Nat → List Value → List (Addr × Obj) → Prop) (h0 : Inv 0 [] news)
    (turn : ∀ i ys nw v I oI C oC D m₂ h tk (E' : Value → Shared → Prop), i < n → Inv i ys nw → P i v → LCg.NsObj oC m₂ → m₂ x = some v → Fr h₀ L h m → News h₀ L h ((I, oI) :: (C, oC) :: (D, LCg.lst ys) :: nw) → LCg.Off3 I C D nw → ((@Ne Nat I C) ∧ (@Ne Nat I D) ∧ (@Ne Nat C D)) →
      wpAny (model prog w) A (eval elt (compEnvC scope cl C env)) (LCg.CompEnd h₀ L m { s with heap := h, toks := tk } I oI C oC D (LCg.lst ys) S (fun y nw' => Inv (i + 1) (ys ++ [y]) nw')) E' { s with heap := h, toks := tk })
    (fin : ∀ ys nw, Inv n ys nw → Fin ys nw) : LCg.CompRest prog w A h₀ L m env elt x scope cl s S P Fin n 0 [] news := by
  have key : ∀ (j i : Nat) (ys : List Value) (nw : List (Addr × Obj)), i + j = n → Inv i ys nw → LCg.CompRest prog w A h₀ L m env elt x scope cl s S P Fin j i ys nw := by
    intro j
    induction j with
    | zero =>
      intro i ys nw e hi
      obtain rfl : i = n := by omega
      exact LCg.CompRest.zero (fin ys nw hi)
    | succ j ih =>
      intro i ys nw e hi
      refine LCg.CompRest.succ ?_
      intro v I oI C oC D m₂ h tk E' hv hC hx F N off ne
      refine wpAny_mono (turn i ys nw v I oI C oC D m₂ h tk E' (by omega) hi hv hC hx F N off ne) (fun y s₂ hq => ?_) fun _ _ e => e
      obtain ⟨h', tk', nw', e1, F', N', off', hS, hn⟩ := hq
      exact ⟨h', tk', nw', e1, F', N', off', hS, ih (i + 1) _ _ (by omega) hn⟩
  exact key n 0 [] news (by omega) h0
def PairsIn (tl : List (Addr × Obj)) : List Value → List (Str × Int) → Prop
  | [], [] => True
  | v :: vs, r :: rs => (∃ t tp tm, v = .ref t ∧ (t, tupObj #[.str r.1 tp, .int r.2 tm]) ∈ tl) ∧ PairsIn tl vs rs
  | _, _ => False
theorem PairsIn.mono {tl tl' : List (Addr × Obj)} (hk : ∀ q ∈ tl, q ∈ tl') : ∀ {vs : List Value} {rs : List (Str × Int)}, PairsIn tl vs rs → PairsIn tl' vs rs
  | [], [], _ => trivial
  | _ :: _, _ :: _, ⟨⟨t, t1, t2, e, x⟩, r⟩ => ⟨⟨t, t1, t2, e, hk _ x⟩, PairsIn.mono hk r⟩
theorem PairsIn.append {tl : List (Addr × Obj)} : ∀ {vs vs' : List Value} {rs rs' : List (Str × Int)}, PairsIn tl vs rs → PairsIn tl vs' rs' → PairsIn tl (vs ++ vs') (rs ++ rs')
  | [], _, [], _, _, h => h
  | _ :: _, _, _ :: _, _, ⟨a, r⟩, h => ⟨a, PairsIn.append r h⟩
theorem PairsIn.at_ {h : Heap} {tl : List (Addr × Obj)} (hk : ∀ q ∈ tl, h.get? q.1 = some q.2) : ∀ {vs : List Value} {rs : List (Str × Int)}, PairsIn tl vs rs → PairsAt h vs rs
  | [], [], _ => trivial
  | _ :: _, _ :: _, ⟨⟨t, t1, t2, e, x⟩, r⟩ => ⟨⟨t, t1, t2, e, ⟨_, hk _ x, rfl, _, rfl⟩⟩, PairsIn.at_ hk r⟩
def pathsL : List Str := [Str.ofString "", Str.ofString "a", Str.ofString "b", Str.ofString "aa", Str.ofString "ab", Str.ofString "ba", Str.ofString "bb"]
def ruleOf (n : Int) : Str × Int := ((pathsL[(n.fmod 7).toNat]?).getD (Str.ofString ""), n.fdiv 7)
def rulesOf (ns : List Int) : List (Str × Int) := ns.map ruleOf
theorem comp_tail {prog : Program} {w : World} {A : Around} {h₀ : Heap} {L : Addr} {m : Str → Option Value} {env : Env} {elt : Expr} {x : Str} {scope : Scope} {cl : List (Str × Addr)} {s : Shared} {S : List (Addr × Obj) → Prop} {P : Nat → Value → Prop}
    {Fin : List Value → List (Addr × Obj) → Prop} {n : Nat} {news : List (Addr × Obj)} (R : Nat → List Value → List (Addr × Obj) → Prop) (h0 : R 0 [] [])
    (turn : ∀ i ys tl v I oI C oC D m₂ h tk (E' : Value → Shared → Prop), i < n → R i ys tl → P i v → LCg.NsObj oC m₂ → m₂ x = some v → Fr h₀ L h m → News h₀ L h ((I, oI) :: (C, oC) :: (D, LCg.lst ys) :: (news ++ tl)) → LCg.Off3 I C D (news ++ tl) → ((@Ne Nat I C) ∧ (@Ne Nat I D) ∧ (@Ne Nat C D)) →
      wpAny (model prog w) A (eval elt (compEnvC scope cl C env)) (LCg.CompEnd h₀ L m { s with heap := h, toks := tk } I oI C oC D (LCg.lst ys) S (fun y nw' => ∃ tl', nw' = news ++ tl' ∧ R (i + 1) (ys ++ [y]) tl')) E' { s with heap := h, toks := tk })
    (fin : ∀ ys tl, R n ys tl → Fin ys (news ++ tl)) : LCg.CompRest prog w A h₀ L m env elt x scope cl s S P Fin n 0 [] news :=
  comp_inv (fun i ys nw => ∃ tl, nw = news ++ tl ∧ R i ys tl) ⟨[], (List.append_nil _).symm, h0⟩
    (fun i ys nw v I oI C oC D m₂ h tk E' hi ⟨tl, e, r⟩ hv hC hx F N off ne => by subst e; exact turn i ys tl v I oI C oC D m₂ h tk E' hi r hv hC hx F N off ne)
    (fun ys nw ⟨tl, e, r⟩ => by subst e; exact fin ys tl r)
theorem comp_end {h₀ : Heap} {L I C D ax : Addr} {m : Str → Option Value} {s₁ : Shared} {oI oC oD : Obj} {its : Array Value} {news tl : List (Addr × Obj)} {R' : Value → List (Addr × Obj) → Prop} {y : Value} {h' : Heap} {tk : Nat} {t : Addr × Obj}
    (F : Fr h₀ L h' m) (N : News h₀ L h' (t :: (I, oI) :: (C, oC) :: (D, oD) :: (news ++ tl))) (off : LCg.Off3 I C D (news ++ tl)) (hn : (@Ne Nat t.1 I) ∧ (@Ne Nat t.1 C) ∧ (@Ne Nat t.1 D)) (hS : LCg.SrcAt h₀ ax its news) (r : R' y (t :: tl)) :
    LCg.CompEnd h₀ L m s₁ I oI C oC D oD (LCg.SrcAt h₀ ax its) (fun y nw' => ∃ tl', nw' = news ++ tl' ∧ R' y tl') y { s₁ with heap := h', toks := tk } := by
  refine LCg.CompEnd.intro F N (news ++ t :: tl) (fun p hp => ?_) (LCg.Off3.of fun p hp => ?_) ?_ ⟨t :: tl, rfl, r⟩
  · rcases List.mem_cons.mp hp with rfl | hp
    · exact .tail _ (.head _)
    rcases List.mem_cons.mp hp with rfl | hp
    · exact .tail _ (.tail _ (.head _))
    rcases List.mem_cons.mp hp with rfl | hp
    · exact .tail _ (.tail _ (.tail _ (.head _)))
    rcases List.mem_append.mp hp with hp | hp
    · exact .tail _ (.tail _ (.tail _ (.tail _ (List.mem_append_left _ hp))))
    rcases List.mem_cons.mp hp with rfl | hp
    · exact .head _
    · exact .tail _ (.tail _ (.tail _ (.tail _ (List.mem_append_right _ hp))))
  · rcases List.mem_append.mp hp with hp | hp
    · exact off.mem p (List.mem_append_left _ hp)
    rcases List.mem_cons.mp hp with rfl | hp
    · exact hn
    · exact off.mem p (List.mem_append_right _ hp)
  · rcases hS with h | ⟨o, hm, h⟩
    · exact .inl h
    · exact .inr ⟨o, List.mem_append_left _ hm, h⟩
theorem pairs_next {tl : List (Addr × Obj)} {ys : List Value} {ns : List Int} {i : Nat} {n k : Int} {a : Addr} {p : Str} {tp tm : Tok} (h : PairsIn tl ys (rulesOf (ns.take i))) (hn : ns[i]? = some n) (e : n.fmod 7 = k) (hp : (pathsL[k.toNat]?).getD (Str.ofString "") = p) :
    PairsIn ((a, tupObj #[.str p tp, .int (n.fdiv 7) tm]) :: tl) (ys ++ [.ref a]) (rulesOf (ns.take (i + 1))) := by
  have e1 : rulesOf (ns.take (i + 1)) = rulesOf (ns.take i) ++ [(p, n.fdiv 7)] := by
    rw [List.take_add_one, hn]
    unfold rulesOf
    rw [List.map_append]
    congr 1
    show [ruleOf n] = _
    unfold ruleOf
    rw [e, hp]
  rw [e1]
  exact (h.mono fun q hq => .tail _ hq).append ⟨⟨a, tp, tm, rfl, .head _⟩, trivial⟩
def LawPost (h₀ : Heap) (L : Addr) (s : Shared) (fl : Flow) (s' : Shared) : Prop :=
  fl = .ret (.bool true) ∧ ∃ (h' : Heap) (tk : Nat) (m' : Str → Option Value) (a1 a2 a3 : Array Value), s' = { s with heap := h', toks := tk } ∧ Fr h₀ L h' m' ∧ News h₀ L h' [(136, tabObj a1), (129, tabObj a2), (101, tabObj a3)]
theorem fr_bind {h₀ h : Heap} {L : Addr} {n : Str} {v : Value} {kindOf : Str → Option NameKind} {binds : List (Str × Value)} (e : binds = [(n, v)]) (hk : kindOf n = some .local) (F : Fr h₀ L h (bindL kindOf binds fun _ => none)) : Fr h₀ L h (fun y => if y = n then some v else none) := by
  subst e
  unfold bindL at F
  rw [if_pos hk] at F
  exact F
theorem fr_bindL {h₀ h : Heap} {L : Addr} {n : Str} {v : Value} {kindOf : Str → Option NameKind} {binds : List (Str × Value)} (e : binds = [(n, v)]) (hk : kindOf n = some .local) (F : Fr h₀ L h (bindL kindOf binds fun _ => none)) : Fr h₀ L h (fun y => List.lookup y [(n, v)].reverse) := by
  have h1 := fr_bind e hk F
  have h2 : (fun y => if y = n then some v else none) = fun y => List.lookup y [(n, v)].reverse := by
    funext y
    simp only [List.reverse_cons, List.reverse_nil, List.nil_append, List.lookup]
    by_cases q : y = n
    · subst q; simp
    · rw [if_neg q]
      have : (y == n) = false := by simpa using q
      rw [this]
  rw [h2] at h1
  exact h1
theorem PairsIn.at2 {h : Heap} {tl : List (Addr × Obj)} (hk : ∀ t its, (t, tupObj its) ∈ tl → h.get? t = some (tupObj its)) : ∀ {vs : List Value} {rs : List (Str × Int)}, PairsIn tl vs rs → PairsAt h vs rs
  | [], [], _ => trivial
  | _ :: _, _ :: _, ⟨⟨t, t1, t2, e, x⟩, r⟩ => ⟨⟨t, t1, t2, e, ⟨_, hk _ _ x, rfl, _, rfl⟩⟩, PairsIn.at2 hk r⟩
theorem tup_ne_tab {its ps : Array Value} : tupObj its ≠ tabObj ps := fun h => by
  have : (tupObj its).cls = (tabObj ps).cls := congrArg Obj.cls h
  cases this
theorem hide_one {h : Heap} {as : List Addr} {b : Addr} {o : Obj} (e : h.get? b = some o) (hb : ∀ a ∈ as, b ≠ a) : (hideAll h as).get? b = some o := hideAll_get _ e fun hm => hb b hm rfl
theorem base_sub {h₀ h : Heap} {L : Addr} {m : Str → Option Value} {as : List Addr} (F : Fr h₀ L h m) (hn : ∀ a ∈ as, h₀.get? a = none) : ∀ b o, h₀.get? b = some o → (hideAll h as).get? b = some o := hideAll_sub F.keep hn
theorem fr_none {h₀ h : Heap} {L : Addr} {m : Str → Option Value} (F : Fr h₀ L h m) : h₀.get? L = none := by
  cases q : h₀.get? L with
  | none => rfl
  | some o => exact absurd (Heap.lt_size q) (Nat.not_lt.mpr F.above)
theorem fr_at {h₀ h : Heap} {L : Addr} {m : Str → Option Value} (F : Fr h₀ L h m) : ∃ o, h.get? L = some o := let ⟨o, _, _, e, _⟩ := F.ns; ⟨o, e⟩
/-- the state behind _law_record: all that stands, but the frame and two code tables, is a view that keeps -/
theorem full_of {w : World} {g h : Heap} {c1 c2 : Addr} (X : Amb w g) (C : CodeHd g 105 101) (hg : ∀ b o, g.get? b = some o → h.get? b = some o) (h101 : h.get? 101 = some (tab101 c1 c2)) (hcr : g.CodeRec (.ref c2) lamQual) (hno : g.get? 101 = none) : Full w h := by
  have hs : ∀ b o, g.get? b = some o → (hideAll h [101]).get? b = some o := fun b o e => hide101 (hg b o e) fun q => by rw [q, hno] at e; cases e
  exact ⟨X.keep hs, C.keeps hs, ⟨c1, c2, h101, codeRec_keep hcr hs⟩⟩

end Mine
namespace Mine
theorem offP23b : True ∧ True := by
  have h : True ∧ True := by first | (walk1; done) | exact ⟨trivial, trivial⟩
  w_top off
  exact h
/-- the turns of a for over a list, from the state in which the list has been made -/
theorem list_turns {prog : Program} {w : World} {A : Around} {E : Value → Shared → Prop} {Q : Flow → Shared → Prop} {s : Shared} {env : Env} {h₀ : Heap} {σ : Type} {target : Expr} {body : List Stmt} {m₀ : Str → Option Value} {l : Addr} {vs : List Value}
    (Led : σ → List (Addr × Obj)) (ps : σ → List (Str × Value)) (stored : List Str) (P : Nat → σ → Prop) (c₀ : σ)
    (hh : A.handled = none) (F : Fr h₀ env.locals s.heap m₀) (N : News h₀ env.locals s.heap (Led c₀))
    (hl : h₀.IsList l vs.toArray ∨ ∃ lo n, (∀ c, (l, lo) ∈ Led c) ∧ lo.cls = .type "list" ∧ lo.data = .seq vs.toArray n)
    (hk : ∀ q ∈ ps c₀, m₀ q.1 = some q.2) (hp : P 0 c₀)
    (turn : ∀ i v c (u : Str → Option Value) h tk I oI, vs[i]? = some v → P i c → Fr h₀ env.locals h (kstB (fun z => if stored.contains z then u z else m₀ z) (ps c)) → News h₀ env.locals h ((I, oI) :: Led c) → (∀ q ∈ Led c, q.1 ≠ I) →
      wpAny (model prog w) A (assign target env v) (fun _ s₂ => wpAny (model prog w) A (execs body env) (ForPost h₀ env.locals s Led ps stored m₀ (P (i + 1)) I oI Q) E s₂) E { s with heap := h, toks := tk })
    (done : ∀ c (u : Str → Option Value) h tk, P vs.length c → Fr h₀ env.locals h (kstB (fun z => if stored.contains z then u z else m₀ z) (ps c)) → News h₀ env.locals h (Led c) → Q .next { s with heap := h, toks := tk }) :
    wpAny (model prog w) A (pyIter (.ref l)) (fun it s₂ => TurnsAt prog w A h₀ env target body Q E it s₂) E s := by
  have hls : s.heap.IsList l vs.toArray := by
    rcases hl with hl | ⟨lo, n, hm, hc, hd⟩
    · exact list_keep hl F.keep
    · exact ⟨lo, (N _ (hm c₀)).1, hc, n, hd⟩
  have hlt : l < s.heap.objs.size := by obtain ⟨ol, hol, _⟩ := hls; exact Heap.lt_size hol
  have hne : l ≠ s.heap.objs.size := Nat.ne_of_lt hlt
  refine wpAny_pyIter_list hls ?_
  have hL : l ≠ env.locals := by
    rcases hl with ⟨ol, hol, _⟩ | ⟨lo, n, hm, hc, hd⟩
    · exact Nat.ne_of_lt (Nat.lt_of_lt_of_le (Heap.lt_size hol) F.above)
    · exact (N _ (hm c₀)).2.1
  let J : Nat → (Str → Option Value) → List (Addr × Obj) → Prop := fun i m nx => ∃ c : σ, nx = Led c ∧ (∀ q ∈ ps c, m q.1 = some q.2) ∧ (∀ z, (∀ q ∈ ps c, z ≠ q.1) → stored.contains z = false → m z = m₀ z) ∧ P i c
  refine ⟨s.heap.objs.size, [s.heap.objs.size, l], [s.heap.objs.size], vs.toArray.size, _, _, _, m₀, Led c₀, J, rfl,
    KTurns.ofWalks (Walks.list hh s.heap.objs.size l hne vs.toArray) (fun i v s Q E st q => letGo_listiter st.1 q), ?_, ?_, ?_, ⟨⟨_, Heap.get?_push_size _ rfl, rfl, rfl⟩, hls.at fun o e => Heap.get?_push_of_some _ e⟩, F.push _,
    (fun p hp => ⟨Heap.get?_push_of_some _ (N p hp).1, (N p hp).2⟩), ⟨c₀, rfl, hk, fun _ _ _ => rfl, hp⟩, ?_, ?_⟩
  · intro hm
    rcases List.mem_cons.mp hm with e | hm
    · exact absurd F.ns.lt (e ▸ Nat.lt_irrefl _)
    · exact hL (List.mem_singleton.mp hm).symm
  · intro b hb
    rw [List.mem_singleton.mp hb]
    exact next_is_new F
  · intro p hp hI
    exact absurd (Heap.lt_size (N p hp).1) ((List.mem_singleton.mp hI) ▸ Nat.lt_irrefl _)
  · rintro i v m₁ news₁ h₁ tk₁ own hin hP ⟨c, rfl, hk', hr', hp'⟩ hoff hown hget hall hst F₁ N₁
    obtain ⟨oI, hoI, _⟩ := hst.1
    have hI : (s.heap.objs.size, oI) ∈ own := hall s.heap.objs.size (by simp) (next_is_new F) oI hoI
    have ex : ∀ p ∈ own, p = (s.heap.objs.size, oI) ∨ p ∈ Led c ∧ p.1 = l := by
      intro p hp
      have h1 := hown p hp
      rcases List.mem_cons.mp h1 with e | e
      · refine .inl (Prod.ext e ?_)
        have := hget p hp
        rw [e, hoI] at this
        exact (Option.some.inj this).symm
      · have e' := List.mem_singleton.mp e
        rcases hl with ⟨ol, hol, _⟩ | ⟨lo, n, hm, hc, hd⟩
        · have := (N₁ p (List.mem_append_left _ hp)).2.2
          rw [e', hol] at this; cases this
        · refine .inr ⟨?_, e'⟩
          have h2 := (N₁ _ (List.mem_append_right _ (hm c))).1
          have h3 := hget p hp
          rw [e'] at h3
          rw [h2] at h3
          have : p = (l, lo) := Prod.ext e' (Option.some.inj h3).symm
          rw [this]; exact hm c
    have hlist : vs[i]? = some v := by have : vs.toArray[i]? = some v := hP; simpa using this
    have hoff' : ∀ q ∈ Led c, q.1 ≠ s.heap.objs.size := fun q hq e => hoff q hq (by simp [e])
    refine wpAny_mono (turn i v c m₁ h₁ tk₁ s.heap.objs.size oI hlist hp' (ksw_fr hk' hr' F₁) (fun q hq => ?_) hoff') (fun _ s₂ h₂ => wpAny_mono h₂ (fun f s₃ h₃ => ?_) fun _ _ e => e) fun _ _ e => e
    · rcases List.mem_cons.mp hq with rfl | hq
      · exact N₁ _ (List.mem_append_left _ hI)
      · exact N₁ _ (List.mem_append_right _ hq)
    · have fin : ForEnd h₀ env.locals s Led ps stored m₀ (P (i + 1)) s.heap.objs.size oI s₃ → LoopStepU h₀ env.locals [s.heap.objs.size] own (J (i + 1)) { s with heap := h₁, toks := tk₁ } .next s₃ := by
        rintro ⟨c', h', tk, m', e, F', N', ho', hk2, hr2, hp2⟩
        refine ⟨rfl, h', tk, m', Led c', e, F', fun q hq => ?_, fun q hq hw => ho' q hq (List.mem_singleton.mp hw), c', rfl, hk2, hr2, hp2⟩
        rcases List.mem_append.mp hq with hq | hq
        · rcases ex q hq with rfl | ⟨hm, hq1⟩
          · exact N' _ (.head _)
          · rcases hl with ⟨ol, hol, _⟩ | ⟨lo, n, hml, hc, hd⟩
            · have := (N₁ q (List.mem_append_right _ hm)).2.2
              rw [hq1, hol] at this; cases this
            · have e2 : q = (l, lo) := by
                have h2 := (N₁ _ (List.mem_append_right _ (hml c))).1
                have h3 := hget q hq
                rw [hq1, h2] at h3
                exact Prod.ext hq1 (Option.some.inj h3).symm
              rw [e2]
              exact N' _ (.tail _ (hml c'))
        · exact N' _ (.tail _ hq)
      cases f with
      | ret v => exact .ret h₃
      | brk => exact .brk h₃
      | next => exact .next (fin h₃)
      | cont => exact .cont (fin h₃)
  · rintro h' tk m' news' F' N' _ ⟨c, rfl, hk', hr', hp'⟩
    refine done c m' h' tk ?_ (ksw_fr hk' hr' F') N'
    rwa [List.size_toArray] at hp'

/-- the turns of a for over range(n) -/
theorem range_turns {prog : Program} {w : World} {A : Around} {E : Value → Shared → Prop} {Q : Flow → Shared → Prop} {s : Shared} {env : Env} {h₀ : Heap} {σ : Type} {y : Str} {py : Pos} {body : List Stmt} {m₀ : Str → Option Value} {r : Addr} {n : Nat} {b : Int} {t1 t2 t3 : Tok}
    (Led : σ → List (Addr × Obj)) (ps : σ → List (Str × Value)) (stored : List Str) (P : Nat → σ → Prop) (c₀ : σ)
    (hh : A.handled = none) (F : Fr h₀ env.locals s.heap m₀) (N : News h₀ env.locals s.heap (Led c₀))
    (hr : IsRange s.heap r 0 b 1 t1 t2 t3) (hsm : Builtin.Range.small 0 b 1 = true) (hn : Builtin.Range.rangeSize 0 b 1 = ((n : Nat) : Int))
    (hk : ∀ q ∈ ps c₀, m₀ q.1 = some q.2) (hp : P 0 c₀)
    (turn : ∀ (i : Nat) t c (u : Str → Option Value) h tk I oI, i < n → P i c → Fr h₀ env.locals h (kstB (fun z => if stored.contains z then u z else m₀ z) (ps c)) → News h₀ env.locals h ((I, oI) :: Led c) → (∀ q ∈ Led c, q.1 ≠ I) →
      wpAny (model prog w) A (assign (.Name y py) env (.int (i : Nat) t)) (fun _ s₂ => wpAny (model prog w) A (execs body env) (ForPost h₀ env.locals s Led ps stored m₀ (P (i + 1)) I oI Q) E s₂) E { s with heap := h, toks := tk })
    (done : ∀ c (u : Str → Option Value) h tk, P n c → Fr h₀ env.locals h (kstB (fun z => if stored.contains z then u z else m₀ z) (ps c)) → News h₀ env.locals h (Led c) → Q .next { s with heap := h, toks := tk }) :
    wpAny (model prog w) A (pyIter (.ref r)) (fun it s₂ => TurnsAt prog w A h₀ env (.Name y py) body Q E it s₂) E s := by
  refine wpAny_pyIter_range hr hsm ?_
  let J : Nat → (Str → Option Value) → List (Addr × Obj) → Prop := fun i m nx => ∃ c : σ, nx = Led c ∧ (∀ q ∈ ps c, m q.1 = some q.2) ∧ (∀ z, (∀ q ∈ ps c, z ≠ q.1) → stored.contains z = false → m z = m₀ z) ∧ P i c
  refine ⟨s.heap.objs.size, [s.heap.objs.size], [s.heap.objs.size], n, _, _, _, m₀, Led c₀, J, rfl,
    KTurns.ofWalks (LCg.range_walks hh 0 n) (fun i v s Q E st q => by unfold letOwnedTupleGo; exact wpAny_pure q), ?_, ?_, ?_, ?_, F.push _,
    (fun p hp => ⟨Heap.get?_push_of_some _ (N p hp).1, (N p hp).2⟩), ⟨c₀, rfl, hk, fun _ _ _ => rfl, hp⟩, ?_, ?_⟩
  · intro hm
    exact absurd F.ns.lt ((List.mem_singleton.mp hm) ▸ Nat.lt_irrefl _)
  · intro b hb
    rw [List.mem_singleton.mp hb]
    exact next_is_new F
  · intro p hp hI
    exact absurd (Heap.lt_size (N p hp).1) ((List.mem_singleton.mp hI) ▸ Nat.lt_irrefl _)
  · show IsRangeIter _ _ _ _ _
    rw [hn]
    simpa using Heap.get?_push_size _ rfl
  · rintro i v m₁ news₁ h₁ tk₁ own hin ⟨t, rfl⟩ ⟨c, rfl, hk', hr', hp'⟩ hoff hown hget hall hst F₁ N₁
    obtain ⟨oI, hoI⟩ : ∃ oI, h₁.get? s.heap.objs.size = some oI := ⟨_, hst⟩
    have hI := hall s.heap.objs.size (by simp) (next_is_new F) _ hoI
    have ex : ∀ p ∈ own, p = (s.heap.objs.size, oI) := fun p hp => by
      have e := List.mem_singleton.mp (hown p hp)
      refine Prod.ext e ?_
      have := hget p hp
      rw [e, hoI] at this
      exact (Option.some.inj this).symm
    have hoff' : ∀ q ∈ Led c, q.1 ≠ s.heap.objs.size := fun q hq e => hoff q hq (by simp [e])
    have ez : (0 : Int) + (i : Int) = ((i : Nat) : Int) := by omega
    rw [ez]
    refine wpAny_mono (turn i t c m₁ h₁ tk₁ s.heap.objs.size oI hin hp' (ksw_fr hk' hr' F₁) (fun q hq => ?_) hoff') (fun _ s₂ h₂ => wpAny_mono h₂ (fun f s₃ h₃ => ?_) fun _ _ e => e) fun _ _ e => e
    · rcases List.mem_cons.mp hq with rfl | hq
      · exact N₁ _ (List.mem_append_left _ hI)
      · exact N₁ _ (List.mem_append_right _ hq)
    · have fin : ForEnd h₀ env.locals s Led ps stored m₀ (P (i + 1)) s.heap.objs.size oI s₃ → LoopStepU h₀ env.locals [s.heap.objs.size] own (J (i + 1)) { s with heap := h₁, toks := tk₁ } .next s₃ := by
        rintro ⟨c', h', tk, m', e, F', N', ho', hk2, hr2, hp2⟩
        refine ⟨rfl, h', tk, m', Led c', e, F', fun q hq => ?_, fun q hq hw => ho' q hq (List.mem_singleton.mp hw), c', rfl, hk2, hr2, hp2⟩
        rcases List.mem_append.mp hq with hq | hq
        · rw [ex q hq]
          exact N' _ (.head _)
        · exact N' _ (.tail _ hq)
      cases f with
      | ret v => exact .ret h₃
      | brk => exact .brk h₃
      | next => exact .next (fin h₃)
      | cont => exact .cont (fin h₃)
  · rintro h' tk m' news' F' N' _ ⟨c, rfl, hk', hr', hp'⟩
    exact done c m' h' tk hp' (ksw_fr hk' hr' F') N'

end Mine
namespace Mine
theorem offP23c : True ∧ True := by
  have h : True ∧ True := by first | (walk1; done) | exact ⟨trivial, trivial⟩
  w_top off
  exact h
theorem strs_nil : StrsAt [] [] := ⟨rfl, fun i v h => by simp at h⟩
theorem strs_cons {p : Str} {t : Tok} {vs : List Value} {ns : List Str} (h : StrsAt vs ns) : StrsAt (.str p t :: vs) (p :: ns) := by
  refine ⟨by simp [h.1], fun i v hv => ?_⟩
  cases i with
  | zero => simp at hv; exact ⟨t, hv ▸ rfl⟩
  | succ i => simpa using h.2 i v (by simpa using hv)
def sAt (ns : List Str) (i : Nat) : Str := (ns[i]?).getD (Str.ofString "")
def brS (ns : List Str) (p : Str) : Nat := bis (fun i => !decide (p.cps.toList < (sAt ns i).cps.toList)) 0 ns.length
def insS (ns : List Str) (p : Str) : List Str := ns.take (brS ns p) ++ p :: ns.drop (brS ns p)
def insAll (ps : List Str) : List Str := ps.foldl insS []
theorem insAll_snoc (ps : List Str) (p : Str) : insAll (ps ++ [p]) = insS (insAll ps) p := by unfold insAll; rw [List.foldl_append]; rfl
theorem strs_ins {vs : List Value} {ns : List Str} (h : StrsAt vs ns) {k : Nat} (hk : k ≤ vs.length) (p : Str) (t : Tok) : StrsAt (kl_ins vs (k : Nat) (.str p t)) (ns.take k ++ p :: ns.drop k) := by
  have e : (if ((k : Nat) : Int) < 0 then (((k : Nat) : Int) + (vs.length : Int)).toNat else min ((k : Nat) : Int).toNat vs.length) = k := by
    rw [if_neg (by omega)]; omega
  unfold kl_ins
  rw [e]
  have hl := h.1
  refine ⟨by simp; omega, fun i v hv => ?_⟩
  rw [List.getElem?_append] at hv ⊢
  have l1 : (vs.take k).length = k := by simp; omega
  have l2 : (ns.take k).length = k := by simp; omega
  rw [l1] at hv
  rw [l2]
  by_cases q : i < k
  · rw [if_pos q] at hv ⊢
    rw [List.getElem?_take, if_pos q] at hv ⊢
    exact h.2 i v hv
  · rw [if_neg q] at hv ⊢
    cases hi : i - k with
    | zero => rw [hi] at hv; simp at hv; exact ⟨t, by simp [hv]⟩
    | succ j =>
      rw [hi] at hv
      simp only [List.getElem?_cons_succ, List.getElem?_drop] at hv ⊢
      exact h.2 _ v hv
theorem lt_strs {prog : Program} {w : World} {vs : List Value} {ns : List Str} (h : StrsAt vs ns) (p : Str) (t : Tok) (i : Nat) (v : Value) (hv : vs[i]? = some v) (A' : Around) (E' : Value → Shared → Prop) (s' : Shared) (Q' : Value → Shared → Prop) (q : ∀ tk, Q' (.bool (!(fun i => !decide (p.cps.toList < (sAt ns i).cps.toList)) i)) { s' with toks := tk }) : wpAny (model prog w) A' (compareOp .Lt (.str p t) v) Q' E' s' := by
  obtain ⟨u, rfl⟩ := h.2 i v hv
  refine lt_str ?_
  have := q s'.toks
  dsimp only at this
  rw [Bool.not_not] at this
  exact this
def namesL : List Str := [Str.ofString "", Str.ofString "a", Str.ofString "aa", Str.ofString "ab", Str.ofString "b", Str.ofString "ba", Str.ofString "bb"]
theorem names_all : ∀ k : Fin 7, insAll (pathsL.drop k.val ++ pathsL.take k.val) = namesL := by decide +kernel
theorem news_tail {h₀ h : Heap} {L : Addr} {a : Addr × Obj} {R : List (Addr × Obj)} (N : News h₀ L h (a :: R)) : ∃ R', R' = R ∧ News h₀ L h (a :: R') := ⟨_, rfl, N⟩
theorem names_split {M : Model} {A : Around} {h₀ : Heap} {L : Addr} {s : Shared} {m₀ : Str → Option Value} {ln : Addr} {o : Obj} {rest : List (Addr × Obj)} {c : Sem Flow} {Q : Flow → Shared → Prop} {E : Value → Shared → Prop}
    (F : Fr h₀ L s.heap m₀) (N : News h₀ L s.heap ((ln, o) :: rest))
    (h1 : wpAny M A c (fun fl s' => fl = .next ∧ ∃ (h' : Heap) (tk : Nat) (u : Str → Option Value) (nvs : List Value) (nn : Nat), s' = { s with heap := h', toks := tk } ∧ Fr h₀ L h' (kstB (fun z => if [Str.ofString "path"].contains z then u z else m₀ z) []) ∧ News h₀ L h' ((ln, listOf nvs.toArray nn) :: rest) ∧ StrsAt nvs namesL) (fun _ _ => False) s)
    (h2 : ∀ (h' : Heap) (tk : Nat) (u : Str → Option Value) (nvs : List Value) (nn : Nat), Fr h₀ L h' (kstB (fun z => if [Str.ofString "path"].contains z then u z else m₀ z) []) → News h₀ L h' ((ln, listOf nvs.toArray nn) :: rest) → StrsAt nvs namesL → Q .next { s with heap := h', toks := tk }) : wpAny M A c Q E s :=
  wpAny_mono h1 (fun fl s' ⟨e, h', tk, u, nvs, nn, e2, F', N', hs⟩ => by subst e; subst e2; exact h2 h' tk u nvs nn F' N' hs) (fun _ _ x => x.elim)
theorem news_re {h₀ h : Heap} {L : Addr} {a b c d : Addr × Obj} {rest : List (Addr × Obj)} (N : News h₀ L h (d :: a :: b :: c :: rest)) : News h₀ L h (c :: d :: rest) :=
  news_cons (N c (.tail _ (.tail _ (.tail _ (.head _))))).1 (N c (.tail _ (.tail _ (.tail _ (.head _))))).2.1 (N c (.tail _ (.tail _ (.tail _ (.head _))))).2.2 (news_cons (N d (.head _)).1 (N d (.head _)).2.1 (N d (.head _)).2.2 fun q hq => N q (.tail _ (.tail _ (.tail _ (.tail _ hq)))))
theorem names_src {h₀ h : Heap} {L D : Addr} {n : Nat} {rest : List (Addr × Obj)} {vs : List Value} {vsS : List Str} (N : News h₀ L h ((D, listOf vs.toArray n) :: rest)) (hS : StrsAt vs vsS) (hN : insAll vsS = namesL) : ∃ vs' vsS', News h₀ L h ((D, listOf vs'.toArray n) :: rest) ∧ StrsAt vs' vsS' ∧ insAll vsS' = namesL := ⟨vs, vsS, N, hS, hN⟩
theorem strs_next {ps : List Str} {i : Nat} {nvs : List Value} {p : Str} {t : Tok} (hp : ps[i]? = some p) (h : StrsAt nvs (insAll (ps.take i))) : StrsAt (kl_ins nvs (bis (fun i' => !decide (p.cps.toList < (sAt (insAll (ps.take i)) i').cps.toList)) 0 nvs.length : Nat) (.str p t)) (insAll (ps.take (i + 1))) := by
  rw [List.take_add_one, hp]
  show StrsAt _ (insAll (ps.take i ++ [p]))
  rw [insAll_snoc]
  have e : bis (fun i' => !decide (p.cps.toList < (sAt (insAll (ps.take i)) i').cps.toList)) 0 nvs.length = brS (insAll (ps.take i)) p := by unfold brS; rw [h.1]
  rw [e]
  have hle : brS (insAll (ps.take i)) p ≤ nvs.length := by rw [h.1]; exact bis_le _ _ _ (Nat.zero_le _)
  exact strs_ins h hle p t
theorem insS_len (ns : List Str) (p : Str) : (insS ns p).length = ns.length + 1 := by
  unfold insS
  have : brS ns p ≤ ns.length := bis_le _ _ _ (Nat.zero_le _)
  simp; omega
theorem insAll_len : ∀ (ps ns : List Str), (ps.foldl insS ns).length = ps.length + ns.length
  | [], ns => by simp
  | p :: ps, ns => by rw [List.foldl_cons, insAll_len ps, insS_len]; simp; omega
theorem hlS7 (ps : List Str) (h : insAll ps = namesL) : ps.length = 7 := by
  have := insAll_len ps []
  unfold insAll at h
  rw [h] at this
  have e : namesL.length = 7 := rfl
  simp at this
  omega
structure IterPost (h₀ : Heap) (L : Addr) (s : Shared) (m₀ : Str → Option Value) (ln : Addr) (o : Obj) (rest : List (Addr × Obj)) (v : Value) (s' : Shared) : Prop where
  at_ : ∃ (D : Addr) (h' : Heap) (tk : Nat) (vs : List Value) (vsS : List Str), v = .ref D ∧ s' = { s with heap := h', toks := tk } ∧ Fr h₀ L h' m₀ ∧ News h₀ L h' ((ln, o) :: (D, listOf vs.toArray 0) :: rest) ∧ StrsAt vs vsS ∧ insAll vsS = namesL ∧ (@Ne Nat D ln)
theorem iter_split {M : Model} {A : Around} {h₀ : Heap} {L : Addr} {s : Shared} {m₀ : Str → Option Value} {ln : Addr} {o : Obj} {rest : List (Addr × Obj)} {c : Sem Value} {Q : Value → Shared → Prop} {E : Value → Shared → Prop}
    (F : Fr h₀ L s.heap m₀) (N : News h₀ L s.heap ((ln, o) :: rest)) (h1 : wpAny M A c (IterPost h₀ L s m₀ ln o rest) (fun _ _ => False) s)
    (h2 : ∀ (D : Addr) (h' : Heap) (tk : Nat) (vs : List Value) (vsS : List Str), Fr h₀ L h' m₀ → News h₀ L h' ((ln, o) :: (D, listOf vs.toArray 0) :: rest) → StrsAt vs vsS → insAll vsS = namesL → (@Ne Nat D ln) → Q (.ref D) { s with heap := h', toks := tk }) : wpAny M A c Q E s :=
  wpAny_mono h1 (fun v s' ⟨⟨D, h', tk, vs, vsS, e, e2, F', N', hs, hn, hd⟩⟩ => by subst e; subst e2; exact h2 D h' tk vs vsS F' N' hs hn hd) (fun _ _ x => x.elim)
theorem allLt_ne {d : Nat} : ∀ {l : List (Addr × Obj)}, AllLt d l → ∀ q ∈ l, q.1 ≠ d
  | [], _, _, hq => absurd hq List.not_mem_nil
  | _ :: _, h, q, hq => (List.mem_cons.mp hq).elim (fun e => e ▸ Nat.ne_of_lt h.1) fun hq => allLt_ne h.2 q hq

end Mine
namespace Mine
theorem offP24 : True ∧ True := by
  have h : True ∧ True := by first | (walk1; done) | exact ⟨trivial, trivial⟩
  w_top off
  exact h
theorem bis_at {c : Nat → Bool} {p : Nat} {lo hi : Nat} (h1 : lo ≤ p) (h2 : p ≤ hi) (h3 : ∀ i, lo ≤ i → i < p → c i = true) (h4 : ∀ i, p ≤ i → i < hi → c i = false) : bis c lo hi = p := by
  induction hn : hi - lo using Nat.strongRecOn generalizing lo hi with
  | ind n ih =>
    by_cases q : lo < hi
    · rw [bis_go q]
      by_cases r : (lo + hi) / 2 < p
      · rw [if_pos (h3 _ (by omega) r)]
        exact ih (hi - ((lo + hi) / 2 + 1)) (by omega) (by omega) h2 (fun i a b => h3 i (by omega) b) h4 rfl
      · have e : c ((lo + hi) / 2) = false := h4 _ (by omega) (by omega)
        rw [if_neg (by rw [e]; decide)]
        exact ih ((lo + hi) / 2 - lo) (by omega) h1 (by omega) h3 (fun i a b => h4 i a (by omega)) rfl
    · rw [bis_end q]; omega
theorem bis_split {α : Type} {A B : List α} {c : Nat → Bool} {g : α → Bool} (h1 : ∀ i a, (A ++ B)[i]? = some a → c i = g a) (hA : ∀ a ∈ A, g a = true) (hB : ∀ a ∈ B, g a = false) : bis c 0 (A ++ B).length = A.length := by
  refine bis_at (Nat.zero_le _) (by simp) (fun i _ hi => ?_) (fun i hi hi2 => ?_)
  · have e : (A ++ B)[i]? = some (A[i]'hi) := by rw [List.getElem?_append_left hi, List.getElem?_eq_getElem hi]
    rw [h1 i _ e]
    exact hA _ (List.getElem_mem _)
  · have hl : i - A.length < B.length := by rw [List.length_append] at hi2; omega
    have e : (A ++ B)[i]? = some (B[i - A.length]'hl) := by rw [List.getElem?_append_right hi, List.getElem?_eq_getElem hl]
    rw [h1 i _ e]
    exact hB _ (List.getElem_mem _)
abbrev SortZ (row : List Int) : Prop := row.Pairwise (· ≤ ·)
abbrev SortS (row : List Int) : Prop := row.Pairwise (· < ·)
theorem SortS.le {row : List Int} (h : SortS row) : SortZ row := h.imp fun h => Int.le_of_lt h
theorem split_lt (x : Int) : ∀ {row : List Int}, SortZ row → ∃ A B, row = A ++ B ∧ (∀ a ∈ A, a < x) ∧ (∀ b ∈ B, x ≤ b)
  | [], _ => ⟨[], [], rfl, by simp, by simp⟩
  | a :: row, h => by
    have h := List.pairwise_cons.mp h
    by_cases q : a < x
    · obtain ⟨A, B, e, hA, hB⟩ := split_lt x h.2
      exact ⟨a :: A, B, by rw [e]; rfl, List.forall_mem_cons.mpr ⟨q, hA⟩, hB⟩
    · exact ⟨[], a :: row, rfl, by simp, List.forall_mem_cons.mpr ⟨by omega, fun b hb => by have := h.1 b hb; omega⟩⟩
theorem split_le (x : Int) : ∀ {row : List Int}, SortZ row → ∃ A B, row = A ++ B ∧ (∀ a ∈ A, a ≤ x) ∧ (∀ b ∈ B, x < b) := by
  intro row h
  obtain ⟨A, B, e, hA, hB⟩ := split_lt (x + 1) h
  exact ⟨A, B, e, fun a ha => by have := hA a ha; omega, fun b hb => by have := hB b hb; omega⟩
theorem zAt_of {ns : List Int} {i : Nat} {a : Int} (h : ns[i]? = some a) : zAt ns i = a := by unfold zAt; rw [h]; rfl
theorem blZ_split {A B : List Int} {x : Int} (hA : ∀ a ∈ A, a < x) (hB : ∀ b ∈ B, x ≤ b) : blZ (A ++ B) x = A.length := by
  unfold blZ
  exact bis_split (g := fun a => decide (a < x)) (fun i a e => by rw [zAt_of e]) (fun a ha => by simpa using hA a ha) (fun b hb => by have := hB b hb; simp; omega)
theorem brZ_split {A B : List Int} {x : Int} (hA : ∀ a ∈ A, a ≤ x) (hB : ∀ b ∈ B, x < b) : brZ (A ++ B) x = A.length := by
  unfold brZ
  exact bis_split (g := fun a => !decide (x < a)) (fun i a e => by rw [zAt_of e]) (fun a ha => by have := hA a ha; simp; omega) (fun b hb => by have := hB b hb; simp; omega)
theorem insZ_split (A B : List Int) (x : Int) : insZ (A ++ B) A.length x = A ++ x :: B := by unfold insZ; rw [List.take_left, List.drop_left]
theorem ins_spec {row : List Int} (h : SortZ row) (x : Int) : SortZ (insZ row (blZ row x) x) ∧ (insZ row (blZ row x) x).Perm (x :: row) := by
  obtain ⟨A, B, rfl, hA, hB⟩ := split_lt x h
  rw [blZ_split hA hB, insZ_split]
  have h' := List.pairwise_append.mp h
  refine ⟨List.pairwise_append.mpr ⟨h'.1, List.pairwise_cons.mpr ⟨hB, h'.2.1⟩, fun a ha b hb => ?_⟩, List.perm_middle⟩
  rcases List.mem_cons.mp hb with rfl | hb
  · exact Int.le_of_lt (hA a ha)
  · exact h'.2.2 a ha b hb
def popZ (row : List Int) (p : Nat) : List Int := row.take p ++ row.drop (p + 1)
theorem pop_spec {row : List Int} (h : SortZ row) {x : Int} (hx : x ∈ row) : blZ row x < row.length ∧ SortZ (popZ row (blZ row x)) ∧ row.Perm (x :: popZ row (blZ row x)) := by
  obtain ⟨A, B, rfl, hA, hB⟩ := split_lt x h
  rw [blZ_split hA hB]
  have h' := List.pairwise_append.mp h
  have hxB : x ∈ B := by
    rcases List.mem_append.mp hx with q | q
    · exact absurd (hA x q) (Int.lt_irrefl _)
    · exact q
  cases B with
  | nil => cases hxB
  | cons b B =>
    have hb : b = x := by
      rcases List.mem_cons.mp hxB with q | q
      · exact q.symm
      · have h1 := (List.pairwise_cons.mp h'.2.1).1 x q
        have h2 := hB b (.head _)
        omega
    subst hb
    have e : popZ (A ++ b :: B) A.length = A ++ B := by
      unfold popZ
      rw [List.take_left, List.drop_append]
      simp
    rw [e]
    refine ⟨by simp, List.pairwise_append.mpr ⟨h'.1, (List.pairwise_cons.mp h'.2.1).2, fun a ha c hc => h'.2.2 a ha c (.tail _ hc)⟩, List.perm_middle⟩
theorem stepV_spec {row : List Int} (h : SortS row) (x : Int) : SortS (stepV row x) ∧ ∀ y, y ∈ stepV row x ↔ y = x ∨ y ∈ row := by
  obtain ⟨A, B, e, hA, hB⟩ := split_lt x h.le
  obtain ⟨A2, B2, e2, hA2, hB2⟩ := split_le x h.le
  have e1 : blZ row x = A.length := by rw [e]; exact blZ_split hA hB
  have e3 : brZ row x = A2.length := by rw [e2]; exact brZ_split hA2 hB2
  unfold stepV
  rw [e1, e3]
  by_cases q : A.length = A2.length
  · rw [if_pos q]
    obtain ⟨rfl, rfl⟩ := List.append_inj (e.symm.trans e2) q
    subst e
    rw [insZ_split]
    have h' := List.pairwise_append.mp h
    refine ⟨List.pairwise_append.mpr ⟨h'.1, List.pairwise_cons.mpr ⟨hB2, h'.2.1⟩, fun a ha b hb => ?_⟩, fun y => ?_⟩
    · rcases List.mem_cons.mp hb with rfl | hb
      · exact hA a ha
      · exact h'.2.2 a ha b hb
    · simp only [List.mem_append, List.mem_cons]
      constructor
      · rintro (h | h | h)
        · exact .inr (.inl h)
        · exact .inl h
        · exact .inr (.inr h)
      · rintro (h | h | h)
        · exact .inr (.inl h)
        · exact .inl h
        · exact .inr (.inr h)
  · rw [if_neg q]
    refine ⟨h, fun y => ⟨.inr, ?_⟩⟩
    rintro (rfl | hy)
    · by_cases hm : y ∈ row
      · exact hm
      · exfalso
        apply q
        have : brZ row y = A.length := by
          rw [e]
          refine brZ_split (fun a ha => Int.le_of_lt (hA a ha)) (fun b hb => ?_)
          have h1 := hB b hb
          have h2 : b ≠ y := fun w => hm (by rw [e, ← w]; exact List.mem_append_right _ hb)
          omega
        rw [← this, e3]
    · exact hy
theorem rivR_spec (rs : List (Str × Int)) : SortS (rivR rs) ∧ 2 ∈ rivR rs ∧ ∀ r ∈ rs, r.2 + 1 ∈ rivR rs := by
  have key : ∀ (rs : List (Str × Int)) (row : List Int), SortS row → SortS (rs.foldl (fun row r => stepV (stepV row (r.2 - 1)) (r.2 + 1)) row) ∧ (∀ y ∈ row, y ∈ rs.foldl (fun row r => stepV (stepV row (r.2 - 1)) (r.2 + 1)) row) ∧ ∀ r ∈ rs, r.2 + 1 ∈ rs.foldl (fun row r => stepV (stepV row (r.2 - 1)) (r.2 + 1)) row := by
    intro rs
    induction rs with
    | nil => intro row h; exact ⟨h, fun y hy => hy, by simp⟩
    | cons r rs ih =>
      intro row h
      have h1 := stepV_spec h (r.2 - 1)
      have h2 := stepV_spec h1.1 (r.2 + 1)
      obtain ⟨a, b, c⟩ := ih _ h2.1
      simp only [List.foldl_cons]
      refine ⟨a, fun y hy => b y ((h2.2 y).mpr (.inr ((h1.2 y).mpr (.inr hy)))), List.forall_mem_cons.mpr ⟨b _ ((h2.2 _).mpr (.inl rfl)), c⟩⟩
  have := key rs [0, 2] (by decide)
  exact ⟨this.1, this.2.1 2 (by decide), this.2.2⟩
/-- the greatest mark above 1 that meets a name, or 1 -/
def mxS (nm : Str) (M : Int) (r : Str × Int) : Int := if hits nm r.1 = true ∧ M < r.2 then r.2 else M
def mx (nm : Str) (rs : List (Str × Int)) : Int := rs.foldl (mxS nm) 1
def enc (M : Int) : Int × Bool := if M = 1 then (-1, true) else (M.fdiv 2, M.fmod 2 == 1)
theorem mxS_ge (nm : Str) (M : Int) (r : Str × Int) : M ≤ mxS nm M r := by unfold mxS; split <;> omega
theorem mxF_ge (nm : Str) : ∀ (rs : List (Str × Int)) (M : Int), M ≤ rs.foldl (mxS nm) M
  | [], M => Int.le_refl _
  | r :: rs, M => Int.le_trans (mxS_ge nm M r) (mxF_ge nm rs _)
theorem fdiv2 (a : Int) : a.fdiv 2 = a / 2 := Int.fdiv_eq_ediv_of_nonneg _ (by decide)
theorem fmod2 (a : Int) : a.fmod 2 = a % 2 := Int.fmod_eq_emod_of_nonneg _ (by decide)
theorem step_enc (nm : Str) (M : Int) (r : Str × Int) (h : 1 ≤ M) : stepA nm (enc M) r = enc (mxS nm M r) := by
  obtain ⟨p, m⟩ := r
  unfold stepA mxS app enc
  simp only [fdiv2, fmod2]
  by_cases hh : hits nm p = true
  · simp only [hh, if_true, true_and]
    by_cases h1 : M = 1
    · subst h1
      simp only [if_true]
      by_cases h2 : 1 < m
      · rw [if_neg (show ¬ m / 2 = 0 by omega), if_pos (show (-1 : Int) < m / 2 by omega), if_pos h2, if_neg (show ¬ m = 1 by omega)]
      · rw [if_neg h2, if_pos rfl]
        by_cases h3 : m / 2 = 0
        · rw [if_pos h3]
        · rw [if_neg h3, if_neg (show ¬ (-1 : Int) < m / 2 by omega), if_neg (by simp)]
    · rw [if_neg h1]
      by_cases h2 : M < m
      · rw [if_pos h2, if_neg (show ¬ m / 2 = 0 by omega), if_neg (show ¬ m = 1 by omega)]
        dsimp only
        by_cases h3 : M / 2 < m / 2
        · rw [if_pos h3]
        · rw [if_neg h3]
          have h4 : m / 2 = M / 2 := by omega
          have h5 : (M % 2 == 1) = false := by rw [beq_eq_false_iff_ne]; omega
          rw [if_pos ⟨h4, h5⟩, h4]
      · rw [if_neg h2, if_neg h1]
        by_cases h3 : m / 2 = 0
        · rw [if_pos h3]
        · rw [if_neg h3, if_neg (show ¬ M / 2 < m / 2 by omega)]
          dsimp only
          by_cases h4 : m / 2 = M / 2 ∧ (M % 2 == 1) = false
          · rw [if_pos h4]
            have h5 := beq_eq_false_iff_ne.mp h4.2
            have h6 : m % 2 = M % 2 := by omega
            rw [h6]
          · rw [if_neg h4]
  · simp only [hh, Bool.false_eq_true, if_false, false_and, if_true]
theorem scan_mx (nm : Str) (rs : List (Str × Int)) : scan nm rs = enc (mx nm rs) := by
  have key : ∀ (rs : List (Str × Int)) (M : Int), 1 ≤ M → rs.foldl (stepA nm) (enc M) = enc (rs.foldl (mxS nm) M) := by
    intro rs
    induction rs with
    | nil => intro M _; rfl
    | cons r rs ih =>
      intro M h
      simp only [List.foldl_cons]
      rw [step_enc nm M r h]
      exact ih _ (Int.le_trans h (mxS_ge nm M r))
  exact key rs 1 (Int.le_refl _)
theorem mx_ge (nm : Str) (rs : List (Str × Int)) : 1 ≤ mx nm rs := mxF_ge nm rs 1
def oddB (a : Int) : Bool := a.fmod 2 == 1
theorem says_mx (nm : Str) (rs : List (Str × Int)) : says nm rs = oddB (mx nm rs) := by
  unfold says oddB
  rw [scan_mx]
  unfold enc
  split
  · rename_i h; rw [h]; rfl
  · rfl
theorem mxF_max (nm : Str) : ∀ (rs : List (Str × Int)) (a b : Int), rs.foldl (mxS nm) (max a b) = max (rs.foldl (mxS nm) a) b
  | [], a, b => rfl
  | r :: rs, a, b => by
    simp only [List.foldl_cons]
    rw [← mxF_max nm rs (mxS nm a r) b]
    congr 1
    unfold mxS
    by_cases hh : hits nm r.1 = true
    · simp only [hh, true_and]; split <;> split <;> omega
    · simp only [hh, Bool.false_eq_true, false_and, if_false]
theorem mx_join {nm : Str} (hn : hits nm (Str.ofString "") = true) (rs : List (Str × Int)) (m : Int) : mx nm (joinR rs m) = max (mx nm rs) m := by
  unfold joinR mx
  split
  · rw [List.foldl_append]
    show mxS nm _ _ = _
    unfold mxS
    simp only [hn, true_and]
    split <;> omega
  · show rs.foldl (mxS nm) (mxS nm 1 _) = _
    rw [← mxF_max]
    congr 1
    unfold mxS
    simp only [hn, true_and]
    split <;> omega
theorem least_mx {nm : Str} (hn : hits nm (Str.ofString "") = true) {rs : List (Str × Int)} (hm : mx nm rs = 1 ∨ ∃ r ∈ rs, r.2 = mx nm rs) : leastR rs nm (says nm rs) (rivR rs) = [mx nm rs + 1] := by
  obtain ⟨hs, h2, h3⟩ := rivR_spec rs
  have hr : mx nm rs + 1 ∈ rivR rs := by
    rcases hm with e | ⟨r, hr, e⟩
    · rw [e]; exact h2
    · rw [← e]; exact h3 r hr
  have hge := mx_ge nm rs
  have hc : ∀ a ∈ othersR (says nm rs) (rivR rs), (says nm (joinR rs a) != says nm rs) = decide (mx nm rs < a) := by
    intro a ha
    have hp := (List.mem_filter.mp ha).2
    rw [says_mx nm rs] at hp
    rw [says_mx, says_mx, mx_join hn]
    generalize mx nm rs = M at *
    unfold oddB at *
    simp only [bne_iff_ne, ne_eq, fmod2] at *
    by_cases q : M < a
    · rw [show max M a = a by omega]
      rw [decide_eq_true q]
      simpa using hp
    · rw [show max M a = M by omega]
      rw [decide_eq_false q]
      simp
  have hos : SortS (othersR (says nm rs) (rivR rs)) := List.Pairwise.filter _ hs
  have hmem : mx nm rs + 1 ∈ othersR (says nm rs) (rivR rs) := by
    refine List.mem_filter.mpr ⟨hr, ?_⟩
    rw [says_mx nm rs]
    unfold oddB
    simp only [fmod2, bne_iff_ne, ne_eq]
    intro q
    by_cases h1 : mx nm rs % 2 = 1
    · have h2 : ((mx nm rs + 1) % 2 == 1) = true := by rw [q, h1]; rfl
      have h2' := beq_iff_eq.mp h2
      omega
    · have h2 : ((mx nm rs + 1) % 2 == 1) = false := by rw [q]; exact beq_eq_false_iff_ne.mpr h1
      have h2' := beq_eq_false_iff_ne.mp h2
      omega
  obtain ⟨A, B, e, hA, hB⟩ := split_le (mx nm rs) hos.le
  have hP : leastP rs nm (says nm rs) (othersR (says nm rs) (rivR rs)) = A.length := by
    unfold leastP
    rw [e]
    refine bis_split (g := fun a => !decide (mx nm rs < a)) (fun i a hi => ?_) (fun a ha => by have := hA a ha; simp; omega) (fun b hb => by have := hB b hb; simp; omega)
    rw [hi]
    rw [← e] at hi
    have := hc a (List.mem_of_getElem? hi)
    simp only [Option.getD_some]
    rw [this]
  unfold leastR
  rw [hP, e, List.drop_left]
  have hmB : mx nm rs + 1 ∈ B := by
    rw [e] at hmem
    rcases List.mem_append.mp hmem with q | q
    · have := hA _ q; omega
    · exact q
  cases B with
  | nil => cases hmB
  | cons b B =>
    rw [e] at hos
    have h' := (List.pairwise_append.mp hos).2.1
    have hb : b = mx nm rs + 1 := by
      rcases List.mem_cons.mp hmB with q | q
      · exact q.symm
      · have h1 := (List.pairwise_cons.mp h').1 _ q
        have h2 := hB b (.head _)
        omega
    rw [hb]
    rfl

end Mine
namespace Mine
theorem offP24b : True ∧ True := by
  have h : True ∧ True := by first | (walk1; done) | exact ⟨trivial, trivial⟩
  w_top off
  exact h
def mkS (p : Int × Nat × Nat → Bool) (sp : List (Int × Nat × Nat)) : List Int := (sp.filter p).map (·.1)
def A1 (i : Nat) (q : Int × Nat × Nat) : Bool := decide (q.2.1 < i) && decide (i < q.2.2)
def A2 (i : Nat) (q : Int × Nat × Nat) : Bool := decide (q.2.1 < i) && decide (i ≤ q.2.2)
def A3 (i : Nat) (q : Int × Nat × Nat) : Bool := decide (q.2.1 ≤ i) && decide (i < q.2.2)
theorem mkS_append (p : Int × Nat × Nat → Bool) (a b : List (Int × Nat × Nat)) : mkS p (a ++ b) = mkS p a ++ mkS p b := by unfold mkS; rw [List.filter_append, List.map_append]
theorem mkS_pos {p : Int × Nat × Nat → Bool} {q : Int × Nat × Nat} (h : p q = true) (l : List (Int × Nat × Nat)) : mkS p (q :: l) = q.1 :: mkS p l := by unfold mkS; rw [List.filter_cons_of_pos h]; rfl
theorem mkS_neg {p : Int × Nat × Nat → Bool} {q : Int × Nat × Nat} (h : p q = false) (l : List (Int × Nat × Nat)) : mkS p (q :: l) = mkS p l := by unfold mkS; rw [List.filter_cons_of_neg (by rw [h]; decide)]
theorem take_next {α : Type} {l : List α} {j : Nat} {q : α} (h : l[j]? = some q) : l.take (j + 1) = l.take j ++ [q] := by rw [List.take_add_one, h]; rfl
theorem drop_this {α : Type} {l : List α} {j : Nat} {q : α} (h : l[j]? = some q) : l.drop j = q :: l.drop (j + 1) := by
  obtain ⟨hl, e⟩ := List.getElem?_eq_some_iff.mp h
  rw [List.drop_eq_getElem_cons hl, e]
structure InvR (a b : Int × Nat × Nat → Bool) (sp : List (Int × Nat × Nat)) (j : Nat) (row : List Int) : Prop where
  sort : SortZ row
  perm : row.Perm (1 :: (mkS a (sp.take j) ++ mkS b (sp.drop j)))
theorem InvR.skip {a b : Int × Nat × Nat → Bool} {sp : List (Int × Nat × Nat)} {j : Nat} {row : List Int} {q : Int × Nat × Nat} (h : InvR a b sp j row) (hq : sp[j]? = some q) (e : a q = b q) : InvR a b sp (j + 1) row := by
  refine ⟨h.sort, ?_⟩
  have hp := h.perm
  rw [drop_this hq] at hp
  rw [take_next hq, mkS_append]
  cases hb : b q with
  | true => rw [mkS_pos hb] at hp; rw [mkS_pos (e.trans hb)]; simpa [mkS] using hp
  | false => rw [mkS_neg hb] at hp; rw [mkS_neg (e.trans hb)]; simpa [mkS] using hp
theorem InvR.pop {a b : Int × Nat × Nat → Bool} {sp : List (Int × Nat × Nat)} {j : Nat} {row : List Int} {q : Int × Nat × Nat} (h : InvR a b sp j row) (hq : sp[j]? = some q) (ha : a q = false) (hb : b q = true) :
    blZ row q.1 < row.length ∧ InvR a b sp (j + 1) (popZ row (blZ row q.1)) := by
  have hp := h.perm
  rw [drop_this hq, mkS_pos hb] at hp
  have hp2 : row.Perm (q.1 :: 1 :: (mkS a (sp.take j) ++ mkS b (sp.drop (j + 1)))) := hp.trans (List.perm_middle (l₁ := 1 :: mkS a (sp.take j)))
  have hm : q.1 ∈ row := hp2.mem_iff.mpr (.head _)
  obtain ⟨h1, h2, h3⟩ := pop_spec h.sort hm
  refine ⟨h1, h2, ?_⟩
  rw [take_next hq, mkS_append, mkS_neg ha]
  have := (h3.symm.trans hp2).cons_inv
  simpa [mkS] using this
theorem InvR.ins {a b : Int × Nat × Nat → Bool} {sp : List (Int × Nat × Nat)} {j : Nat} {row : List Int} {q : Int × Nat × Nat} (h : InvR a b sp j row) (hq : sp[j]? = some q) (ha : a q = true) (hb : b q = false) :
    InvR a b sp (j + 1) (insZ row (blZ row q.1) q.1) := by
  have hp := h.perm
  rw [drop_this hq, mkS_neg hb] at hp
  obtain ⟨h2, h3⟩ := ins_spec h.sort q.1
  refine ⟨h2, ?_⟩
  rw [take_next hq, mkS_append, mkS_pos ha]
  have e : (1 :: (mkS a (sp.take j) ++ q.1 :: mkS a [] ++ mkS b (sp.drop (j + 1)))).Perm (q.1 :: 1 :: (mkS a (sp.take j) ++ mkS b (sp.drop (j + 1)))) := by
    have := List.perm_middle (l₁ := 1 :: mkS a (sp.take j)) (a := q.1) (l₂ := mkS b (sp.drop (j + 1)))
    simpa [mkS] using this
  exact h3.trans ((hp.cons q.1).trans e.symm)
theorem InvR.len {a b : Int × Nat × Nat → Bool} {sp : List (Int × Nat × Nat)} {j : Nat} {row : List Int} (h : InvR a b sp j row) : row.length ≤ 1 + sp.length := by
  have h1 := h.perm.length_eq
  have h2 : (mkS a (sp.take j)).length ≤ (sp.take j).length := by unfold mkS; rw [List.length_map]; exact List.length_filter_le _ _
  have h3 : (mkS b (sp.drop j)).length ≤ (sp.drop j).length := by unfold mkS; rw [List.length_map]; exact List.length_filter_le _ _
  have h4 : (sp.take j).length + (sp.drop j).length = sp.length := by rw [← List.length_append, List.take_append_drop]
  simp only [List.length_cons, List.length_append] at h1
  omega
theorem InvR.ne {a b : Int × Nat × Nat → Bool} {sp : List (Int × Nat × Nat)} {j : Nat} {row : List Int} (h : InvR a b sp j row) : row ≠ [] := fun e => by
  have := h.perm.length_eq
  rw [e] at this
  simp at this
abbrev InvP (sp : List (Int × Nat × Nat)) (i j : Nat) (row : List Int) : Prop := InvR (A1 i) (A2 i) sp j row
abbrev InvQ (sp : List (Int × Nat × Nat)) (i j : Nat) (row : List Int) : Prop := InvR (A3 i) (A1 i) sp j row
theorem InvP.start (sp : List (Int × Nat × Nat)) : InvP sp 0 0 [1] := by
  refine ⟨by simp, ?_⟩
  have : mkS (A2 0) sp = [] := by unfold mkS A2; simp
  rw [List.take_zero, List.drop_zero, this]
  exact List.Perm.refl _
theorem InvP.toQ {sp : List (Int × Nat × Nat)} {i : Nat} {row : List Int} (h : InvP sp i sp.length row) : InvQ sp i 0 row := by
  refine ⟨h.sort, ?_⟩
  have := h.perm
  simpa [mkS] using this
theorem InvQ.next {sp : List (Int × Nat × Nat)} {i : Nat} {row : List Int} (h : InvQ sp i sp.length row) : InvP sp (i + 1) 0 row := by
  refine ⟨h.sort, ?_⟩
  have e : A3 i = A2 (i + 1) := by
    funext q
    unfold A3 A2
    congr 1
    · exact decide_eq_decide.mpr (by omega)
  have := h.perm
  rw [e] at this
  simpa [mkS] using this
theorem InvP.done {sp : List (Int × Nat × Nat)} {n : Nat} {row : List Int} (h : InvP sp n sp.length row) (hb : ∀ q ∈ sp, q.2.2 ≤ n) : row = [1] := by
  have e : mkS (A1 n) sp = [] := by
    unfold mkS A1
    rw [List.map_eq_nil_iff, List.filter_eq_nil_iff]
    intro q hq
    have := hb q hq
    simp; omega
  have := h.perm
  rw [List.take_length, e, List.drop_length] at this
  exact List.perm_singleton.mp (by simpa [mkS] using this)
theorem mx_spec (nm : Str) (rs : List (Str × Int)) : (mx nm rs = 1 ∨ ∃ r ∈ rs, hits nm r.1 = true ∧ 1 < r.2 ∧ r.2 = mx nm rs) ∧ ∀ r ∈ rs, hits nm r.1 = true → r.2 ≤ mx nm rs := by
  have key : ∀ (rs : List (Str × Int)) (M : Int), (rs.foldl (mxS nm) M = M ∨ ∃ r ∈ rs, hits nm r.1 = true ∧ M < r.2 ∧ r.2 = rs.foldl (mxS nm) M) ∧ ∀ r ∈ rs, hits nm r.1 = true → r.2 ≤ rs.foldl (mxS nm) M := by
    intro rs
    induction rs with
    | nil => intro M; exact ⟨.inl rfl, by simp⟩
    | cons r rs ih =>
      intro M
      obtain ⟨h1, h2⟩ := ih (mxS nm M r)
      simp only [List.foldl_cons]
      have hge := mxF_ge nm rs (mxS nm M r)
      have hM := mxS_ge nm M r
      constructor
      · rcases h1 with e | ⟨r', hr', a, b, c⟩
        · by_cases q : hits nm r.1 = true ∧ M < r.2
          · refine .inr ⟨r, .head _, q.1, q.2, ?_⟩
            rw [e]; unfold mxS; rw [if_pos q]
          · refine .inl ?_
            rw [e]; unfold mxS; rw [if_neg q]
        · exact .inr ⟨r', .tail _ hr', a, by omega, c⟩
      · intro r' hr' hh
        rcases List.mem_cons.mp hr' with rfl | hr'
        · have : r'.2 ≤ mxS nm M r' := by unfold mxS; simp only [hh, true_and]; split <;> omega
          omega
        · exact h2 r' hr' hh
  exact key rs 1
theorem span_hits : ∀ p ∈ pathsL, ∀ i, i < 7 → (decide (firstP namesL p ≤ i) && decide (i < behindP namesL p)) = hits (sAt namesL i) p := by decide +kernel
theorem span_good : ∀ p ∈ pathsL, firstP namesL p < behindP namesL p ∧ behindP namesL p ≤ 7 := by decide +kernel
theorem names_hits : ∀ i, i < 7 → hits (sAt namesL i) (Str.ofString "") = true := by decide +kernel
theorem rule_path (n : Int) : (ruleOf n).1 ∈ pathsL := by
  unfold ruleOf
  show (pathsL[(n.fmod 7).toNat]?).getD (Str.ofString "") ∈ pathsL
  cases h : pathsL[(n.fmod 7).toNat]? with
  | none => exact .head _
  | some p => exact List.mem_of_getElem? h
theorem rules_path {ns : List Int} {r : Str × Int} (h : r ∈ rulesOf ns) : r.1 ∈ pathsL := by
  obtain ⟨n, _, rfl⟩ := List.mem_map.mp h
  exact rule_path n
theorem spanR_mem {nms : List Str} {rs : List (Str × Int)} {q : Int × Nat × Nat} : q ∈ spanR nms rs ↔ ∃ r ∈ rs, 1 < r.2 ∧ q = (r.2, firstP nms r.1, behindP nms r.1) := by
  unfold spanR
  rw [List.mem_filterMap]
  constructor
  · rintro ⟨r, hr, h⟩
    by_cases c : r.2 > 1
    · rw [if_pos c] at h; exact ⟨r, hr, c, (Option.some.inj h).symm⟩
    · rw [if_neg c] at h; cases h
  · rintro ⟨r, hr, c, rfl⟩
    exact ⟨r, hr, if_pos c⟩
theorem spans_good {ns : List Int} : ∀ q ∈ spanR namesL (rulesOf ns), q.2.1 < q.2.2 ∧ q.2.2 ≤ 7 := by
  intro q hq
  obtain ⟨r, hr, _, rfl⟩ := spanR_mem.mp hq
  exact span_good _ (rules_path hr)
theorem spanR_len (nms : List Str) (rs : List (Str × Int)) : (spanR nms rs).length ≤ rs.length := List.length_filterMap_le _ _
theorem row_last {ns : List Int} {i : Nat} {row : List Int} (hi : i < 7) (h : InvQ (spanR namesL (rulesOf ns)) i (spanR namesL (rulesOf ns)).length row) : ∃ R, row = R ++ [mx (sAt namesL i) (rulesOf ns)] := by
  have hne := h.ne
  refine ⟨row.dropLast, ?_⟩
  have e := (List.dropLast_concat_getLast hne).symm
  have hz : row.getLast hne ∈ row := List.getLast_mem hne
  have hmax : ∀ a ∈ row, a ≤ row.getLast hne := by
    intro a ha
    have hs := h.sort
    rw [e] at hs ha
    rcases List.mem_append.mp ha with q | q
    · exact (List.pairwise_append.mp hs).2.2 a q _ (.head _)
    · rw [List.mem_singleton.mp q]; exact Int.le_refl _
  have hmem : ∀ x, x ∈ row ↔ x = 1 ∨ ∃ r ∈ rulesOf ns, 1 < r.2 ∧ hits (sAt namesL i) r.1 = true ∧ x = r.2 := by
    intro x
    rw [h.perm.mem_iff, List.take_length, List.drop_length]
    simp only [mkS, List.filter_nil, List.map_nil, List.append_nil, List.mem_cons, List.mem_map, List.mem_filter]
    constructor
    · rintro (rfl | ⟨q, ⟨hq, ha⟩, rfl⟩)
      · exact .inl rfl
      · obtain ⟨r, hr, c, rfl⟩ := spanR_mem.mp hq
        exact .inr ⟨r, hr, c, by rw [← span_hits _ (rules_path hr) i hi]; exact ha, rfl⟩
    · rintro (rfl | ⟨r, hr, c, hh, rfl⟩)
      · exact .inl rfl
      · exact .inr ⟨_, ⟨spanR_mem.mpr ⟨r, hr, c, rfl⟩, by show (decide _ && decide _) = true; rw [span_hits _ (rules_path hr) i hi]; exact hh⟩, rfl⟩
  obtain ⟨m1, m2⟩ := mx_spec (sAt namesL i) (rulesOf ns)
  have hM : mx (sAt namesL i) (rulesOf ns) ∈ row := by
    rcases m1 with q | ⟨r, hr, a, b, c⟩
    · rw [q]; exact (hmem 1).mpr (.inl rfl)
    · exact (hmem _).mpr (.inr ⟨r, hr, b, a, c.symm⟩)
  have h1 := hmax _ hM
  have h2 : row.getLast hne ≤ mx (sAt namesL i) (rulesOf ns) := by
    rcases (hmem _).mp hz with q | ⟨r, hr, a, b, c⟩
    · rw [q]; exact mx_ge _ _
    · rw [c]; exact m2 r hr b
  have h3 : row.getLast hne = mx (sAt namesL i) (rulesOf ns) := Int.le_antisymm h2 h1
  rw [← h3]
  exact e
theorem least_names {ns : List Int} {i : Nat} (hi : i < 7) : leastR (rulesOf ns) (sAt namesL i) (says (sAt namesL i) (rulesOf ns)) (rivR (rulesOf ns)) = [mx (sAt namesL i) (rulesOf ns) + 1] :=
  least_mx (names_hits i hi) (match (mx_spec (sAt namesL i) (rulesOf ns)).1 with | .inl h => .inl h | .inr ⟨r, hr, _, _, c⟩ => .inr ⟨r, hr, c⟩)
theorem paths_len : ∀ p ∈ pathsL, p.length < 2 ^ 20 := by decide +kernel
theorem names_len : ∀ p ∈ namesL, p.length < 2 ^ 20 := by decide +kernel
theorem none_sub {g h : Heap} (hs : ∀ b o, g.get? b = some o → h.get? b = some o) {b : Addr} (e : h.get? b = none) : g.get? b = none := by
  cases q : g.get? b with
  | none => rfl
  | some o => rw [hs b o q] at e; cases e
theorem agree {g G : Heap} (hs : ∀ b o, g.get? b = some o → G.get? b = some o) : ∀ b o o', G.get? b = some o → g.get? b = some o' → o = o' := fun b o o' e e' => by have := hs b o' e'; rw [e] at this; exact Option.some.inj this
theorem led_none {G h₀ : Heap} {d : Addr} (hd : h₀.get? d = none) (h : AllLt d (ledOf G h₀)) : G.get? d = none := by
  cases q : G.get? d with
  | none => rfl
  | some o => exact absurd rfl (allLt_ne h (d, o) (mem_ledOf.mpr ⟨q, hd⟩))
/-- the body of a def, as the table of the top holds it -/
theorem of_fn {K : Frag} {f : Addr} {oc dV kV doc pm cdv ct oc' dV' kV' doc' pm' cdv' ct' : Value} {od an od' an' : Option Addr} {name qual name' qual' : Str} {params params' : Arguments} {body body' : List Stmt} {scope scope' : Scope} {osl osl' : Array (Option Value)} (P : Str → List Stmt → Scope → Prop)
    (ho : K.lookup f = some ⟨oc, od, .func (fnOf name qual params body scope dV kV doc pm an cdv ct), osl⟩) (ho' : K.lookup f = some ⟨oc', od', .func (fnOf name' qual' params' body' scope' dV' kV' doc' pm' an' cdv' ct'), osl'⟩) (h : P qual' body' scope') : P qual body scope := by
  rw [ho] at ho'
  cases ho'
  exact h

end Mine
namespace Mine
theorem offP25 : True ∧ True := by
  have h : True ∧ True := by first | (walk1; done) | exact ⟨trivial, trivial⟩
  w_top off
  exact h
theorem kl_cut_at : ∀ {vs : List Value} {k : Nat} (h : k < vs.length), kl_cut vs k = some (vs.take k, vs[k], vs.drop (k + 1))
  | x :: r, 0, _ => rfl
  | x :: r, k + 1, h => by
    have h' : k < r.length := by simp at h; omega
    show (match kl_cut r k with | some (p, y, q) => some (x :: p, y, q) | none => none) = _
    rw [kl_cut_at h']
    rfl
theorem seqIndex_at {k n : Nat} (h : k < n) : seqIndex? ((k : Nat) : Int) n = some k := by
  unfold seqIndex?
  have e : (if ((k : Nat) : Int) < 0 then ((k : Nat) : Int) + (n : Int) else ((k : Nat) : Int)) = ((k : Nat) : Int) := if_neg (by omega)
  dsimp only
  rw [e, if_pos (by simp; omega)]
  rfl
theorem ints_pop {vs : List Value} {ns : List Int} (h : IntsAre vs ns) (p : Nat) : IntsAre (vs.take p ++ vs.drop (p + 1)) (popZ ns p) := IntsAre.append (ints_take h p) (ints_drop h (p + 1))
theorem news_opq {h₀ h : Heap} {L : Addr} {a b : Addr × Obj} {R : List (Addr × Obj)} (N : News h₀ L h (b :: a :: R)) : ∃ R', R' = b :: R ∧ News h₀ L h (a :: R') :=
  ⟨_, rfl, fun q hq => by
    rcases List.mem_cons.mp hq with e | hq
    · rw [e]; exact N _ (.tail _ (.head _))
    · rcases List.mem_cons.mp hq with e | hq
      · rw [e]; exact N _ (.head _)
      · exact N _ (.tail _ (.tail _ hq))⟩
theorem blZ_le (ns : List Int) (x : Int) : blZ ns x ≤ ns.length := bis_le _ _ _ (Nat.zero_le _)
theorem fits_nat {k : Nat} (h : k < 2 ^ 20) : Builtin.List.listFitsIndex ((k : Nat) : Int) = true := by
  simp only [Builtin.List.listFitsIndex, Bool.and_eq_true, decide_eq_true_eq]
  omega
/-- row.pop at the place that halving has found -/
theorem pop_N {prog : Program} {w : World} {A : Around} {E : Value → Shared → Prop} {s : Shared} {h₀ : Heap} {L D : Addr} {m : Str → Option Value} {R : List (Addr × Obj)} {vs : List Value} {n k : Nat} {u : Tok} {Q : Value → Shared → Prop}
    (F : Fr h₀ L s.heap m) (N : News h₀ L s.heap ((D, listOf vs.toArray n) :: R)) (hR : ∀ q ∈ R, q.1 ≠ D) (hk : k < vs.length) (hz : vs.length < 2 ^ 20)
    (h : ∀ y h', Fr h₀ L h' m → News h₀ L h' ((D, listOf (vs.take k ++ vs.drop (k + 1)).toArray (n + 1)) :: R) → Q y { s with heap := h' }) : wpAny (model prog w) A (call (.builtin "list.pop") [.ref D, .int ((k : Nat) : Int) u]) Q E s :=
  kl_popAt F N (fits_nat (by omega)) (seqIndex_at (by rw [List.size_toArray]; exact hk)) (kl_cut_at hk) (Upd.head hR) (by show vs.length ≤ sizeLine; rw [sizeLine_eq]; omega) fun h' F' N' => h _ h' F' N'
theorem a12 {i f b : Nat} {mk : Int} (h : ((b : Nat) : Int) ≠ ((i : Nat) : Int)) : A1 i (mk, f, b) = A2 i (mk, f, b) := by
  unfold A1 A2; congr 1; exact decide_eq_decide.mpr (by dsimp only; omega)
theorem a1b {i f b : Nat} {mk : Int} (h : ((b : Nat) : Int) = ((i : Nat) : Int)) : A1 i (mk, f, b) = false := by
  unfold A1; rw [Bool.and_eq_false_iff]; exact .inr (decide_eq_false (by dsimp only; omega))
theorem a2b {i f b : Nat} {mk : Int} (h : ((b : Nat) : Int) = ((i : Nat) : Int)) (h2 : f < b) : A2 i (mk, f, b) = true := by
  unfold A2; rw [Bool.and_eq_true]; exact ⟨decide_eq_true (by dsimp only; omega), decide_eq_true (by dsimp only; omega)⟩
theorem a31 {i f b : Nat} {mk : Int} (h : ((f : Nat) : Int) ≠ ((i : Nat) : Int)) : A3 i (mk, f, b) = A1 i (mk, f, b) := by
  unfold A1 A3; congr 1; exact decide_eq_decide.mpr (by dsimp only; omega)
theorem a3f {i f b : Nat} {mk : Int} (h : ((f : Nat) : Int) = ((i : Nat) : Int)) (h2 : f < b) : A3 i (mk, f, b) = true := by
  unfold A3; rw [Bool.and_eq_true]; exact ⟨decide_eq_true (by dsimp only; omega), decide_eq_true (by dsimp only; omega)⟩
theorem a1f {i f b : Nat} {mk : Int} (h : ((f : Nat) : Int) = ((i : Nat) : Int)) : A1 i (mk, f, b) = false := by
  unfold A1; rw [Bool.and_eq_false_iff]; exact .inl (decide_eq_false (by dsimp only; omega))
theorem news_swap {h₀ h : Heap} {L : Addr} {a b : Addr × Obj} {R : List (Addr × Obj)} (N : News h₀ L h (b :: a :: R)) : News h₀ L h (a :: b :: R) := fun q hq => by
  rcases List.mem_cons.mp hq with e | hq
  · rw [e]; exact N _ (.tail _ (.head _))
  · rcases List.mem_cons.mp hq with e | hq
    · rw [e]; exact N _ (.head _)
    · exact N _ (.tail _ (.tail _ hq))
theorem row_len {a b : Int × Nat × Nat → Bool} {ns : List Int} {j : Nat} {row : List Int} {vs : List Value} (h : InvR a b (spanR namesL (rulesOf ns)) j row) (hi : IntsAre vs row) (hl : (rulesOf ns).length ≤ 8) : vs.length ≤ 9 := by
  have h1 := h.len
  have h2 := spanR_len namesL (rulesOf ns)
  have h3 := hi.length
  omega
theorem name_at {nvs : List Value} {i : Nat} (hS : StrsAt nvs namesL) (hi : i < 7) : ∃ tn, nvs.toArray[((i : Nat) : Int).toNat]? = some (.str (sAt namesL i) tn) := by
  have h7 : nvs.length = 7 := hS.1
  have e : ((i : Nat) : Int).toNat = i := by omega
  have hv : nvs[i]? = some (nvs[i]'(by omega)) := List.getElem?_eq_getElem (by omega)
  obtain ⟨t, ht⟩ := hS.2 i _ hv
  exact ⟨t, by rw [e, List.getElem?_toArray, hv, ht]; rfl⟩
theorem sAt_len {i : Nat} (hi : i < 7) : (sAt namesL i).length < 2 ^ 20 := by
  have : ∀ i, i < 7 → (sAt namesL i).length < 2 ^ 20 := by decide +kernel
  exact this i hi
theorem rules_len {ns : List Int} : ∀ r ∈ rulesOf ns, r.1.length < 2 ^ 20 := fun r hr => paths_len _ (rules_path hr)
theorem row_getD {row R : List Int} {x : Int} (h : row = R ++ [x]) : row.getD (-1 + (row.length : Int)).toNat 0 = x := by
  have e : (-1 + (row.length : Int)).toNat = R.length := by rw [h]; simp; omega
  rw [e, h]
  simp
theorem led_free {g h₀ : Heap} {d : Addr} (hd : h₀.get? d = none) (h : ∀ q ∈ ledOf g h₀, q.1 ≠ d) : g.get? d = none := by
  cases q : g.get? d with
  | none => rfl
  | some o => exact absurd rfl (h (d, o) (mem_ledOf.mpr ⟨q, hd⟩))
theorem names_expl {nvs : List Value} (hS : StrsAt nvs namesL) : ∃ t0 t1 t2 t3 t4 t5 t6, nvs = [.str (Str.ofString "") t0, .str (Str.ofString "a") t1, .str (Str.ofString "aa") t2, .str (Str.ofString "ab") t3, .str (Str.ofString "b") t4, .str (Str.ofString "ba") t5, .str (Str.ofString "bb") t6] := by
  have h7 : nvs.length = 7 := hS.1
  match nvs, h7, hS with
  | [v0, v1, v2, v3, v4, v5, v6], _, hS =>
    obtain ⟨t0, e0⟩ := hS.2 0 v0 rfl
    obtain ⟨t1, e1⟩ := hS.2 1 v1 rfl
    obtain ⟨t2, e2⟩ := hS.2 2 v2 rfl
    obtain ⟨t3, e3⟩ := hS.2 3 v3 rfl
    obtain ⟨t4, e4⟩ := hS.2 4 v4 rfl
    obtain ⟨t5, e5⟩ := hS.2 5 v5 rfl
    obtain ⟨t6, e6⟩ := hS.2 6 v6 rfl
    exact ⟨t0, t1, t2, t3, t4, t5, t6, by rw [e0, e1, e2, e3, e4, e5, e6]; rfl⟩
theorem fr_kstB {h₀ h : Heap} {L : Addr} {m : Str → Option Value} {ps : List (Str × Value)} (F : Fr h₀ L h m) (hk : ∀ q ∈ ps, m q.1 = some q.2) : Fr h₀ L h (kstB m ps) := by
  have e : kstB m ps = m := by funext z; exact kstB_eq hk fun _ => rfl
  rw [e]; exact F
theorem fn_use {K : Frag} {f : Addr} {oc dV kV doc pm cdv ct : Value} {od an : Option Addr} {name qual : Str} {params : Arguments} {body : List Stmt} {scope : Scope} {osl : Array (Option Value)} {G : Prop}
    (ho : K.lookup f = some ⟨oc, od, .func (fnOf name qual params body scope dV kV doc pm an cdv ct), osl⟩) (h : K.lookup f = some ⟨oc, od, .func (fnOf name qual params body scope dV kV doc pm an cdv ct), osl⟩ → G) : G := h ho
theorem LawPost.of {h₀ : Heap} {L : Addr} {s : Shared} {h : Heap} {tk : Nat} {fl : Flow} {s' : Shared} (x : LawPost h₀ L { s with heap := h, toks := tk } fl s') : LawPost h₀ L s fl s' :=
  let ⟨e, h', tk', m', a1, a2, a3, e2, F, N⟩ := x; ⟨e, h', tk', m', a1, a2, a3, e2, F, N⟩

end Mine
namespace Mine
theorem offP26 : True ∧ True := by
  have h : True ∧ True := by first | (walk1; done) | exact ⟨trivial, trivial⟩
  w_top off
  exact h
section
local macro_rules | `(tactic| walk_at "call ref") => `(tactic| refine Held.out ?_)
local macro_rules | `(tactic| walk_at "exec For Name Call cons nil") => `(tactic| refine Held.out ?_)
local macro_rules | `(tactic| walk_at "exec For Tuple Name cons nil") => `(tactic| refine Held.out ?_)
local macro_rules | `(tactic| walk_at "call builtin:list.pop") => `(tactic| refine Held.out ?_)
local macro_rules | `(tactic| walk_at "subscriptTail") => `(tactic| refine Held.out ?_)
local macro_rules | `(tactic| walk_at "getMethod ref") => `(tactic| ((with_reducible show wpAny _ _ (getMethod (Value.ref _) (PySem.Str.ofString "allowance") _) _ _ _); refine Held.out ?_))
local macro_rules | `(tactic| walk_at "compareOp NotEq ref ref") => `(tactic| refine Held.out ?_)
local macro_rules | `(tactic| walk_at "subscriptTail Name UnaryOp ref int") => `(tactic| refine Held.out ?_)
local macro_rules | `(tactic| walk_at "pyIter ref") => `(tactic| refine Held.out ?_)
local macro_rules | `(tactic| walk_at "mine same") => `(tactic| (intro z h2 h3; (try simp only [List.forall_mem_cons, List.not_mem_nil, false_implies, implies_true, and_true, ne_eq] at h2); (simp only [List.contains_cons, List.contains_nil, Bool.or_false, Bool.or_eq_false_iff, beq_eq_false_iff_ne, ne_eq] at h3); simp [kstB, h2, h3]))
theorem loop_c : ∀ {w : World} {s : Shared} {h₀ G : Heap} {L fa e ln lS lV lr : Addr} {cd : Value} {m₀ : Str → Option Value} {nvs ysS ysV : List Value} {nn nS nV nR : Nat} {tr : Tok} {ns : List Int} {a129 : Array Value}
   {oc dV kV doc pm cdv ct : Value} {od an : Option Addr} {name qual : Str} {params : Arguments} {body : List Stmt} {scope : Scope} {osl : Array (Option Value)} {p : Program} {loose : List Str} {mean : ExcName → Option Value} {mg mb : Str → Option Value}
   (ho : (hd.heap_39 w.params).lookup 144 = some ⟨oc, od, .func (fnOf name qual params body scope dV kV doc pm an cdv ct), osl⟩)
   (X0 : (hd.heap_39 w.params).In h₀) (T0 : Top p loose mean mg mb h₀) (C : CodeHd h₀ 138 136) (XF : Full w G) (hsub : ∀ b o, h₀.get? b = some o → G.get? b = some o)
   (zL : G.get? L = none) (z129 : G.get? 129 = none) (z136 : G.get? 136 = none) (zr : G.get? lr = none)
   (hr : RecAt w G e (rulesOf ns)) (hT : TripAt G ysS (spanR namesL (rulesOf ns))) (hln : G.get? ln = some (listOf nvs.toArray nn)) (hS : StrsAt nvs namesL) (hlS : G.get? lS = some (listOf ysS.toArray nS)) (hlV : G.get? lV = some (listOf ysV.toArray nV)) (hIV : IntsAre ysV (rivR (rulesOf ns)))
   (hlen : (rulesOf ns).length ≤ 8) (z101 : h₀.get? 101 = none) (h1 : 101 < L) (h2 : 129 < L) (h3 : 136 < L) (ne1 : lr ≠ 136) (ne2 : lr ≠ 129)
   (F : Fr h₀ L s.heap (kstB m₀ [("names", .ref ln), ("spans", .ref lS), ("rivals", .ref lV), ("row", .ref lr), ("record", .ref e)]))
   (N : News h₀ L s.heap ((lr, listOf #[.int 1 tr] nR) :: (136, tabObj #[]) :: (lS, listOf ysS.toArray nS) :: (ln, listOf nvs.toArray nn) :: (129, tabObj a129) :: ledOf G h₀)),
   wpAny (model PySem.Challenge.rw_ny0178_01.row.prog w) (callerA.deeper (envOfC qual scope L fa cd)) (execs (body.drop 10) (envOfC qual scope L fa cd)) (LawPost h₀ L s) (fun _ _ => False) s := by
  k_fill
  intro w s h₀ G L fa e ln lS lV lr cd m₀ nvs ysS ysV nn nS nV nR tr ns a129 oc dV kV doc pm cdv ct od an name qual params body scope osl p loose mean mg mb ho X0 T0 C XF hsub zL z129 z136 zr hr hT hln hS hlS hlV hIV hlen z101 h1 h2 h3 ne1 ne2 F N
  k_dflt (refine' of_fn (fun qual body scope => wpAny (model PySem.Challenge.rw_ny0178_01.row.prog w) (callerA.deeper (envOfC qual scope L fa cd)) (execs (body.drop 10) (envOfC qual scope L fa cd)) (LawPost h₀ L s) (fun _ _ => False) s) ho ?k6 ?_; (case k6 => k_is))
  clear ho
  have hr1 : @Ne Nat lr 136 := ne1
  have hr2 : @Ne Nat lr 129 := ne2
  have hr3 : @Ne Nat lr lS := fun q => by have := zr; rw [q, hlS] at this; cases this
  have hr4 : @Ne Nat lr ln := fun q => by have := zr; rw [q, hln] at this; cases this
  have hS1 : @Ne Nat lS 136 := fun q => by have := z136; rw [← q, hlS] at this; cases this
  have hn1 : @Ne Nat ln 136 := fun q => by have := z136; rw [← q, hln] at this; cases this
  obtain ⟨TL, hTL⟩ : ∃ TL, TL = ledOf G h₀ := ⟨_, rfl⟩
  rw [← hTL] at N
  with_reducible change wpAny _ _ _ _ _ _
  simp only [List.drop_succ_cons, List.drop_zero]
  k_fold
  k_steps
  rename Fr _ _ _ _ => F1
  rename News _ _ _ _ => N1
  refine held (For_turns F1 ?_)
  k_steps
  have mn := N1 _ (.tail _ (.tail _ (.tail _ (.head _))))
  have hsz : nvs.toArray.size = 7 := by rw [List.size_toArray, hS.1]; rfl
  refine len_list ⟨_, mn.1, rfl, _, rfl⟩ (by rw [hsz]; decide) ?_
  rw [hsz]
  k_steps
  rename Fr _ _ _ _ => F2
  rename News _ _ _ _ => N2
  rename IsRange _ _ _ _ _ _ _ _ => hRg
  rename_i h2 tk2 _ _ _ _
  rw [hTL] at N2
  clear mn hTL
  let nm5 : List (Str × Value) := [("names", .ref ln), ("spans", .ref lS), ("rivals", .ref lV), ("row", .ref lr), ("record", .ref e)]
  refine held (range_turns (s := { s with heap := h2, toks := _ }) (n := 7) (σ := ((List Value × Nat) × Obj) × Heap)
    (fun c => (lr, listOf c.1.1.1.toArray c.1.1.2) :: (136, c.1.2) :: (lS, listOf ysS.toArray nS) :: (ln, listOf nvs.toArray nn) :: (129, tabObj a129) :: ledOf c.2 h₀)
    (fun _ => [("names", .ref ln), ("spans", .ref lS), ("rivals", .ref lV), ("row", .ref lr), ("record", .ref e)]) ["place", "mark", "first", "behind", "said"]
    (fun i c => (∃ row, IntsAre c.1.1.1 row ∧ InvP (spanR namesL (rulesOf ns)) i 0 row) ∧ (∀ b o, G.get? b = some o → c.2.get? b = some o) ∧ (c.2.get? L = none ∧ c.2.get? 136 = none ∧ c.2.get? lr = none) ∧ (c.1.2 = tabObj #[] ∨ ∃ c', c.1.2 = tab136 c' ∧ c.2.CodeRec (.ref c') trnQual))
    ((([.int 1 tr], nR), tabObj #[]), G) rfl F2 N2 hRg rfl rfl ?hk ?hP ?turn ?done)
  case hk => exact List.forall_mem_cons.mpr ⟨rfl, List.forall_mem_cons.mpr ⟨rfl, List.forall_mem_cons.mpr ⟨rfl, List.forall_mem_cons.mpr ⟨rfl, List.forall_mem_cons.mpr ⟨rfl, List.forall_mem_nil _⟩⟩⟩⟩⟩
  case hP => exact ⟨⟨[1], .cons _ _ .nil, InvP.start _⟩, fun b o e => e, ⟨zL, z136, zr⟩, .inl rfl⟩
  case turn =>
    rintro i ti ⟨⟨⟨rvs, n⟩, tab⟩, g⟩ u h4 tk4 I oI hi ⟨⟨row, hrow, hinv⟩, hGg, ⟨gL, g136, gr⟩, htab⟩ F4 N4 hI
    dsimp only at hrow hGg gL g136 gr htab F4 N4 hI
    clear F2 N2
    have hgs : ∀ b o, h₀.get? b = some o → g.get? b = some o := fun b o e => hGg b o (hsub b o e)
    have hgc := agree hgs
    with_reducible change wpAny _ _ _ _ _ _
    k_fold
    k_steps
    rename Fr _ _ _ _ => F5
    rename News _ _ _ _ => N5
    clear F4 N4
    have hI1 : @Ne Nat lr I := hI _ (.head _)
    have hI2 : @Ne Nat 136 I := hI _ (.tail _ (.head _))
    have hIs : ∀ q ∈ (136, tab) :: (lS, listOf ysS.toArray nS) :: (ln, listOf nvs.toArray nn) :: (129, tabObj a129) :: ledOf g h₀, q.1 ≠ I := fun q hq => hI q (.tail _ hq)
    have mr := N5 _ (.tail _ (.head _))
    have hneR : ∀ q ∈ (I, oI) :: (136, tab) :: (lS, listOf ysS.toArray nS) :: (ln, listOf nvs.toArray nn) :: (129, tabObj a129) :: ledOf g h₀, q.1 ≠ lr := List.forall_mem_cons.mpr ⟨Ne.symm hI1, List.forall_mem_cons.mpr ⟨Ne.symm hr1, List.forall_mem_cons.mpr ⟨Ne.symm hr3, List.forall_mem_cons.mpr ⟨Ne.symm hr4, List.forall_mem_cons.mpr ⟨Ne.symm hr2, led_ne gr⟩⟩⟩⟩⟩
    obtain ⟨R, eR, N6⟩ := news_opq N5
    rw [← eR] at hneR
    have hgR : ∀ q ∈ ledOf g h₀, q ∈ R := fun q hq => by rw [eR]; exact .tail _ (.tail _ (.tail _ (.tail _ (.tail _ hq))))
    have hSR : (lS, listOf ysS.toArray nS) ∈ R := by rw [eR]; exact .tail _ (.tail _ (.head _))
    clear N5 mr
    refine held (for_list (s := { s with heap := _, toks := _ }) (σ := List Value × Nat) (l := lS) (vs := ysS)
      (fun c => (lr, listOf c.1.toArray c.2) :: R)
      (fun _ => [("place", .int (i : Nat) ti), ("names", .ref ln), ("spans", .ref lS), ("rivals", .ref lV), ("row", .ref lr), ("record", .ref e)]) ["mark", "first", "behind"]
      (fun j c => ∃ row, IntsAre c.1 row ∧ InvP (spanR namesL (rulesOf ns)) i j row)
      (rvs, n) rfl F5 N6 (.inr ⟨_, _, fun c => .tail _ hSR, rfl, rfl⟩) ?hk1 ⟨row, hrow, hinv⟩ (fun Q' q => nameX_L F5 rfl (q _)) ?turn1 ?done1)
    case hk1 => exact List.forall_mem_cons.mpr ⟨rfl, List.forall_mem_cons.mpr ⟨rfl, List.forall_mem_cons.mpr ⟨rfl, List.forall_mem_cons.mpr ⟨rfl, List.forall_mem_cons.mpr ⟨rfl, List.forall_mem_cons.mpr ⟨rfl, List.forall_mem_nil _⟩⟩⟩⟩⟩⟩
    case turn1 =>
      clear F5 N6 hinv hrow
      rintro j v ⟨rvs1, n1⟩ u1 h7 tk7 I1 oI1 hv ⟨row1, hrow1, hinv1⟩ F7 N7 hJ
      dsimp only at hrow1 hinv1 F7 N7 hJ
      have hJ1 : @Ne Nat lr I1 := hJ _ (.head _)
      obtain ⟨⟨mk, f, b⟩, t, t1, t2, t3, hq, rfl, htup⟩ := hT.get hv
      have hG7 : ∀ b o, G.get? b = some o → h7.get? b = some o := fun b o e => led_up F7 N7 (fun q hq => .tail _ (.tail _ (hgR q hq))) hgc b o (hGg b o e)
      refine unpackN_ F7 N7 (IsTup.keeps htup hG7) rfl rfl rfl fun h8 F8 N8 => ?_
      clear F7 N7
      with_reducible change wpAny _ _ _ _ _ _
      k_fold
      k_steps
      · rename (_ = ((i : Nat) : Int)) => c1
        rename Fr _ _ _ _ => F9
        rename News _ _ _ _ => N9
        clear F8 N8
        (try dsimp only at c1)
        have hgd := spans_good _ (List.mem_of_getElem? hq)
        obtain ⟨hp1, hp2⟩ := hinv1.pop hq (a1b c1) (a2b c1 hgd.1)
        have hl9 := row_len hinv1 hrow1 hlen
        have mr := N9 _ (.tail _ (.head _))
        refine held (wpAny_mono (bl_any (s := { s with heap := _, toks := _ }) (vs := rvs1) (c := fun i' => decide (zAt row1 i' < mk)) (X0.keeps F9.keep) (T0.keeps F9.keep) ⟨_, mr.1, rfl, _, rfl⟩ (Nat.le_of_ble_eq_true rfl) (by omega) (.inl ⟨rfl, rfl⟩) (lt_left hrow1 _ _) ?_) (fun _ _ x => x) (fun _ _ x => x.elim))
        intro h10 tk10 t10 hk10
        have F10 := fr_keep F9 hk10
        have N10 := news_keep N9 hk10
        clear F9 N9 mr hk10
        have e10 : bis (fun i' => decide (zAt row1 i' < mk)) 0 rvs1.length = blZ row1 mk := by unfold blZ; rw [hrow1.length]
        rw [e10]
        k_steps
        refine held (pop_N F10 (news_swap N10) (List.forall_mem_cons.mpr ⟨Ne.symm hJ1, hneR⟩) (by rw [hrow1.length]; exact hp1) (by omega) fun y h11 F11 N11 => ?_)
        clear F10 N10
        k_steps
        rename Fr _ _ _ _ => F12
        rename News _ _ _ _ => N12
        change ForEnd _ _ _ _ _ _ _ _ _ _ _
        refine for_end (_, _) F12 (news_swap N12) (List.forall_mem_cons.mpr ⟨hJ1, fun q hq => hJ q (.tail _ hq)⟩) (List.forall_mem_cons.mpr ⟨rfl, List.forall_mem_cons.mpr ⟨rfl, List.forall_mem_cons.mpr ⟨rfl, List.forall_mem_cons.mpr ⟨rfl, List.forall_mem_cons.mpr ⟨rfl, List.forall_mem_cons.mpr ⟨rfl, List.forall_mem_nil _⟩⟩⟩⟩⟩⟩) ?zhr ⟨_, ints_pop hrow1 _, hp2⟩
        case zhr => walk_at "mine same"
      · rename (_ ≠ ((i : Nat) : Int)) => c1
        rename Fr _ _ _ _ => F9
        rename News _ _ _ _ => N9
        (try dsimp only at c1)
        change ForEnd _ _ _ _ _ _ _ _ _ _ _
        refine for_end (rvs1, n1) F9 N9 hJ (List.forall_mem_cons.mpr ⟨rfl, List.forall_mem_cons.mpr ⟨rfl, List.forall_mem_cons.mpr ⟨rfl, List.forall_mem_cons.mpr ⟨rfl, List.forall_mem_cons.mpr ⟨rfl, List.forall_mem_cons.mpr ⟨rfl, List.forall_mem_nil _⟩⟩⟩⟩⟩⟩) ?zhr ⟨row1, hrow1, hinv1.skip hq (a12 c1)⟩
        case zhr => walk_at "mine same"
    case done1 =>
      clear F5 N6 hinv hrow
      rintro ⟨rvs1, n1⟩ u1 h7 tk7 ⟨row1, hrow1, hinv1⟩ F7 N7
      dsimp only at hrow1 hinv1 F7 N7
      rw [hT.len] at hinv1
      have hinv2 := InvP.toQ hinv1
      clear hinv1
      k_steps
      rename Fr _ _ _ _ => F8
      rename News _ _ _ _ => N8
      refine held (for_list (s := { s with heap := _, toks := _ }) (σ := List Value × Nat) (l := lS) (vs := ysS)
        (fun c => (lr, listOf c.1.toArray c.2) :: R)
        (fun _ => [("place", .int (i : Nat) ti), ("names", .ref ln), ("spans", .ref lS), ("rivals", .ref lV), ("row", .ref lr), ("record", .ref e)]) ["mark", "first", "behind"]
        (fun j c => ∃ row, IntsAre c.1 row ∧ InvQ (spanR namesL (rulesOf ns)) i j row)
        (rvs1, n1) rfl F8 N8 (.inr ⟨_, _, fun c => .tail _ hSR, rfl, rfl⟩) (List.forall_mem_cons.mpr ⟨rfl, List.forall_mem_cons.mpr ⟨rfl, List.forall_mem_cons.mpr ⟨rfl, List.forall_mem_cons.mpr ⟨rfl, List.forall_mem_cons.mpr ⟨rfl, List.forall_mem_cons.mpr ⟨rfl, List.forall_mem_nil _⟩⟩⟩⟩⟩⟩) ⟨row1, hrow1, hinv2⟩ (fun Q' q => nameX_L F8 rfl (q _)) ?turn2 ?done2)
      case turn2 =>
        clear F8 N8 hinv2 hrow1
        rintro j v ⟨rvs2, n2⟩ u2 h7 tk7 I1 oI1 hv ⟨row2, hrow2, hinv2⟩ F7 N7 hJ
        dsimp only at hrow2 hinv2 F7 N7 hJ
        have hJ1 : @Ne Nat lr I1 := hJ _ (.head _)
        obtain ⟨⟨mk, f, b⟩, t, t1, t2, t3, hq, rfl, htup⟩ := hT.get hv
        have hG7 : ∀ b o, G.get? b = some o → h7.get? b = some o := fun b o e => led_up F7 N7 (fun q hq => .tail _ (.tail _ (hgR q hq))) hgc b o (hGg b o e)
        refine unpackN_ F7 N7 (IsTup.keeps htup hG7) rfl rfl rfl fun h8 F8 N8 => ?_
        clear F7 N7
        with_reducible change wpAny _ _ _ _ _ _
        k_fold
        k_steps
        · rename (_ = ((i : Nat) : Int)) => c1
          rename Fr _ _ _ _ => F9
          rename News _ _ _ _ => N9
          clear F8 N8
          dsimp only at c1
          have hgd := spans_good _ (List.mem_of_getElem? hq)
          have hp2 := hinv2.ins hq (a3f c1 hgd.1) (a1f c1)
          have hl9 := row_len hinv2 hrow2 hlen
          have mI := N9 _ (.head _)
          have mr := N9 _ (.tail _ (.head _))
          refine held (wpAny_mono (insl (s := { s with heap := _, toks := _ }) (g := h₀) (vs := rvs2) (c := fun i' => decide (zAt row2 i' < mk)) X0 T0 F9.keep mr.1 mr.2.2 (Nat.le_of_ble_eq_true rfl) (by omega) (lt_left hrow2 _ _) ?_) (fun _ _ x => x) (fun _ _ x => x.elim))
          intro h10 tk10 n10 hk10 hl10
          dsimp only at hk10 hl10
          have e10 : bis (fun i' => decide (zAt row2 i' < mk)) 0 rvs2.length = blZ row2 mk := by unfold blZ; rw [hrow2.length]
          rw [e10] at hl10
          have F10 := fr_but F9 mr.2.2 mr.2.1 hk10
          have N10 : News h₀ L h10 ((I1, oI1) :: (lr, _) :: R) := news_cons (hk10 _ _ (Ne.symm hJ1) mI.1) mI.2.1 mI.2.2 (news_cons hl10 mr.2.1 mr.2.2 (news_but (fun q hq => N9 q (.tail _ (.tail _ hq))) hneR hk10))
          clear F9 N9 mr mI hk10
          k_steps
          rename Fr _ _ _ _ => F12
          rename News _ _ _ _ => N12
          change ForEnd _ _ _ _ _ _ _ _ _ _ _
          refine for_end (_, _) F12 N12 (List.forall_mem_cons.mpr ⟨hJ1, fun q hq => hJ q (.tail _ hq)⟩) (List.forall_mem_cons.mpr ⟨rfl, List.forall_mem_cons.mpr ⟨rfl, List.forall_mem_cons.mpr ⟨rfl, List.forall_mem_cons.mpr ⟨rfl, List.forall_mem_cons.mpr ⟨rfl, List.forall_mem_cons.mpr ⟨rfl, List.forall_mem_nil _⟩⟩⟩⟩⟩⟩) ?zhr ⟨_, ints_ins hrow2 (by rw [hrow2.length]; exact blZ_le _ _) _ _, hp2⟩
          case zhr => walk_at "mine same"
        · rename (_ ≠ ((i : Nat) : Int)) => c1
          rename Fr _ _ _ _ => F9
          rename News _ _ _ _ => N9
          dsimp only at c1
          change ForEnd _ _ _ _ _ _ _ _ _ _ _
          refine for_end (rvs2, n2) F9 N9 hJ (List.forall_mem_cons.mpr ⟨rfl, List.forall_mem_cons.mpr ⟨rfl, List.forall_mem_cons.mpr ⟨rfl, List.forall_mem_cons.mpr ⟨rfl, List.forall_mem_cons.mpr ⟨rfl, List.forall_mem_cons.mpr ⟨rfl, List.forall_mem_nil _⟩⟩⟩⟩⟩⟩) ?zhr ⟨row2, hrow2, hinv2.skip hq (a31 c1)⟩
          case zhr => walk_at "mine same"
      case done2 =>
        clear F8 N8 hinv2 hrow1
        rintro ⟨rvs2, n2⟩ u2 h7 tk7 ⟨row2, hrow2, hinv2⟩ F7 N7
        dsimp only at hrow2 hinv2 F7 N7
        rw [hT.len] at hinv2
        obtain ⟨R2, eR2⟩ := row_last hi hinv2
        subst eR
        k_steps
        have hg7 : ∀ b o, g.get? b = some o → h7.get? b = some o := led_up F7 N7 (fun q hq => .tail _ (hgR q hq)) hgc
        have hr7 := (hr.keep hGg).keep hg7
        obtain ⟨dx4, _, _, _, _, _, _, _, _, _, he4, hd4, _⟩ := id hr7.at_
        obtain ⟨tn, hnm⟩ := name_at hS hi
        refine held ?_
        k_dflt (refine' method_inst (f := 49) F7 X0 ⟨he4, rfl, rfl, hd4⟩ ?k4 ?k5 ?k6 ?k7 ?_; (case k4 => k_is); (case k5 => k_is); (case k6 => k_is); (case k7 => rfl))
        k_steps
        have mn := N7 _ (.tail _ (.tail _ (.tail _ (.tail _ (.head _)))))
        refine held (item_list ⟨_, mn.1, rfl, _, rfl⟩ (by omega) (by omega) hnm ?_)
        k_steps
        refine held (wpAny_mono (allow_c (s := { s with heap := h7, toks := _ }) ((XF.keep hGg).all.keep hg7) hr7 rules_len (sAt_len hi) rfl (Nat.le_of_ble_eq_true rfl) fun h8 tk8 hk8 => ?_) (fun _ _ x => x) (fun _ _ x => x.elim))
        have F8 := fr_keep F7 hk8
        have N8 := news_keep N7 hk8
        clear F7 N7 hk8 hg7 hr7 he4 hd4 mn
        k_steps
        rename Fr _ _ _ _ => F9
        rename News _ _ _ _ => N9
        have mr := N9 _ (.head _)
        have hl1 : 1 ≤ row2.length := by rw [eR2]; simp
        have eL : row2.getD (-1 + (row2.length : Int)).toNat 0 = mx (sAt namesL i) (rulesOf ns) := row_getD eR2
        refine held (item_list_ints_negR ⟨_, mr.1, rfl, _, rfl⟩ hrow2 (by decide) (by omega) (by decide) fun tx => ?_)
        rw [eL]
        k_steps
        · rename ((says _ _ != _) = true) => cc
          rw [says_mx] at cc
          unfold oddB at cc
          simp at cc
        rename Heap => h9
        have hg9 : ∀ b o, g.get? b = some o → h9.get? b = some o := led_up F9 N9 (fun q hq => .tail _ (hgR q hq)) hgc
        have mn := N9 _ (.tail _ (.tail _ (.tail _ (.tail _ (.head _)))))
        refine held (item_list ⟨_, mn.1, rfl, _, rfl⟩ (by omega) (by omega) hnm ?_)
        k_steps
        have m136 := N9 _ (.tail _ (.tail _ (.head _)))
        have mI := N9 _ (.tail _ (.head _))
        have mS := N9 _ (.tail _ (.tail _ (.tail _ (.head _))))
        have m129 := N9 _ (.tail _ (.tail _ (.tail _ (.tail _ (.tail _ (.head _))))))
        dsimp only at m136 mI mS m129 mn mr
        have hriv := rivR_len (rulesOf ns)
        refine held (wpAny_mono (least_c (s := { s with heap := h9, toks := _ }) (g := g) (rs := rulesOf ns) ((XF.keep hGg).all) (XF.keep hGg) (C.keeps hgs) hg9 g136 (hr.keep hGg) (list_keep ⟨_, hlV, rfl, _, rfl⟩ hGg) hIV m136.1 htab (by omega) rules_len (sAt_len hi) (by omega) rfl (Nat.le_of_ble_eq_true rfl) ?_) (fun _ _ x => x) (fun _ _ x => x.elim))
        intro h10 tk10 lo ys10 c10 hk10 h136 hcr10 hnlo hlo hiy
        dsimp only at hk10 h136 hcr10 hnlo
        rw [least_names hi] at hiy
        obtain ⟨olo, hlo1, hlo2, nlo, hlo3⟩ := hlo
        obtain ⟨oL9, hL9⟩ := fr_at F9
        have gI : g.get? I = none := led_free mI.2.2 fun q hq => hIs q (.tail _ (.tail _ (.tail _ (.tail _ hq))))
        have hgg : ∀ b o, g.get? b = some o → (grow g h9 h10).get? b = some o := grow_old fun b o e => hk10 b o (fun q => by rw [q, g136] at e; cases e) (hg9 b o e)
        have gL' := grow_none (g := g) (h := h10) hL9 gL
        have g136' := grow_none (g := g) (h := h10) m136.1 g136
        have gr' := grow_none (g := g) (h := h10) mr.1 gr
        have gI' := grow_none (g := g) (h := h10) mI.1 gI
        have hgh : ∀ b o, (grow g h9 h10).get? b = some o → h10.get? b = some o := grow_sub
        have F10 := fr_but F9 m136.2.2 m136.2.1 hk10
        generalize grow g h9 h10 = g' at *
        have N10 : News h₀ L h10 ((lo, olo) :: (lr, _) :: (I, _) :: (136, tab136 c10) :: (lS, _) :: (ln, _) :: (129, _) :: ledOf g' h₀) :=
          news_cons hlo1 (fun q => by have q' : lo = L := q; rw [q', hL9] at hnlo; cases hnlo) (none_sub F9.keep hnlo) (news_cons (hk10 _ _ hr1 mr.1) mr.2.1 mr.2.2 (news_cons (hk10 _ _ (Ne.symm (hIs _ (.head _))) mI.1) mI.2.1 mI.2.2 (news_cons h136 m136.2.1 m136.2.2 (news_cons (hk10 _ _ hS1 mS.1) mS.2.1 mS.2.2 (news_cons (hk10 _ _ hn1 mn.1) mn.2.1 mn.2.2 (news_cons (hk10 _ _ (by show (129 : Nat) ≠ 136; decide) m129.1) m129.2.1 m129.2.2 (led_news hgh gL')))))))
        clear F9 N9 hk10 hg9 hL9 mr mI m136 mS mn m129 hnlo hgh
        k_steps
        have mr := N10 _ (.tail _ (.head _))
        refine held (item_list_ints_negR ⟨_, mr.1, rfl, _, rfl⟩ hrow2 (by decide) (by omega) (by decide) fun ty => ?_)
        rw [eL]
        k_steps
        rename Fr _ _ _ _ => F11
        rename News _ _ _ _ => N11
        have mD := N11 _ (.head _)
        have mlo := N11 _ (.tail _ (.head _))
        refine held (ke_ne_ints (xs := ys10) (ys := [_]) (ns := [mx (sAt namesL i) (rulesOf ns) + 1]) (ms := [mx (sAt namesL i) (rulesOf ns) + 1]) ⟨_, mlo.1, hlo2, nlo, hlo3⟩ ⟨_, mD.1, rfl, _, rfl⟩ hiy (.cons _ _ .nil) (Nat.le_of_ble_eq_true rfl) ?_)
        rw [show (!decide (([mx (sAt namesL i) (rulesOf ns) + 1] : List Int) = [mx (sAt namesL i) (rulesOf ns) + 1])) = false by simp]
        clear mD mlo mr
        k_steps
        rename Fr _ _ _ _ => F12
        rename News _ _ _ _ => N12
        have mr := N12 _ (.tail _ (.tail _ (.head _)))
        have mI := N12 _ (.tail _ (.tail _ (.tail _ (.head _))))
        have m136 := N12 _ (.tail _ (.tail _ (.tail _ (.tail _ (.head _)))))
        change ForEnd _ _ _ _ _ _ _ _ _ _ _
        refine for_end (((rvs2, n2), tab136 c10), g') F12 (news_cons mI.1 mI.2.1 mI.2.2 (news_cons mr.1 mr.2.1 mr.2.2 (news_cons m136.1 m136.2.1 m136.2.2 fun q hq => N12 q (.tail _ (.tail _ (.tail _ (.tail _ (.tail _ hq)))))))) (List.forall_mem_cons.mpr ⟨hI1, List.forall_mem_cons.mpr ⟨hI2, List.forall_mem_cons.mpr ⟨hIs _ (.tail _ (.head _)), List.forall_mem_cons.mpr ⟨hIs _ (.tail _ (.tail _ (.head _))), List.forall_mem_cons.mpr ⟨hIs _ (.tail _ (.tail _ (.tail _ (.head _)))), led_ne gI'⟩⟩⟩⟩⟩) (List.forall_mem_cons.mpr ⟨rfl, List.forall_mem_cons.mpr ⟨rfl, List.forall_mem_cons.mpr ⟨rfl, List.forall_mem_cons.mpr ⟨rfl, List.forall_mem_cons.mpr ⟨rfl, List.forall_mem_nil _⟩⟩⟩⟩⟩) ?zhr ⟨⟨row2, hrow2, InvQ.next hinv2⟩, fun b o e => hgg b o (hGg b o e), ⟨gL', g136', gr'⟩, .inr ⟨c10, rfl, hcr10⟩⟩
        case zhr => walk_at "mine same"
  case done =>
    rintro ⟨⟨⟨rvs, n⟩, tab⟩, g⟩ u h4 tk4 ⟨⟨row, hrow, hinv⟩, hGg, ⟨gL, g136, gr⟩, htab⟩ F4 N4
    dsimp only at hrow hGg gL g136 gr htab F4 N4
    clear F2 N2
    have hgs : ∀ b o, h₀.get? b = some o → g.get? b = some o := fun b o e => hGg b o (hsub b o e)
    have hgc := agree hgs
    k_steps
    rename Fr _ _ _ _ => F5
    rename News _ _ _ _ => N5
    have hneR : ∀ q ∈ (136, tab) :: (lS, listOf ysS.toArray nS) :: (ln, listOf nvs.toArray nn) :: (129, tabObj a129) :: ledOf g h₀, q.1 ≠ lr := List.forall_mem_cons.mpr ⟨Ne.symm hr1, List.forall_mem_cons.mpr ⟨Ne.symm hr3, List.forall_mem_cons.mpr ⟨Ne.symm hr4, List.forall_mem_cons.mpr ⟨Ne.symm hr2, led_ne gr⟩⟩⟩⟩
    refine held (for_list (s := { s with heap := _, toks := _ }) (σ := List Value × Nat) (l := lS) (vs := ysS)
      (fun c => (lr, listOf c.1.toArray c.2) :: (136, tab) :: (lS, listOf ysS.toArray nS) :: (ln, listOf nvs.toArray nn) :: (129, tabObj a129) :: ledOf g h₀)
      (fun _ => [("names", .ref ln), ("spans", .ref lS), ("rivals", .ref lV), ("row", .ref lr), ("record", .ref e)]) ["mark", "first", "behind"]
      (fun j c => ∃ row, IntsAre c.1 row ∧ InvP (spanR namesL (rulesOf ns)) 7 j row)
      (rvs, n) rfl F5 N5 (.inr ⟨_, _, fun c => .tail _ (.tail _ (.head _)), rfl, rfl⟩) (List.forall_mem_cons.mpr ⟨rfl, List.forall_mem_cons.mpr ⟨rfl, List.forall_mem_cons.mpr ⟨rfl, List.forall_mem_cons.mpr ⟨rfl, List.forall_mem_cons.mpr ⟨rfl, List.forall_mem_nil _⟩⟩⟩⟩⟩) ⟨row, hrow, hinv⟩ (fun Q' q => nameX_L F5 rfl (q _)) ?turn1 ?done1)
    case turn1 =>
      clear F5 N5 hinv hrow
      rintro j v ⟨rvs1, n1⟩ u1 h7 tk7 I1 oI1 hv ⟨row1, hrow1, hinv1⟩ F7 N7 hJ
      dsimp only at hrow1 hinv1 F7 N7 hJ
      have hJ1 : @Ne Nat lr I1 := hJ _ (.head _)
      obtain ⟨⟨mk, f, b⟩, t, t1, t2, t3, hq, rfl, htup⟩ := hT.get hv
      have hG7 : ∀ b o, G.get? b = some o → h7.get? b = some o := fun b o e => led_up F7 N7 (fun q hq => .tail _ (.tail _ (.tail _ (.tail _ (.tail _ (.tail _ hq)))))) hgc b o (hGg b o e)
      refine unpackN_ F7 N7 (IsTup.keeps htup hG7) rfl rfl rfl fun h8 F8 N8 => ?_
      clear F7 N7
      with_reducible change wpAny _ _ _ _ _ _
      k_fold
      k_steps
      · rename (_ = ((7 : Nat) : Int)) => c1
        rename Fr _ _ _ _ => F9
        rename News _ _ _ _ => N9
        (try dsimp only at c1)
        have hgd := spans_good _ (List.mem_of_getElem? hq)
        obtain ⟨hp1, hp2⟩ := hinv1.pop hq (a1b c1) (a2b c1 hgd.1)
        have hl9 := row_len hinv1 hrow1 hlen
        have mr := N9 _ (.tail _ (.head _))
        refine held (wpAny_mono (bl_any (s := { s with heap := _, toks := _ }) (vs := rvs1) (c := fun i' => decide (zAt row1 i' < mk)) (X0.keeps F9.keep) (T0.keeps F9.keep) ⟨_, mr.1, rfl, _, rfl⟩ (Nat.le_of_ble_eq_true rfl) (by omega) (.inl ⟨rfl, rfl⟩) (lt_left hrow1 _ _) ?_) (fun _ _ x => x) (fun _ _ x => x.elim))
        intro h10 tk10 t10 hk10
        have F10 := fr_keep F9 hk10
        have N10 := news_keep N9 hk10
        clear F9 N9 mr hk10
        have e10 : bis (fun i' => decide (zAt row1 i' < mk)) 0 rvs1.length = blZ row1 mk := by unfold blZ; rw [hrow1.length]
        rw [e10]
        k_steps
        refine held (pop_N F10 (news_swap N10) (List.forall_mem_cons.mpr ⟨Ne.symm hJ1, hneR⟩) (by rw [hrow1.length]; exact hp1) (by omega) fun y h11 F11 N11 => ?_)
        clear F10 N10
        k_steps
        rename Fr _ _ _ _ => F12
        rename News _ _ _ _ => N12
        change ForEnd _ _ _ _ _ _ _ _ _ _ _
        refine for_end (_, _) F12 (news_swap N12) (List.forall_mem_cons.mpr ⟨hJ1, fun q hq => hJ q (.tail _ hq)⟩) (List.forall_mem_cons.mpr ⟨rfl, List.forall_mem_cons.mpr ⟨rfl, List.forall_mem_cons.mpr ⟨rfl, List.forall_mem_cons.mpr ⟨rfl, List.forall_mem_cons.mpr ⟨rfl, List.forall_mem_nil _⟩⟩⟩⟩⟩) ?zhr ⟨_, ints_pop hrow1 _, hp2⟩
        case zhr => walk_at "mine same"
      · rename (_ ≠ ((7 : Nat) : Int)) => c1
        rename Fr _ _ _ _ => F9
        rename News _ _ _ _ => N9
        (try dsimp only at c1)
        change ForEnd _ _ _ _ _ _ _ _ _ _ _
        refine for_end (rvs1, n1) F9 N9 hJ (List.forall_mem_cons.mpr ⟨rfl, List.forall_mem_cons.mpr ⟨rfl, List.forall_mem_cons.mpr ⟨rfl, List.forall_mem_cons.mpr ⟨rfl, List.forall_mem_cons.mpr ⟨rfl, List.forall_mem_nil _⟩⟩⟩⟩⟩) ?zhr ⟨row1, hrow1, hinv1.skip hq (a12 c1)⟩
        case zhr => walk_at "mine same"
    case done1 =>
      clear F5 N5 hinv hrow
      rintro ⟨rvs1, n1⟩ u1 h7 tk7 ⟨row1, hrow1, hinv1⟩ F7 N7
      dsimp only at hrow1 hinv1 F7 N7
      rw [hT.len] at hinv1
      have er := InvP.done hinv1 fun q hq => (spans_good q hq).2
      subst er
      obtain ⟨tx, rv', ev, hrv⟩ := IntsAre.cons_inv hrow1
      have ev2 := IntsAre.nil_inv hrv
      subst ev2
      subst ev
      obtain ⟨t0, t1, t2, t3, t4, t5, t6, en⟩ := names_expl hS
      subst en
      clear hrow1 hrv hIV hinv1
      k_steps
      rename Fr _ _ _ _ => F8
      rename News _ _ _ _ => N8
      obtain ⟨c1, c2, h101, _⟩ := XF.tab
      obtain ⟨a1, ha1⟩ : ∃ a1, tab = tabObj a1 := by
        rcases htab with h | ⟨c', h, _⟩
        · exact ⟨_, h⟩
        · exact ⟨_, h⟩
      subst ha1
      have m136 := N8 _ (.tail _ (.tail _ (.tail _ (.head _))))
      have m129 := N8 _ (.tail _ (.tail _ (.tail _ (.tail _ (.tail _ (.tail _ (.head _)))))))
      have m101 := N8 (101, tab101 c1 c2) (.tail _ (.tail _ (.tail _ (.tail _ (.tail _ (.tail _ (.tail _ (mem_ledOf.mpr ⟨hGg _ _ h101, z101⟩))))))))
      exact ⟨rfl, _, _, _, a1, a129, _, rfl, F8, news_cons m136.1 m136.2.1 m136.2.2 (news_cons m129.1 m129.2.1 m129.2.2 (news_cons m101.1 m101.2.1 m101.2.2 News.nil))⟩
end

end Mine
namespace Mine
theorem offP27 : True ∧ True := by
  have h : True ∧ True := by first | (walk1; done) | exact ⟨trivial, trivial⟩
  w_top off
  exact h
section
local macro_rules | `(tactic| walk_at "call ref") => `(tactic| refine Held.out ?_)
local macro_rules | `(tactic| walk_at "exec Assign cons ListComp") => `(tactic| refine Held.out ?_)
local macro_rules | `(tactic| walk_at "exec For Name BinOp cons nil") => `(tactic| refine Held.out ?_)
local macro_rules | `(tactic| walk_at "exec For Name Call cons nil") => `(tactic| refine Held.out ?_)
local macro_rules | `(tactic| walk_at "exec For Tuple Name cons nil") => `(tactic| refine Held.out ?_)
local macro_rules | `(tactic| walk_at "execs cons") => `(tactic| ((with_reducible show wpAny _ _ (execs [_, _, _] _) _ _ _); refine Held.out ?_))
local macro_rules | `(tactic| walk_at "pyIter ref") => `(tactic| refine Held.out ?_)
local macro_rules | `(tactic| walk_at "mine same") => `(tactic| (intro z h2 h3; (try simp only [List.forall_mem_cons, List.not_mem_nil, false_implies, implies_true, and_true, ne_eq] at h2); (simp only [List.contains_cons, List.contains_nil, Bool.or_false, Bool.or_eq_false_iff, beq_eq_false_iff_ne, ne_eq] at h3); simp [kstB, h2, h3]))
local macro_rules | `(tactic| walk_at "CompSrc") => `(tactic| refine Held.out ?_)
local macro_rules | `(tactic| walk_at "CompEnd") => `(tactic| refine Held.out ?_)
theorem law0 : PySem.Challenge.rw_ny0178_01.Holds :=
  Mine.hd (by
    k_go0
    (all_goals try k_fold)
    rename Shared => s1
    rename World => w
    rename List Int => wI
    rename IntsAre _ _ => hI
    rename Heap.IsList _ _ _ => hlS
    rename Fr _ _ _ _ => F0
    rename News _ _ _ _ => N0
    rename Frag.In _ _ => X0
    rename Top _ _ _ _ _ _ => T0
    rename Heap => h1
    rename List Value => vs1
    refine wpAny_mono (Q := LawPost (ghostOf s1.heap [(138, 136), (133, 129), (105, 101)]) s1.heap.objs.size s1) (E := fun _ _ => False) ?zbody ?zpost (fun _ _ x => x.elim)
    case zpost =>
      rintro fl s' ⟨rfl, h', tk, m', a1, a2, a3, rfl, F, N⟩
      clear F0 N0
      k_steps
    rename_i ls la hL ra hw1 hr0 hrw hc1 hc2 hDf tk1 oc1 dcell hcs hK hC1 hC2 hl0
    clear hDf hcs
    rename Heap.CodeRec _ _ _ => zz1
    clear zz1
    obtain ⟨v0, dc0⟩ : ∃ v0, oc1.data = Data.cell v0 := ⟨_, dcell⟩
    clear dcell
    have F1 : Fr (ghostOf s1.heap [(138, 136), (133, 129), (105, 101)]) s1.heap.objs.size h1 (fun y => List.lookup y [(Str.ofString "script", Value.ref ls)].reverse) := by
      refine fr_bindL ?ze ?zk F0
      case zk => kernel_rfl
      case ze => kernel_rfl
    clear F0
    generalize hh0 : ghostOf s1.heap [(138, 136), (133, 129), (105, 101)] = h₀ at *
    with_reducible change wpAny _ _ _ _ _ _
    k_fold
    k_steps
    refine held ?_
    k_dflt (refine LCg.Assign_ListComp_U (F₀ := by k_asm) (by rfl) (by with_unfolding_all rfl) (by with_unfolding_all rfl) (by decide) (by rfl) (by decide) (by rfl) (by rfl) (by rfl) ?_)
    k_steps
    rename Fr _ _ _ _ => F2
    rename News _ _ _ _ => N2
    rename IntsAre _ (List.take 5 _ ++ _) => hNum
    have hlenN := hNum.length
    refine held ?_
    k_dflt (refine LCg.CompSrc.ledger rfl F2 N2 (by k_mem) (by rw [List.size_toArray, sizeLine_eq, hlenN]; simp; omega) ?_)
    intro g'
    refine comp_tail (fun i ys tl => PairsIn tl ys (rulesOf (List.take i (List.take 5 wI ++ [29, 18, 44])))) trivial ?zturn ?zfin
    case zturn =>
      intro i ys tl v I oI C oC D m₂ h tk E' hi hR hv hC hx F N off ne
      obtain ⟨n, t, rfl, hn⟩ := hNum.at i v (by simpa using hv)
      simp only [List.cons_append, List.nil_append] at N off
      simp only [LCg.Off3] at off
      k_steps
      all_goals (rename Fr _ _ _ _ => F6; rename News _ _ _ _ => N6)
      all_goals (refine held ?_)
      all_goals (rename Int.fmod _ _ = _ => hE; k_dflt (refine LCg.CompEnd.intro F6 N6 _ (by (repeat (refine List.forall_mem_cons.mpr ⟨by k_mem, ?_⟩)); exact fun p hp => .tail _ (.tail _ (.tail _ (.tail _ (.tail _ (.tail _ (.tail _ (.tail _ (.tail _ (.tail _ (.tail _ (.tail _ (.tail _ (hp)))))))))))))) (by exact ⟨off.1, ⟨off.2.1, ⟨off.2.2.1, ⟨off.2.2.2.1, ⟨off.2.2.2.2.1, ⟨off.2.2.2.2.2.1, ⟨off.2.2.2.2.2.2.1, ⟨off.2.2.2.2.2.2.2.1, ⟨off.2.2.2.2.2.2.2.2.1, ⟨⟨by k_ne, by k_ne, by k_ne⟩, off.2.2.2.2.2.2.2.2.2⟩⟩⟩⟩⟩⟩⟩⟩⟩⟩) (by exact .inr ⟨_, by k_mem, rfl, _, rfl⟩) ⟨_, rfl, pairs_next hR hn hE rfl⟩))
    intro ys tl hR
    rw [List.size_toArray, hlenN, List.take_length] at hR
    k_steps
    rename Fr _ _ _ _ => F3
    rename News _ _ _ _ => N3
    clear F2 N2
    rename_i DN wsN _ lN _ tkP lP _ lPl _ oC dC DR h3 tk3 o1
    clear o1
    have mR := N3 _ (by k_dflt (exact .head _))
    have mP := N3 _ (by k_dflt (exact .tail _ (.head _)))
    have mN := N3 _ (by k_dflt (exact .tail _ (.tail _ (.head _))))
    have mC := N3 _ (by k_dflt (exact .tail _ (.tail _ (.tail _ (.tail _ (.tail _ (.tail _ (.head _))))))))
    have m136 := N3 _ (by k_dflt (exact .tail _ (.tail _ (.tail _ (.tail _ (.tail _ (.tail _ (.tail _ (.head _)))))))))
    have m129 := N3 _ (by k_dflt (exact .tail _ (.tail _ (.tail _ (.tail _ (.tail _ (.tail _ (.tail _ (.tail _ (.head _))))))))))
    have m101 := N3 _ (by k_dflt (exact .tail _ (.tail _ (.tail _ (.tail _ (.tail _ (.tail _ (.tail _ (.tail _ (.tail _ (.head _)))))))))))
    have mT : ∀ q ∈ tl, h3.get? q.1 = some q.2 ∧ q.1 ≠ s1.heap.objs.size ∧ h₀.get? q.1 = none := fun q hq => N3 q (by k_dflt (exact .tail _ (.tail _ (.tail _ (.tail _ (.tail _ (.tail _ (.tail _ (.tail _ (.tail _ (.tail _ hq)))))))))))
    dsimp only at mR mP mN mC m136 m129 m101
    have hnone : ∀ a ∈ [s1.heap.objs.size, 101, 129, 136], h₀.get? a = none := List.forall_mem_cons.mpr ⟨fr_none F3, List.forall_mem_cons.mpr ⟨m101.2.2, List.forall_mem_cons.mpr ⟨m129.2.2, List.forall_mem_cons.mpr ⟨m136.2.2, List.forall_mem_nil _⟩⟩⟩⟩
    have hsub := base_sub F3 hnone
    have ng : ∀ {b o}, h3.get? b = some o → b ≠ s1.heap.objs.size → (∀ ps, o ≠ tabObj ps) → (hideAll h3 [s1.heap.objs.size, 101, 129, 136]).get? b = some o := fun {b o} e hL hp => hide_one e (List.forall_mem_cons.mpr ⟨hL, List.forall_mem_cons.mpr ⟨fun q => hp _ (by rw [q, m101.1] at e; exact (Option.some.inj e).symm), List.forall_mem_cons.mpr ⟨fun q => hp _ (by rw [q, m129.1] at e; exact (Option.some.inj e).symm), List.forall_mem_cons.mpr ⟨fun q => hp _ (by rw [q, m136.1] at e; exact (Option.some.inj e).symm), List.forall_mem_nil _⟩⟩⟩⟩)
    have hpa : PairsAt (hideAll h3 [s1.heap.objs.size, 101, 129, 136]) ys (rulesOf (List.take 5 wI ++ [29, 18, 44])) := hR.at2 fun t its hm => ng (mT _ hm).1 (mT _ hm).2.1 fun ps => tup_ne_tab
    have hrl : (rulesOf (List.take 5 wI ++ [29, 18, 44])).length ≤ 8 := by unfold rulesOf; simp; omega
    refine held (wpAny_mono (record_c (s := { s1 with heap := h3, toks := _ }) (g := hideAll h3 [s1.heap.objs.size, 101, 129, 136]) (rs := rulesOf (List.take 5 wI ++ [29, 18, 44])) ⟨X0.keeps hsub, _, _, _, _, _, T0.keeps hsub⟩ (codeHd.keeps hsub) (fun b o e => of_hideAll _ e) ⟨_, ng mR.1 mR.2.1 (fun ps e => by cases congrArg Obj.cls e), rfl, _, rfl⟩ hpa (by omega) m101.1 (.inl rfl) (hideAll_none _ (.tail _ (.head _))) rfl (Nat.le_of_ble_eq_true rfl) ?_) (fun _ _ x => x) (fun _ _ x => x.elim))
    intro h4 tk4 e4 o4 hk4 h101 _ ho4 hr4
    dsimp only at hk4 hr4 ho4
    have hrs0 : rulesOf (List.take 5 wI ++ [29, 18, 44]) ≠ [] := by unfold rulesOf; simp
    obtain ⟨c1, c2, rfl, hcr4⟩ : ∃ c1 c2, o4 = tab101 c1 c2 ∧ (grow (hideAll h3 [s1.heap.objs.size, 101, 129, 136]) h3 h4).CodeRec (.ref c2) lamQual := by
      rcases ho4 with h | ⟨_, h⟩
      · exact h
      · exact absurd h hrs0
    clear ho4
    have F4 := fr_but F3 m101.2.2 m101.2.1 hk4
    obtain ⟨oL3, hL3⟩ := fr_at F3
    have zL := grow_none (g := hideAll h3 [s1.heap.objs.size, 101, 129, 136]) (h := h4) hL3 (hideAll_none _ (.head _))
    have z101 := grow_none (g := hideAll h3 [s1.heap.objs.size, 101, 129, 136]) (h := h4) m101.1 (hideAll_none _ (.tail _ (.head _)))
    have z129 := grow_none (g := hideAll h3 [s1.heap.objs.size, 101, 129, 136]) (h := h4) m129.1 (hideAll_none _ (.tail _ (.tail _ (.head _))))
    have z136 := grow_none (g := hideAll h3 [s1.heap.objs.size, 101, 129, 136]) (h := h4) m136.1 (hideAll_none _ (.tail _ (.tail _ (.tail _ (.head _)))))
    have hgG : ∀ b o, (grow (hideAll h3 [s1.heap.objs.size, 101, 129, 136]) h3 h4).get? b = some o → (hideAll h4 [s1.heap.objs.size, 129, 136]).get? b = some o := fun b o e => hide_one (grow_sub b o e) (List.forall_mem_cons.mpr ⟨fun q => (by rw [q, zL] at e; cases e), List.forall_mem_cons.mpr ⟨fun q => (by rw [q, z129] at e; cases e), List.forall_mem_cons.mpr ⟨fun q => (by rw [q, z136] at e; cases e), List.forall_mem_nil _⟩⟩⟩)
    have hg3 : ∀ b o, (hideAll h3 [s1.heap.objs.size, 101, 129, 136]).get? b = some o → (grow (hideAll h3 [s1.heap.objs.size, 101, 129, 136]) h3 h4).get? b = some o := grow_old fun b o e => hk4 b o (fun q => by rw [q, hideAll_none _ (.tail _ (.head _))] at e; cases e) (of_hideAll _ e)
    have hsub4 : ∀ b o, h₀.get? b = some o → (hideAll h4 [s1.heap.objs.size, 129, 136]).get? b = some o := fun b o e => hgG b o (hg3 b o (hsub b o e))
    have n101 : @Ne Nat 101 s1.heap.objs.size := by omega
    have XF : Full w (hideAll h4 [s1.heap.objs.size, 129, 136]) := full_of (g := grow (hideAll h3 [s1.heap.objs.size, 101, 129, 136]) h3 h4) ⟨X0.keeps fun b o e => hg3 b o (hsub b o e), _, _, _, _, _, T0.keeps fun b o e => hg3 b o (hsub b o e)⟩ (codeHd.keeps fun b o e => hg3 b o (hsub b o e)) hgG (hide_one h101 (List.forall_mem_cons.mpr ⟨n101, List.forall_mem_cons.mpr ⟨neN (by decide), List.forall_mem_cons.mpr ⟨neN (by decide), List.forall_mem_nil _⟩⟩⟩)) hcr4 z101
    have hr5 := hr4.keep hgG
    have hpa5 := hpa.keep fun b o e => hgG b o (hg3 b o e)
    have hlR : (hideAll h4 [s1.heap.objs.size, 129, 136]).IsList DR ys.toArray := ⟨_, hgG _ _ (hg3 _ _ (ng mR.1 mR.2.1 (fun ps e => by cases congrArg Obj.cls e))), rfl, _, rfl⟩
    have k129 := hk4 _ _ (neN (by decide)) m129.1
    have k136 := hk4 _ _ (neN (by decide)) m136.1
    have kC := hk4 _ _ (neN (by omega)) mC.1
    have kP := hk4 _ _ (neN (by omega)) mP.1
    have kN := hk4 _ _ (neN (by omega)) mN.1
    generalize hG : hideAll h4 [s1.heap.objs.size, 129, 136] = G at *
    have hGh : ∀ b o, G.get? b = some o → h4.get? b = some o := fun b o e => of_hideAll _ (hG ▸ e)
    have GL : G.get? s1.heap.objs.size = none := hG ▸ hideAll_none _ (.head _)
    have G129 : G.get? 129 = none := hG ▸ hideAll_none _ (.tail _ (.head _))
    have G136 : G.get? 136 = none := hG ▸ hideAll_none _ (.tail _ (.tail _ (.head _)))
    have N4 : News h₀ s1.heap.objs.size h4 ((129, tabObj #[]) :: (136, tabObj #[]) :: (s1.heap.objs.size + 1, oC) :: (lP, _) :: (DN, _) :: ledOf G h₀) :=
      news_cons k129 m129.2.1 m129.2.2 (news_cons k136 m136.2.1 m136.2.2 (news_cons kC mC.2.1 mC.2.2 (news_cons kP mP.2.1 mP.2.2 (news_cons kN mN.2.1 mN.2.2 (led_news hGh GL)))))
    have hz101 := m101.2.2
    clear F3 N3 mR mP mN mC m136 m129 m101 mT hnone hsub ng hpa hr4 hcr4 zL z101 z129 z136 hgG hg3 hk4 hL3
    obtain ⟨TL, hTL⟩ : ∃ TL, TL = ledOf G h₀ := ⟨_, rfl⟩
    rw [← hTL] at N4
    k_steps
    rename Fr _ _ _ _ => F5
    rename News _ _ _ _ => N5
    rename_i tkn ln hn5 lln h5
    have ht1 : 0 ≤ (List.take 5 wI ++ [29, 18, 44]).sum.fmod 7 := Int.fmod_nonneg_of_pos _ (by decide)
    have ht2 : (List.take 5 wI ++ [29, 18, 44]).sum.fmod 7 < 7 := Int.fmod_lt_of_pos _ (by decide)
    refine held (names_split (s := { s1 with heap := h5, toks := _ }) F5 N5 ?zloop ?zrest)
    case zloop =>
      refine For_turns F5 (iter_split (s := { s1 with heap := h5, toks := _ }) F5 N5 ?ziter ?zturns)
      case ziter =>
        generalize (List.take 5 wI ++ [29, 18, 44]).sum.fmod 7 = tt at *
        have hcase : tt = 0 ∨ tt = 1 ∨ tt = 2 ∨ tt = 3 ∨ tt = 4 ∨ tt = 5 ∨ tt = 6 := by omega
        rcases hcase with rfl | rfl | rfl | rfl | rfl | rfl | rfl
        all_goals with_reducible change wpAny _ _ _ _ _ _
        all_goals k_fold
        all_goals k_steps
        all_goals rename Fr _ _ _ _ => F6
        all_goals rename News _ _ _ _ => N6
        · exact ⟨⟨_, _, _, _, _, rfl, rfl, F6, news_re N6, strs_cons (strs_cons (strs_cons (strs_cons (strs_cons (strs_cons (strs_cons strs_nil)))))), names_all 0, by omega⟩⟩
        · exact ⟨⟨_, _, _, _, _, rfl, rfl, F6, news_re N6, strs_cons (strs_cons (strs_cons (strs_cons (strs_cons (strs_cons (strs_cons strs_nil)))))), names_all 1, by omega⟩⟩
        · exact ⟨⟨_, _, _, _, _, rfl, rfl, F6, news_re N6, strs_cons (strs_cons (strs_cons (strs_cons (strs_cons (strs_cons (strs_cons strs_nil)))))), names_all 2, by omega⟩⟩
        · exact ⟨⟨_, _, _, _, _, rfl, rfl, F6, news_re N6, strs_cons (strs_cons (strs_cons (strs_cons (strs_cons (strs_cons (strs_cons strs_nil)))))), names_all 3, by omega⟩⟩
        · exact ⟨⟨_, _, _, _, _, rfl, rfl, F6, news_re N6, strs_cons (strs_cons (strs_cons (strs_cons (strs_cons (strs_cons (strs_cons strs_nil)))))), names_all 4, by omega⟩⟩
        · exact ⟨⟨_, _, _, _, _, rfl, rfl, F6, news_re N6, strs_cons (strs_cons (strs_cons (strs_cons (strs_cons (strs_cons (strs_cons strs_nil)))))), names_all 5, by omega⟩⟩
        · exact ⟨⟨_, _, _, _, _, rfl, rfl, F6, news_re N6, strs_cons (strs_cons (strs_cons (strs_cons (strs_cons (strs_cons (strs_cons strs_nil)))))), names_all 6, by omega⟩⟩
      intro D6 h6 tk6 vs vsS F6 N6 hS hN hD6
      obtain ⟨R, eR, N7⟩ := news_tail N6
      have hRn' : ∀ q ∈ R, q.1 ≠ ln := by
        rw [eR]
        exact List.forall_mem_cons.mpr ⟨hD6, List.forall_mem_cons.mpr ⟨neN (by (try dsimp only); omega), List.forall_mem_cons.mpr ⟨neN (by (try dsimp only); omega), List.forall_mem_cons.mpr ⟨neN (by (try dsimp only); omega), List.forall_mem_cons.mpr ⟨neN (by (try dsimp only); omega), List.forall_mem_cons.mpr ⟨neN (by (try dsimp only); omega), allLt_ne lln.2.2.2.2.2⟩⟩⟩⟩⟩⟩
      clear N6
      refine list_turns (s := { s1 with heap := h6, toks := tk6 }) (vs := vs) (fun c : List Value × Nat => (ln, listOf c.1.toArray c.2) :: R) (fun _ => []) [Str.ofString "path"] (fun i c => StrsAt c.1 (insAll (vsS.take i))) ([], 0) rfl F6 N7 (.inr ⟨_, _, fun c => .tail _ (by rw [eR]; exact List.Mem.head _), rfl, rfl⟩) (List.forall_mem_nil _) strs_nil ?_ ?_
      · rintro i v ⟨nvs, nn⟩ u h tk I oI hv hP F N hI
        dsimp only at hP F N hI
        have hi7 : i < 7 := by
          have h1 := hS.1
          have h2 : i < vs.length := by
            rcases Nat.lt_or_ge i vs.length with q | q
            · exact q
            · rw [List.getElem?_eq_none q] at hv; cases hv
          have h3 : vsS.length = 7 := hlS7 _ hN
          omega
        obtain ⟨t, rfl⟩ := hS.2 i v hv
        have hpi : vsS[i]? = some ((vsS[i]?).getD (Str.ofString "")) := by
          have h3 : vsS.length = 7 := hlS7 _ hN
          rw [List.getElem?_eq_getElem (by omega)]; rfl
        clear F5 N5 F6 N7
        with_reducible change wpAny _ _ _ _ _ _
        k_fold
        k_steps
        rename Fr _ _ _ _ => F8
        rename News _ _ _ _ => N8
        rename_i h8
        have m1 := N8 _ (.tail _ (.head _))
        have mI := N8 _ (.head _)
        have hI1 : @Ne Nat ln I := hI _ (.head _)
        have hI' : ∀ {vv : Obj}, ∀ q ∈ (ln, vv) :: R, q.1 ≠ I := List.forall_mem_cons.mpr ⟨hI1, fun q hq => hI q (.tail _ hq)⟩
        have hlen : nvs.length ≤ 7 := by rw [hP.1]; unfold insAll; rw [insAll_len]; simp; omega
        refine held (wpAny_mono (insr (g := h₀) (s := { s1 with heap := h8, toks := _ }) (vs := nvs) (c := fun i' => !decide (((vsS[i]?).getD (Str.ofString "")).cps.toList < (sAt (insAll (vsS.take i)) i').cps.toList)) X0 T0 F8.keep m1.1 m1.2.2 (Nat.le_of_ble_eq_true rfl) (by omega) (lt_strs hP _ _) ?_) (fun _ _ x => x) (fun _ _ x => x.elim))
        intro h9 tk9 n9 hk9 hl9
        dsimp only at hk9 hl9
        have F9 := fr_but F8 m1.2.2 m1.2.1 hk9
        have N9 : News h₀ s1.heap.objs.size h9 ((I, oI) :: (ln, _) :: R) := news_cons (hk9 _ _ (Ne.symm hI1) mI.1) mI.2.1 mI.2.2 (news_cons hl9 m1.2.1 m1.2.2 (news_but (fun q hq => N8 q (.tail _ (.tail _ hq))) hRn' hk9))
        clear F8 N8
        k_steps
        change ForEnd _ _ _ _ _ _ _ _ _ _ _
        refine for_end (_, _) F9 N9 hI' (List.forall_mem_nil _) ?zhr (strs_next hpi hP)
        case zhr => walk_at "mine same"
      · rintro ⟨nvs, nn⟩ u h tk hP F N
        dsimp only at hP F N
        rw [hS.1, List.take_length, hN] at hP
        subst eR
        exact ⟨rfl, h, _, u, nvs, nn, rfl, F, fun q hq => N q (by
          rcases List.mem_cons.mp hq with q1 | q1
          · rw [q1]; exact .head _
          · exact .tail _ (.tail _ q1)), hP⟩
    case zrest =>
      intro h6 tk6 u6 nvs nn F6 N6 hS6
      clear F5 N5
      with_reducible change wpAny _ _ _ _ _ _
      k_steps
      have hGc : ∀ b o o', G.get? b = some o → h₀.get? b = some o' → o = o' := fun b o o' e e' => by have := hsub4 b o' e'; rw [e] at this; exact Option.some.inj this
      have hGu : ∀ b o, G.get? b = some o → h6.get? b = some o := led_up F6 N6 (fun q hq => by rw [← hTL] at hq; exact .tail _ (.tail _ (.tail _ (.tail _ (.tail _ (.tail _ hq)))))) hGc
      have m0 := N6 _ (.head _)
      have m129 := N6 _ (.tail _ (.head _))
      have m136 := N6 _ (.tail _ (.tail _ (.head _)))
      dsimp only at m0 m129 m136
      obtain ⟨oL6, hL6⟩ := fr_at F6
      have hgs : ∀ b o, h₀.get? b = some o → (hideAll h6 [s1.heap.objs.size, 129, 136]).get? b = some o := base_sub F6 (List.forall_mem_cons.mpr ⟨fr_none F6, List.forall_mem_cons.mpr ⟨m129.2.2, List.forall_mem_cons.mpr ⟨m136.2.2, List.forall_mem_nil _⟩⟩⟩)
      have hgG : ∀ b o, G.get? b = some o → (hideAll h6 [s1.heap.objs.size, 129, 136]).get? b = some o := fun b o e => hide_one (hGu b o e) (List.forall_mem_cons.mpr ⟨fun q => (by rw [q, GL] at e; cases e), List.forall_mem_cons.mpr ⟨fun q => (by rw [q, G129] at e; cases e), List.forall_mem_cons.mpr ⟨fun q => (by rw [q, G136] at e; cases e), List.forall_mem_nil _⟩⟩⟩)
      have hn6 : (hideAll h6 [s1.heap.objs.size, 129, 136]).get? ln = some (listOf nvs.toArray nn) := hide_one m0.1 (List.forall_mem_cons.mpr ⟨m0.2.1, List.forall_mem_cons.mpr ⟨neN (by omega), List.forall_mem_cons.mpr ⟨neN (by omega), List.forall_mem_nil _⟩⟩⟩)
      have hz1 : ∀ r ∈ rulesOf (List.take 5 wI ++ [29, 18, 44]), r.1.length < 2 ^ 20 := fun r hr => paths_len _ (rules_path hr)
      refine held (wpAny_mono (spans_c (s := { s1 with heap := h6, toks := _ }) (g := hideAll h6 [s1.heap.objs.size, 129, 136]) (nvs := nvs) (nms := namesL) (rs := rulesOf (List.take 5 wI ++ [29, 18, 44])) ⟨X0.keeps hgs, _, _, _, _, _, T0.keeps hgs⟩ (hC2.keeps hgs) (fun b o e => of_hideAll _ e) (hideAll_none _ (.tail _ (.head _))) ⟨_, hn6, rfl, _, rfl⟩ hS6 (list_keep hlR hgG) (hpa5.keep hgG) m129.1 (by omega) hz1 names_len (by decide) rfl (Nat.le_of_ble_eq_true rfl) ?_) (fun _ _ x => x) (fun _ _ x => x.elim))
      rintro h7 tk7 lS ysS nS hk7 hnS hlS7 hT7 ⟨a129, h129⟩
      dsimp only at hk7 hnS hlS7 hT7 h129
      have F7 := fr_but F6 m129.2.2 m129.2.1 hk7
      have zL := grow_none (g := hideAll h6 [s1.heap.objs.size, 129, 136]) (h := h7) hL6 (hideAll_none _ (.head _))
      have z129 := grow_none (g := hideAll h6 [s1.heap.objs.size, 129, 136]) (h := h7) m129.1 (hideAll_none _ (.tail _ (.head _)))
      have z136 := grow_none (g := hideAll h6 [s1.heap.objs.size, 129, 136]) (h := h7) m136.1 (hideAll_none _ (.tail _ (.tail _ (.head _))))
      have hg6 : ∀ b o, (hideAll h6 [s1.heap.objs.size, 129, 136]).get? b = some o → (grow (hideAll h6 [s1.heap.objs.size, 129, 136]) h6 h7).get? b = some o := grow_old fun b o e => hk7 b o (fun q => by rw [q, hideAll_none _ (.tail _ (.head _))] at e; cases e) (of_hideAll _ e)
      have hn7 := hg6 _ _ hn6
      have hs7 := grow_new (g := hideAll h6 [s1.heap.objs.size, 129, 136]) hnS hlS7
      have hsub7 := fun b o e => hg6 b o (hgs b o e)
      have hG7 := fun b o e => hg6 b o (hgG b o e)
      have k136 := hk7 _ _ (neN (by decide)) m136.1
      have hGh7 : ∀ b o, (grow (hideAll h6 [s1.heap.objs.size, 129, 136]) h6 h7).get? b = some o → h7.get? b = some o := grow_sub
      generalize hG1 : grow (hideAll h6 [s1.heap.objs.size, 129, 136]) h6 h7 = G1 at *
      have N7 : News h₀ s1.heap.objs.size h7 ((129, tabObj a129) :: (136, tabObj #[]) :: (lS, _) :: (ln, _) :: ledOf G1 h₀) :=
        news_cons h129 m129.2.1 m129.2.2 (news_cons k136 m136.2.1 m136.2.2 (news_cons hlS7 (fun q => by have q' : lS = s1.heap.objs.size := q; rw [q', hL6] at hnS; cases hnS) (none_sub F6.keep hnS) (news_cons (hGh7 _ _ hn7) m0.2.1 m0.2.2 (led_news hGh7 zL))))
      have XF7 := XF.keep hG7
      have hr7 := hr5.keep hG7
      have hpa7 := hpa5.keep hG7
      have hlR7 := list_keep hlR hG7
      clear F6 N6 m0 m129 m136 hgs hgG hn6 hk7 hL6 hg6
      obtain ⟨TL1, hTL1⟩ : ∃ TL1, TL1 = ledOf G1 h₀ := ⟨_, rfl⟩
      rw [← hTL1] at N7
      k_steps
      rename Fr _ _ _ _ => F8
      rename News _ _ _ _ => N8
      rename Heap => h8
      have hGu8 : ∀ b o, G1.get? b = some o → h8.get? b = some o := led_up F8 N8 (fun q hq => by rw [← hTL1] at hq; exact .tail _ (.tail _ (.tail _ (.tail _ hq)))) (agree hsub7)
      refine held (wpAny_mono (rivals_c (s := { s1 with heap := h8, toks := _ }) (rs := rulesOf (List.take 5 wI ++ [29, 18, 44])) ((XF7.keep hGu8).all) (list_keep hlR7 hGu8) (hpa7.keep hGu8) (by omega) rfl (Nat.le_of_ble_eq_true rfl) ?_) (fun _ _ x => x) (fun _ _ x => x.elim))
      intro h9 tk9 lV ysV nV hk9 hnV hlV9 hIV
      dsimp only at hk9 hnV hlV9
      obtain ⟨oL8, hL8⟩ := fr_at F8
      have m129 := N8 _ (.head _)
      have m136 := N8 _ (.tail _ (.head _))
      have mS := N8 _ (.tail _ (.tail _ (.head _)))
      have mn := N8 _ (.tail _ (.tail _ (.tail _ (.head _))))
      dsimp only at m129 m136 mS mn
      have hg9 : ∀ b o, G1.get? b = some o → (grow G1 h8 h9).get? b = some o := grow_old fun b o e => hk9 b o (hGu8 b o e)
      have zL9 := grow_none (g := G1) (h := h9) hL8 zL
      have y129 := grow_none (g := G1) (h := h9) m129.1 z129
      have y136 := grow_none (g := G1) (h := h9) m136.1 z136
      have hlV2 := grow_new (g := G1) hnV hlV9
      have F9 := fr_keep F8 hk9
      have hGh9 : ∀ b o, (grow G1 h8 h9).get? b = some o → h9.get? b = some o := grow_sub
      generalize hG2 : grow G1 h8 h9 = G2 at *
      have N9 : News h₀ s1.heap.objs.size h9 ((136, tabObj #[]) :: (lV, _) :: (lS, _) :: (ln, _) :: (129, _) :: ledOf G2 h₀) :=
        news_cons (hk9 _ _ m136.1) m136.2.1 m136.2.2 (news_cons hlV9 (fun q => by have q' : lV = s1.heap.objs.size := q; rw [q', hL8] at hnV; cases hnV) (none_sub F8.keep hnV) (news_cons (hk9 _ _ mS.1) mS.2.1 mS.2.2 (news_cons (hk9 _ _ mn.1) mn.2.1 mn.2.2 (news_cons (hk9 _ _ m129.1) m129.2.1 m129.2.2 (led_news hGh9 zL9)))))
      have XF9 := XF7.keep hg9
      have hr9 := hr7.keep hg9
      have hT9 := hT7.keep hg9
      have hn9 := hg9 _ _ hn7
      have hs9 := hg9 _ _ hs7
      have hsub9 := fun b o e => hg9 b o (hsub7 b o e)
      clear F8 N8 m129 m136 mS mn hk9 hg9 hL8 hGh9
      obtain ⟨TL2, hTL2⟩ : ∃ TL2, TL2 = ledOf G2 h₀ := ⟨_, rfl⟩
      rw [← hTL2] at N9
      k_steps
      rename Fr _ _ _ _ => F10
      rename News _ _ _ _ => N10
      rename Heap => h10
      rename_i lr _ llr
      have mr := N10 _ (.head _)
      have m136 := N10 _ (.tail _ (.head _))
      have F11 := fr_kstB (ps := [(Str.ofString "names", .ref ln), (Str.ofString "spans", .ref lS), (Str.ofString "rivals", .ref lV), (Str.ofString "row", .ref lr), (Str.ofString "record", .ref e4)]) F10 (List.forall_mem_cons.mpr ⟨rfl, List.forall_mem_cons.mpr ⟨rfl, List.forall_mem_cons.mpr ⟨rfl, List.forall_mem_cons.mpr ⟨rfl, List.forall_mem_cons.mpr ⟨rfl, List.forall_mem_nil _⟩⟩⟩⟩⟩)
      have zr : G2.get? lr = none := led_none mr.2.2 (by rw [← hTL2]; exact llr.2.2.2.2.2)
      have N11 := news_cons mr.1 mr.2.1 mr.2.2 (news_cons m136.1 m136.2.1 m136.2.2 fun q hq => N10 q (.tail _ (.tail _ (.tail _ hq))))
      rw [hTL2] at N11
      refine held ?_
      k_dflt (refine' fn_use (K := hd.heap_39 w.params) (f := 144) ?k6 ?_; (case k6 => k_is))
      intro ho
      exact wpAny_mono (loop_c (s := { s1 with heap := h10, toks := _ }) ho X0 T0 hC1 XF9 hsub9 zL9 y129 y136 zr hr9 hT9 hn9 hS6 hs9 hlV2 hIV hrl hz101 hl0.2.2 hl0.2.1 hl0.1 (neN (by omega)) (neN (by omega)) F11 N11) (fun _ _ x => x.of) (fun _ _ x => x.elim)
    )
end

end Mine
theorem PySem.Challenge.cw_ny0178_01_holds : PySem.Challenge.rw_ny0178_01.Holds :=
  Mine.law0
