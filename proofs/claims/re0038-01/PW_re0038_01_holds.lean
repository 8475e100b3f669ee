import PyProof.Rows.All
import Wide.All
import OpenK.AllK
import Wide.FinOn
import PySem.Challenge.RW_re0038_01
set_option Elab.async false

-- part Head
section
open PySem PySem.W PyProof.Rows
set_option maxRecDepth 100000
set_option maxHeartbeats 8000000
namespace Mine
open_top hd for PySem.Challenge.rw_re0038_01
end Mine
end

-- part Base
section
open PySem PySem.W PySem.Calls PyProof.Rows
set_option maxRecDepth 100000
namespace Mine
/-- all of h stands in h' -/
abbrev Le (h h' : Heap) : Prop := ∀ b o, h.get? b = some o → h'.get? b = some o

/-- a def entered; what stands in news may be changed by it -/
theorem enterN {w : World} {A : Around} {s : Shared} {R : Result → Shared → Prop} {K : Frag} {news : List (Addr × Obj)}
    {name qual : Str} {params : Arguments} {body : List Stmt} {scope : Scope} {dV kV doc pm cdv ct oc : Value} {an od : Option Addr} {osl : Array (Option Value)} {f : Addr} {args : Args} {binds : List (Str × Value)}
    (X : K.In s.heap) (hlim : s.heap.NoLimit) (N : ∀ p ∈ news, s.heap.get? p.1 = some p.2)
    (ho : K.lookup f = some ⟨oc, od, .func (fnOf name qual params body scope dV kV doc pm an cdv ct), osl⟩) (hcd : codeIn K cdv qual = true) (hroom : A.depth < recursionLimit)
    (hbind : BindsTo s (fnOf name qual params body scope dV kV doc pm an cdv ct) args binds) (hloc : ∀ y ∈ binds, scope.names.lookup y.1 = some .local)
    (h : ∀ g L h₁, (∀ b o, s.heap.get? b = some o → b ∉ news.map (·.1) → g.get? b = some o) → Fr g L h₁ (fun y => binds.reverse.lookup y) → News g L h₁ news → (∀ p ∈ news, p.1 < L) →
      wpAny (model Challenge.rw_re0038_01.row.prog w) (A.deeper (envOf qual scope L f cdv)) (execs body (envOf qual scope L f cdv))
        (fun fl s' => R (.ok (.ret (match fl with | .ret v => v | _ => .none))) s') (fun _ _ => False)
        { s with heap := h₁, toks := s.toks + binds.length })
    (hco : scope.isCoroutine = false := by rfl) (hgen : scope.isGenerator = false := by rfl) (hk : scope.kind = .function := by rfl)
    (hcell : ∀ x ∈ scope.names, x.2 ≠ .cell := by decide) : codeAny (model Challenge.rw_re0038_01.row.prog w) A (.call (.ref f) args) R s := by
  refine codeAny_call_def (fd := fnOf name qual params body scope dV kV doc pm an cdv ct) (body := body) (binds := binds) hroom (X _ _ ho) rfl hlim (codeRec_of X hcd) rfl hbind hcell hloc (fun h₁ hns hk₁ => ?_) hco hgen hk
  refine wpAny_mono (h (hideAll s.heap (news.map (·.1))) s.heap.objs.size h₁ (fun b o e n => hideAll_get _ e n) ⟨hns, fun b o e => hk₁ b o (of_hideAll _ e), Nat.le_of_eq (hideAll_size _ _)⟩
    (fun p hp => ⟨hk₁ _ _ (N p hp), Nat.ne_of_lt (Heap.lt_size (N p hp)), hideAll_none _ (List.mem_map_of_mem hp)⟩) (fun p hp => Heap.lt_size (N p hp))) (fun _ _ y => y) fun _ _ y => y.elim

theorem Fr_le {h₀ h h' : Heap} {L : Addr} {m : Str → Option Value} (F : Fr h₀ L h m) (k : Le h h') : Fr h₀ L h' m :=
  ⟨F.ns.keeps k, fun b o e => k b o (F.keep b o e), F.above⟩
theorem News_le {h₀ h h' : Heap} {L : Addr} {news : List (Addr × Obj)} (N : News h₀ L h news) (k : Le h h') : News h₀ L h' news :=
  fun p hp => ⟨k _ _ (N p hp).1, (N p hp).2⟩

/-- of what may be hidden from the base: lists of the call's own, and the table of a def that makes a lambda -/
def Hideable (h : Heap) (b : Addr) : Prop := (∃ its n, h.get? b = some (listOf its n)) ∨ b = 108

def okObj (p : Addr × Obj) : Bool := p.1 != 108 && (match p.2.cls with | .type n => n != "list" | _ => true)
theorem heap_ok (P : Params) : (hd.heap_39 P).all okObj = true := by kernel_rfl

theorem lookup_mem {α β : Type} [BEq α] [LawfulBEq α] {a : α} {b : β} : ∀ {l : List (α × β)}, l.lookup a = some b → (a, b) ∈ l
  | [], h => nomatch h
  | (c, d) :: r, h => by
    simp only [List.lookup] at h
    split at h
    · rename_i q
      cases h
      rw [eq_of_beq q]; exact .head _
    · exact .tail _ (lookup_mem h)

theorem In_hide {w : World} {h g : Heap} {as : List Addr} (X : (hd.heap_39 w.params).In h) (hid : ∀ b ∈ as, Hideable h b) (hg : ∀ b o, h.get? b = some o → b ∉ as → g.get? b = some o) : (hd.heap_39 w.params).In g := by
  intro a o e
  have ho := X a o e
  refine hg a o ho fun hm => ?_
  have q := List.all_eq_true.mp (heap_ok w.params) _ (lookup_mem e)
  rcases hid a hm with ⟨its, n, hb⟩ | rfl
  · rw [ho] at hb
    cases hb
    simp [okObj] at q
  · simp [okObj] at q

theorem ns_hide {h g : Heap} {as : List Addr} {a : Addr} {m : Str → Option Value} (hn : h.Ns a m) (ha : a ≠ 108) (hid : ∀ b ∈ as, Hideable h b) (hg : ∀ b o, h.get? b = some o → b ∉ as → g.get? b = some o) : g.Ns a m := by
  refine hn.at' fun o ho => hg a o ho fun hm => ?_
  rcases hid a hm with ⟨its, n, hb⟩ | rfl
  · obtain ⟨o', es, ep, ho', hd, _⟩ := hn
    rw [hb] at ho'
    cases ho'
    cases hd
  · exact ha rfl

theorem Top_hide {p : Program} {loose : List Str} {mg mb : Str → Option Value} {h g : Heap} {as : List Addr} (T : TopRead p loose mg mb h) (hid : ∀ b ∈ as, Hideable h b) (hg : ∀ b o, h.get? b = some o → b ∉ as → g.get? b = some o) : TopRead p loose mg mb g := by
  refine ⟨ns_hide T.g (by decide) hid hg, ns_hide T.b (by decide) hid hg, ?_, T.builtins, T.free⟩
  obtain ⟨mc, h1, h2⟩ := T.nolimit
  exact ⟨mc, ns_hide h1 (by decide) hid hg, h2⟩
theorem News_sub {g h : Heap} {L : Addr} {l k : List (Addr × Obj)} (N : News g L h l) (s : k ⊆ l) : News g L h k := fun q hq => N q (s hq)
theorem cons_sub {α : Type} {a : α} {k l : List α} (h : a ∈ l) (s : k ⊆ l) : a :: k ⊆ l := List.cons_subset.mpr ⟨h, s⟩
theorem skip_sub {α : Type} {a : α} {k l : List α} (s : k ⊆ l) : k ⊆ a :: l := fun _ hx => .tail _ (s hx)
theorem mem_sub {α : Type} {q : α} {k l : List α} (h : q ∈ k) (s : k ⊆ l) : q ∈ l := s h
end Mine
end

-- part Bis
section
open PySem PySem.W PySem.Calls PyProof.Rows
set_option maxRecDepth 100000
set_option maxHeartbeats 8000000
namespace Mine
def bisR (ns : List Int) (x : Int) (lo hi : Nat) : Nat :=
  if lo < hi then
    let mid := (lo + hi) / 2
    if x < ns.getD mid 0 then bisR ns x lo mid else bisR ns x (mid + 1) hi
  else lo
termination_by hi - lo
decreasing_by all_goals omega

theorem bisR_left {ns : List Int} {x : Int} {lo hi : Nat} (h : lo < hi) (hx : x < ns.getD ((lo + hi) / 2) 0) : bisR ns x lo hi = bisR ns x lo ((lo + hi) / 2) := by
  rw [bisR]; simp only [h, hx, if_true]
theorem bisR_right {ns : List Int} {x : Int} {lo hi : Nat} (h : lo < hi) (hx : ¬ x < ns.getD ((lo + hi) / 2) 0) : bisR ns x lo hi = bisR ns x ((lo + hi) / 2 + 1) hi := by
  rw [bisR]; simp only [h, hx, if_true, if_false]
theorem bisR_end {ns : List Int} {x : Int} {lo hi : Nat} (h : ¬ lo < hi) : bisR ns x lo hi = lo := by
  rw [bisR]; simp only [h, if_false]
def bisL (ns : List Int) (x : Int) (lo hi : Nat) : Nat :=
  if lo < hi then
    let mid := (lo + hi) / 2
    if ns.getD mid 0 < x then bisL ns x (mid + 1) hi else bisL ns x lo mid
  else lo
termination_by hi - lo
decreasing_by all_goals omega
theorem bisL_left {ns : List Int} {x : Int} {lo hi : Nat} (h : lo < hi) (hx : ¬ ns.getD ((lo + hi) / 2) 0 < x) : bisL ns x lo hi = bisL ns x lo ((lo + hi) / 2) := by
  rw [bisL]; simp only [h, hx, if_true, if_false]
theorem bisL_right {ns : List Int} {x : Int} {lo hi : Nat} (h : lo < hi) (hx : ns.getD ((lo + hi) / 2) 0 < x) : bisL ns x lo hi = bisL ns x ((lo + hi) / 2 + 1) hi := by
  rw [bisL]; simp only [h, hx, if_true]
theorem bisL_end {ns : List Int} {x : Int} {lo hi : Nat} (h : ¬ lo < hi) : bisL ns x lo hi = lo := by
  rw [bisL]; simp only [h, if_false]
theorem mid_cast (a b : Nat) : ((a : Int) + (b : Int)).fdiv 2 = (((a + b) / 2 : Nat) : Int) := by
  rw [Int.fdiv_eq_ediv_of_nonneg _ (by decide)]; omega

/-- walks on, up to a while -/
local macro_rules | `(tactic| ktr_unf) => `(tactic| repeat' (first | (k_unfold; (try dsimp only)) | (k_end; wrow_close) | ((fail_if_success (with_reducible show wpAny _ _ (exec (Stmt.While _ _ _ _) _) _ _ _)); first | walk1 | (dsimp only; walk1)) | (leave1; walk_say "STEP leave1"; try dsimp only) | fail "no step"))

theorem bisect_right_C {w : World} {p : Program} {loose : List Str} {mg mb : Str → Option Value} {A : Around} {s : Shared} {Q E : Value → Shared → Prop}
    {l : Addr} {vs : List Value} {n : Nat} {ns : List Int} {x : Int} {t t0 : Tok} {args : List Value} (ha : (args = [.ref l, .int x t] ∧ t0 = 297) ∨ args = [.ref l, .int x t, .int 0 t0, .none])
    (X : (hd.heap_39 w.params).In s.heap) (T : TopRead p loose mg mb s.heap) (hh : A.handled = none)
    (hl : s.heap.get? l = some (listOf vs.toArray n)) (hi : IntsAre vs ns) (hfit : ns.length < 2 ^ 62) (hdp : A.depth + 1 < recursionLimit) (hu : A.units + 8 < cLine)
    (hret : ∀ (t : Tok) (h' : Heap) (tk' : Nat), Le s.heap h' → Q (.int (bisR ns x 0 ns.length) t) { s with heap := h', toks := tk' }) :
    wpAny (model Challenge.rw_re0038_01.row.prog w) A (call (.ref 49) args) Q E s := by
  revert X
  k_fill
  intro X
  refine wpAny_call ?_
  refine' enterN (binds := [(Str.ofString "a", .ref l), (Str.ofString "x", .int x t), (Str.ofString "lo", .int 0 t0), (Str.ofString "hi", .none), (Str.ofString "key", .none)]) (news := []) X T.nolimit ?n ?k6 ?k7 ?k8 ?k9 ?kB ?_ ?c2 ?c3 ?c4 ?c5
  case k6 => k_is
  case k7 => k_is
  case k8 => omega
  case k9 => rcases ha with ⟨rfl, rfl⟩ | rfl <;> exact kp_binds X (fun _ => by kernel_rfl)
  case kB => exact locs rfl
  case c2 => exact rfl
  case c3 => exact rfl
  case c4 => exact rfl
  case c5 => decide
  case n => exact fun _ h => nomatch h
  intro g L h₁ hg F N hlt
  replace X := X.keeps (fun b o e => hg b o e (by simp))
  replace T := T.keeps (fun b o e => hg b o e (by simp))
  replace hl := hg _ _ hl (by simp)
  have hL : g.IsList l vs.toArray := ⟨_, hl, rfl, _, rfl⟩
  dsimp only
  ktr_unf
  rename Fr _ _ _ _ => F1
  rename News _ _ _ _ => N1
  refine' ksw_while (σ := (Nat × Tok) × (Nat × Tok)) (fun _ => []) (fun c => [(Str.ofString "lo", .int c.1.1 c.1.2), (Str.ofString "hi", .int c.2.1 c.2.2)]) (fun _ => True) [Str.ofString "mid"]
     (fun c => c.1.1 ≤ c.2.1 ∧ c.2.1 ≤ ns.length ∧ bisR ns x c.1.1 c.2.1 = bisR ns x 0 ns.length) (fun c => c.2.1 - c.1.1) ((0, ?_), (ns.length, ?_)) F1 N1 trivial ?hk ?hp ?turn ?hE
  case hk => 
    intro p hp
    simp only [List.mem_cons, List.not_mem_nil, or_false] at hp
    rcases hp with rfl | rfl
    · exact rfl
    · exact rfl
  case hp => exact ⟨Nat.zero_le _, Nat.le_refl _, rfl⟩
  case hE => passes_own
  case turn =>
    clear F1 N1
    rintro ⟨⟨lo, tlo⟩, ⟨hi', thi⟩⟩ u h tk _ ⟨hle, hhi, hb⟩ F N
    dsimp only at hle hhi hb F N
    ktr_unf
    · rename (_ : Int) < _ => hlt'
      rename Fr _ _ _ _ => F2
      rename News _ _ _ _ => N2
      rename x < _ => hx
      rw [mid_cast] at hx F2; rw [Int.toNat_natCast] at hx; dsimp only at F2
      refine' ksw_end ((lo, tlo), ((lo + hi') / 2, _)) F2 N2 (fun _ h => nomatch h) trivial ?e1 ?e2 ?e3 ?e4
      case e1 =>
        intro p hp
        simp only [List.mem_cons, List.not_mem_nil, or_false] at hp
        rcases hp with rfl | rfl <;> exact rfl
      case e2 =>
        intro z h2 h3
        simp only [List.forall_mem_cons, List.not_mem_nil, false_implies, implies_true, and_true, ne_eq] at h2
        simp only [List.contains_cons, List.contains_nil, Bool.or_false, beq_eq_false_iff_ne, ne_eq] at h3
        simp [kstB, h2, h3]
      case e4 => dsimp only; omega
      case e3 =>
        dsimp only
        refine ⟨by omega, by omega, ?_⟩
        rw [← hb, bisR_left (by omega) hx]
    · rename (_ : Int) < _ => hlt'
      rename Fr _ _ _ _ => F2
      rename News _ _ _ _ => N2
      rename ¬ x < _ => hx
      rw [mid_cast] at hx F2; rw [Int.toNat_natCast] at hx; dsimp only at F2
      refine' ksw_end (((lo + hi') / 2 + 1, _), (hi', thi)) F2 N2 (fun _ h => nomatch h) trivial ?e1 ?e2 ?e3 ?e4
      case e1 =>
        intro p hp
        simp only [List.mem_cons, List.not_mem_nil, or_false] at hp
        rcases hp with rfl | rfl <;> exact rfl
      case e2 =>
        intro z h2 h3
        simp only [List.forall_mem_cons, List.not_mem_nil, false_implies, implies_true, and_true, ne_eq] at h2
        simp only [List.contains_cons, List.contains_nil, Bool.or_false, beq_eq_false_iff_ne, ne_eq] at h3
        simp [kstB, h2, h3]
      case e4 => dsimp only; omega
      case e3 =>
        dsimp only
        refine ⟨by omega, by omega, ?_⟩
        rw [← hb, bisR_right (by omega) hx]
    · rename ¬ (_ : Int) < _ => hlt'
      dsimp only
      have e : lo = bisR ns x 0 ns.length := by rw [← hb, bisR_end (by omega)]
      rw [e]
      exact hret _ _ _ (fun b o e => F.keep b o (hg b o e (by simp)))
theorem bisect_left_C {w : World} {p : Program} {loose : List Str} {mg mb : Str → Option Value} {A : Around} {s : Shared} {Q E : Value → Shared → Prop}
    {l : Addr} {vs : List Value} {n : Nat} {ns : List Int} {x : Int} {t t0 : Tok} {args : List Value} (ha : (args = [.ref l, .int x t] ∧ t0 = 311) ∨ args = [.ref l, .int x t, .int 0 t0, .none])
    (X : (hd.heap_39 w.params).In s.heap) (T : TopRead p loose mg mb s.heap) (hh : A.handled = none)
    (hl : s.heap.get? l = some (listOf vs.toArray n)) (hi : IntsAre vs ns) (hfit : ns.length < 2 ^ 62) (hdp : A.depth + 1 < recursionLimit) (hu : A.units + 8 < cLine)
    (hret : ∀ (t : Tok) (h' : Heap) (tk' : Nat), Le s.heap h' → Q (.int (bisL ns x 0 ns.length) t) { s with heap := h', toks := tk' }) :
    wpAny (model Challenge.rw_re0038_01.row.prog w) A (call (.ref 58) args) Q E s := by
  revert X
  k_fill
  intro X
  refine wpAny_call ?_
  refine' enterN (binds := [(Str.ofString "a", .ref l), (Str.ofString "x", .int x t), (Str.ofString "lo", .int 0 t0), (Str.ofString "hi", .none), (Str.ofString "key", .none)]) (news := []) X T.nolimit ?n ?k6 ?k7 ?k8 ?k9 ?kB ?_ ?c2 ?c3 ?c4 ?c5
  case k6 => k_is
  case k7 => k_is
  case k8 => omega
  case k9 => rcases ha with ⟨rfl, rfl⟩ | rfl <;> exact kp_binds X (fun _ => by kernel_rfl)
  case kB => exact locs rfl
  case c2 => exact rfl
  case c3 => exact rfl
  case c4 => exact rfl
  case c5 => decide
  case n => exact fun _ h => nomatch h
  intro g L h₁ hg F N hlt
  replace X := X.keeps (fun b o e => hg b o e (by simp))
  replace T := T.keeps (fun b o e => hg b o e (by simp))
  replace hl := hg _ _ hl (by simp)
  have hL : g.IsList l vs.toArray := ⟨_, hl, rfl, _, rfl⟩
  dsimp only
  ktr_unf
  rename Fr _ _ _ _ => F1
  rename News _ _ _ _ => N1
  refine' ksw_while (σ := (Nat × Tok) × (Nat × Tok)) (fun _ => []) (fun c => [(Str.ofString "lo", .int c.1.1 c.1.2), (Str.ofString "hi", .int c.2.1 c.2.2)]) (fun _ => True) [Str.ofString "mid"]
     (fun c => c.1.1 ≤ c.2.1 ∧ c.2.1 ≤ ns.length ∧ bisL ns x c.1.1 c.2.1 = bisL ns x 0 ns.length) (fun c => c.2.1 - c.1.1) ((0, ?_), (ns.length, ?_)) F1 N1 trivial ?hk ?hp ?turn ?hE
  case hk => 
    intro p hp
    simp only [List.mem_cons, List.not_mem_nil, or_false] at hp
    rcases hp with rfl | rfl
    · exact rfl
    · exact rfl
  case hp => exact ⟨Nat.zero_le _, Nat.le_refl _, rfl⟩
  case hE => passes_own
  case turn =>
    clear F1 N1
    rintro ⟨⟨lo, tlo⟩, ⟨hi', thi⟩⟩ u h tk _ ⟨hle, hhi, hb⟩ F N
    dsimp only at hle hhi hb F N
    ktr_unf
    · rename (_ : Int) < _ => hlt'
      rename Fr _ _ _ _ => F2
      rename News _ _ _ _ => N2
      rename _ < x => hx
      rw [mid_cast] at hx F2; rw [Int.toNat_natCast] at hx; dsimp only at F2
      refine' ksw_end (((lo + hi') / 2 + 1, _), (hi', thi)) F2 N2 (fun _ h => nomatch h) trivial ?e1 ?e2 ?e3 ?e4
      case e1 =>
        intro p hp
        simp only [List.mem_cons, List.not_mem_nil, or_false] at hp
        rcases hp with rfl | rfl <;> exact rfl
      case e2 =>
        intro z h2 h3
        simp only [List.forall_mem_cons, List.not_mem_nil, false_implies, implies_true, and_true, ne_eq] at h2
        simp only [List.contains_cons, List.contains_nil, Bool.or_false, beq_eq_false_iff_ne, ne_eq] at h3
        simp [kstB, h2, h3]
      case e4 => dsimp only; omega
      case e3 =>
        dsimp only
        refine ⟨by omega, by omega, ?_⟩
        rw [← hb, bisL_right (by omega) hx]
    · rename (_ : Int) < _ => hlt'
      rename Fr _ _ _ _ => F2
      rename News _ _ _ _ => N2
      rename ¬ _ < x => hx
      rw [mid_cast] at hx F2; rw [Int.toNat_natCast] at hx; dsimp only at F2
      refine' ksw_end ((lo, tlo), ((lo + hi') / 2, _)) F2 N2 (fun _ h => nomatch h) trivial ?e1 ?e2 ?e3 ?e4
      case e1 =>
        intro p hp
        simp only [List.mem_cons, List.not_mem_nil, or_false] at hp
        rcases hp with rfl | rfl <;> exact rfl
      case e2 =>
        intro z h2 h3
        simp only [List.forall_mem_cons, List.not_mem_nil, false_implies, implies_true, and_true, ne_eq] at h2
        simp only [List.contains_cons, List.contains_nil, Bool.or_false, beq_eq_false_iff_ne, ne_eq] at h3
        simp [kstB, h2, h3]
      case e4 => dsimp only; omega
      case e3 =>
        dsimp only
        refine ⟨by omega, by omega, ?_⟩
        rw [← hb, bisL_left (by omega) hx]
    · rename ¬ (_ : Int) < _ => hlt'
      dsimp only
      have e : lo = bisL ns x 0 ns.length := by rw [← hb, bisL_end (by omega)]
      rw [e]
      exact hret _ _ _ (fun b o e => F.keep b o (hg b o e (by simp)))

theorem bisR_le (ns : List Int) (x : Int) : ∀ (k lo hi : Nat), hi - lo ≤ k → lo ≤ hi → bisR ns x lo hi ≤ hi ∧ lo ≤ bisR ns x lo hi := by
  intro k
  induction k with
  | zero => intro lo hi h1 h2; rw [bisR_end (by omega)]; omega
  | succ k ih =>
    intro lo hi h1 h2
    by_cases h : lo < hi
    · by_cases hx : x < ns.getD ((lo + hi) / 2) 0
      · rw [bisR_left h hx]; have := ih lo ((lo + hi) / 2) (by omega) (by omega); omega
      · rw [bisR_right h hx]; have := ih ((lo + hi) / 2 + 1) hi (by omega) (by omega); omega
    · rw [bisR_end h]; omega
/-- where insort_right lays x, and the row then -/
def spotR (ns : List Int) (x : Int) : Nat := bisR ns x 0 ns.length
def spotL (ns : List Int) (x : Int) : Nat := bisL ns x 0 ns.length
theorem spotR_le (ns : List Int) (x : Int) : spotR ns x ≤ ns.length := (bisR_le ns x _ 0 ns.length (Nat.le_refl _) (Nat.zero_le _)).1
def insR (ns : List Int) (x : Int) : List Int := ns.take (spotR ns x) ++ x :: ns.drop (spotR ns x)
theorem kl_ins_ints {vs : List Value} {ns : List Int} (hi : IntsAre vs ns) (x : Int) (t : Tok) : IntsAre (kl_ins vs (spotR ns x : Nat) (.int x t)) (insR ns x) := by
  have e : (if ((spotR ns x : Nat) : Int) < 0 then (((spotR ns x : Nat) : Int) + (vs.length : Int)).toNat else min ((spotR ns x : Nat) : Int).toNat vs.length) = spotR ns x := by
    have h1 := spotR_le ns x
    have h2 := hi.length
    rw [if_neg (by omega), Int.toNat_natCast, h2]
    omega
  unfold kl_ins insR
  rw [e]
  exact (hi.take _).append (.cons _ _ (hi.drop _))

theorem insort_right_C {w : World} {p : Program} {loose : List Str} {mg mb : Str → Option Value} {A : Around} {s : Shared} {Q E : Value → Shared → Prop}
    {l : Addr} {vs : List Value} {n : Nat} {ns : List Int} {x : Int} {t : Tok}
    (X : (hd.heap_39 w.params).In s.heap) (T : TopRead p loose mg mb s.heap) (hh : A.handled = none) 
    (hl : s.heap.get? l = some (listOf vs.toArray n)) (hi : IntsAre vs ns) (hfit : ns.length < 2 ^ 20) (hdp : A.depth + 2 < recursionLimit) (hu : A.units + 16 < cLine)
    (hret : ∀ (h' : Heap) (tk' : Nat) (n' : Nat), (∀ b o, b ≠ l → s.heap.get? b = some o → h'.get? b = some o) → h'.get? l = some (listOf (kl_ins vs (spotR ns x : Nat) (.int x t)).toArray n') → IntsAre (kl_ins vs (spotR ns x : Nat) (.int x t)) (insR ns x) → Q .none { s with heap := h', toks := tk' }) :
    wpAny (model Challenge.rw_re0038_01.row.prog w) A (call (.ref 40) [.ref l, .int x t]) Q E s := by
  revert X
  k_fill
  intro X
  refine wpAny_call ?_
  refine' enterN (binds := [(Str.ofString "a", .ref l), (Str.ofString "x", .int x t), (Str.ofString "lo", .int 0 284), (Str.ofString "hi", .none), (Str.ofString "key", .none)]) (news := [(l, listOf vs.toArray n)]) X T.nolimit ?n ?k6 ?k7 ?k8 ?k9 ?kB ?_ ?c2 ?c3 ?c4 ?c5
  case k6 => k_is
  case k7 => k_is
  case k8 => omega
  case k9 => exact kp_binds X (fun _ => by kernel_rfl)
  case kB => exact locs rfl
  case c2 => exact rfl
  case c3 => exact rfl
  case c4 => exact rfl
  case c5 => decide
  case n => simp [hl]
  intro g L h₁ hg F N hlt
  have hid : ∀ b ∈ [(l, listOf vs.toArray n)].map (·.1), Hideable s.heap b := by
    intro b hb; simp only [List.map_cons, List.map_nil, List.mem_singleton] at hb; subst hb; exact .inl ⟨_, _, hl⟩
  have X1 := In_hide X hid hg
  have T1 := Top_hide T hid hg
  dsimp only
  ktr_unf
  refine bisect_right_C (vs := vs) (n := n) (ns := ns) (t0 := 284) (.inr rfl) (X1.keeps F.keep) (T1.keeps F.keep) hh (N _ (.head _)).1 hi (by omega) (by simp only [depth_deeper]; omega) (by simp only [units_deeper]; omega) ?_
  intro t2 h2 tk2 k2
  dsimp only at k2
  replace F := Fr_le F k2
  replace N := News_le N k2
  dsimp only
  ktr_unf
  rename Fr _ _ _ _ => F
  rename News _ _ _ _ => N
  refine kl_insert F N ?hf rfl (Upd.head (List.forall_mem_nil _)) ?hz ?_
  case hf =>
    have h1 := spotR_le ns x
    unfold spotR at h1
    simp only [Builtin.List.listFitsIndex, Bool.and_eq_true, decide_eq_true_eq]
    omega
  case hz =>
    have := hi.length
    simp only [sizeLine_eq]
    omega
  intro h3 F3 N3
  clear F N
  dsimp only
  ktr_unf
  refine hret _ _ _ (fun b o hb e => F3.keep b o (hg b o e (by simpa using hb))) (N3 _ (.head _)).1 (kl_ins_ints hi x t)
end Mine
end

-- part Re1
section
open PySem PySem.Sre
namespace Mine
def code2 : Array Nat := #[14, 9, 4, 1, 2, 16, 10, 16, 13, 0, 7, 7, 16, 13, 16, 10, 15, 18, 5, 16, 10, 15, 13, 11, 16, 13, 5, 5, 0, 16, 10, 1, 15, 2, 0, 1]
def code1 : Array Nat := #[14, 4, 0, 1, 1, 6, 1, 16, 46, 1]

theorem inSet2 (c : Nat) (seen : Seen) : ∃ seen', inSet code2 c code2.size 5 true seen = .ok (decide (c = 10 ∨ c = 13), seen') := by
  by_cases h1 : c = 10
  · subst h1; exact ⟨_, rfl⟩
  · by_cases h2 : c = 13
    · subst h2; exact ⟨_, rfl⟩
    · refine ⟨((seen.add 16).add 16).add 0, ?_⟩
      have e1 : (c == 10) = false := by simpa using h1
      have e2 : (c == 13) = false := by simpa using h2
      simp only [h1, h2, or_self, decide_false]
      show (if (c == 10) = true then _ else (if (c == 13) = true then _ else _)) = _
      rw [e1, e2]
      rfl

/-- the machine steps -/
def stepN : Nat → M → M
  | 0, m => m
  | n + 1, m => stepN n m.step
theorem step_done {m : M} (h : m.outcome.isSome = true) : m.step = m := by
  unfold M.step; rw [if_pos h]
theorem stepN_done {m : M} (h : m.outcome.isSome = true) : ∀ n, stepN n m = m
  | 0 => rfl
  | n + 1 => by rw [stepN, step_done h, stepN_done h n]
theorem runFor_eq : ∀ (n : Nat) (m : M), M.runFor n m = stepN n m
  | 0, _ => rfl
  | n + 1, m => by
    rw [M.runFor, stepN]
    by_cases h : m.outcome.isSome = true
    · rw [if_pos h, step_done h, stepN_done h]
    · rw [if_neg h]; exact runFor_eq n _
theorem stepN_add (a b : Nat) (m : M) : stepN (a + b) m = stepN b (stepN a m) := by
  induction a generalizing m with
  | zero => rw [Nat.zero_add]; rfl
  | succ a ih => rw [Nat.succ_add]; exact ih m.step
end Mine
end

-- part Re2
section
open PySem PySem.Sre
set_option maxRecDepth 20000
set_option linter.unusedSimpArgs false
namespace Mine
/-- the machine of the second pattern, as it may stand -/
def mk2 (text : Array Nat) (q pc pos handed : Nat) (om : Bool) (frames : List PySem.Sre.Frame) (weight : Nat) (answer : Option Bool) (seen : Seen) : M :=
  { code := code2, text, lim := text.size, start := q, lastStart := text.size, pc, pos, handed, outermost := om, marks := #[], frames, weight, answer, seen }
def fr0 (q : Nat) (first : Bool) : PySem.Sre.Frame := { wait := .nextStart, pc := 10, pos := q, outermost := first }

theorem getD_out {text : Array Nat} {q : Nat} (h : text.size ≤ q) : text.getD q 0 = 0 := by
  simp [Array.getD, show ¬ q < text.size from by omega]

theorem run_crlf {text : Array Nat} {q : Nat} (first : Bool) (seen : Seen) (hq : q + 1 < text.size) (h1 : text.getD q 0 = 13) (h2 : text.getD (q + 1) 0 = 10) :
    ∃ m', stepN 9 (mk2 text q 10 q q first [fr0 q first] 1 none seen) = m' ∧ m'.start = q ∧ m'.handed = q + 2 ∧ m'.outcome = some .matched := by
  refine ⟨_, rfl, ?_⟩
  simp [stepN, mk2, fr0, M.step, M.exec, M.word, M.alternative, M.attempt, M.frame, M.keep, code2, ops, accepts, itemWidth, M.say, M.resume, M.putBack, h1, h2, show ¬ text.size ≤ q from by omega, show ¬ text.size ≤ q + 1 from by omega]

theorem run_lf {text : Array Nat} {q : Nat} (first : Bool) (seen : Seen) (hq : q < text.size) (h1 : text.getD q 0 = 10) :
    ∃ m', stepN 12 (mk2 text q 10 q q first [fr0 q first] 1 none seen) = m' ∧ m'.start = q ∧ m'.handed = q + 1 ∧ m'.outcome = some .matched := by
  refine ⟨_, rfl, ?_⟩
  simp [stepN, mk2, fr0, M.step, M.exec, M.word, M.alternative, M.attempt, M.frame, M.keep, code2, ops, accepts, itemWidth, M.say, M.resume, M.putBack, h1, show ¬ text.size ≤ q from by omega]

def frB (q alt : Nat) (first : Bool) : PySem.Sre.Frame := { wait := .nextBranch, pc := alt, pos := q, outermost := first, kept := { } }
theorem cr_A {text : Array Nat} {q : Nat} (first : Bool) (seen : Seen) (hq : q + 1 < text.size) (h1 : text.getD q 0 = 13) (h3 : (text[q + 1]?.getD 0 == 10) = false) :
    ∃ seen', stepN 4 (mk2 text q 10 q q first [fr0 q first] 1 none seen) = mk2 text q 19 q q first [frB q 18 first, fr0 q first] 2 none seen' := by
  refine ⟨(stepN 4 (mk2 text q 10 q q first [fr0 q first] 1 none seen)).seen, ?_⟩
  simp [stepN, mk2, fr0, frB, M.step, M.exec, M.word, M.alternative, M.attempt, M.frame, M.keep, code2, ops, accepts, itemWidth, M.say, M.resume, M.putBack, h1, h3, show ¬ text.size ≤ q from by omega, show ¬ text.size ≤ q + 1 from by omega]
theorem cr_B {text : Array Nat} {q : Nat} (first : Bool) (seen : Seen) (hq : q < text.size) (h1 : text.getD q 0 = 13) :
    ∃ seen', stepN 2 (mk2 text q 19 q q first [frB q 18 first, fr0 q first] 2 none seen) = mk2 text q 24 q q first [frB q 23 first, fr0 q first] 2 none seen' := by
  refine ⟨(stepN 2 (mk2 text q 19 q q first [frB q 18 first, fr0 q first] 2 none seen)).seen, ?_⟩
  simp [stepN, mk2, fr0, frB, M.step, M.exec, M.word, M.alternative, M.attempt, M.frame, M.keep, code2, ops, accepts, itemWidth, M.say, M.resume, M.putBack, h1, show ¬ text.size ≤ q from by omega]
theorem cr_C {text : Array Nat} {q : Nat} (first : Bool) (seen : Seen) (hq : q + 1 < text.size) (h1 : text.getD q 0 = 13) (h3 : (text[q + 1]?.getD 0 == 10) = false) :
    ∃ seen', stepN 4 (mk2 text q 24 q q first [frB q 23 first, fr0 q first] 2 none seen) = mk2 text q 32 (q + 1) (q + 1) first [frB q 23 first, fr0 q first] 2 none seen' := by
  refine ⟨(stepN 4 (mk2 text q 24 q q first [frB q 23 first, fr0 q first] 2 none seen)).seen, ?_⟩
  simp [stepN, mk2, fr0, frB, M.step, M.exec, M.word, M.alternative, M.attempt, M.frame, M.keep, code2, ops, accepts, itemWidth, M.say, M.resume, M.putBack, h1, h3, show ¬ text.size ≤ q from by omega, show ¬ text.size ≤ q + 1 from by omega]
theorem cr_D {text : Array Nat} {q : Nat} (first : Bool) (seen : Seen) :
    ∃ m', stepN 5 (mk2 text q 32 (q + 1) (q + 1) first [frB q 23 first, fr0 q first] 2 none seen) = m' ∧ m'.start = q ∧ m'.handed = q + 1 ∧ m'.outcome = some .matched := by
  refine ⟨_, rfl, ?_⟩
  simp [stepN, mk2, fr0, frB, M.step, M.exec, M.word, M.alternative, M.attempt, M.frame, M.keep, code2, ops, accepts, itemWidth, M.say, M.resume, M.putBack]
theorem run_cr {text : Array Nat} {q : Nat} (first : Bool) (seen : Seen) (hq : q + 1 < text.size) (h1 : text.getD q 0 = 13) (h2 : text.getD (q + 1) 0 ≠ 10) :
    ∃ m', stepN 15 (mk2 text q 10 q q first [fr0 q first] 1 none seen) = m' ∧ m'.start = q ∧ m'.handed = q + 1 ∧ m'.outcome = some .matched := by
  have h3 : (text[q + 1]?.getD 0 == 10) = false := by simpa using h2
  obtain ⟨s1, e1⟩ := cr_A first seen hq h1 h3
  obtain ⟨s2, e2⟩ := cr_B first s1 (by omega) h1
  obtain ⟨s3, e3⟩ := cr_C first s2 hq h1 h3
  obtain ⟨m', e4, r⟩ := cr_D (text := text) (q := q) first s3
  refine ⟨m', ?_, r⟩
  rw [show 15 = 4 + (2 + (4 + 5)) from rfl, stepN_add, e1, stepN_add, e2, stepN_add, e3, e4]

theorem run_cr_end {text : Array Nat} {q : Nat} (first : Bool) (seen : Seen) (hq : q + 1 = text.size) (h1 : text.getD q 0 = 13) :
    ∃ m', stepN 15 (mk2 text q 10 q q first [fr0 q first] 1 none seen) = m' ∧ m'.start = q ∧ m'.handed = q + 1 ∧ m'.outcome = some .matched := by
  refine ⟨_, rfl, ?_⟩
  simp [stepN, mk2, fr0, M.step, M.exec, M.word, M.alternative, M.attempt, M.frame, M.keep, code2, ops, accepts, itemWidth, M.say, M.resume, M.putBack, h1, show ¬ text.size ≤ q from by omega, show text.size ≤ q + 1 from by omega]

/-- where the next line end begins -/
def findNl (text : Array Nat) : Nat → Nat → Option Nat
  | 0, _ => none
  | f + 1, s => if text.size ≤ s then none else if text.getD s 0 = 10 ∨ text.getD s 0 = 13 then some s else findNl text f (s + 1)

theorem admitted2 (m : M) (hm : m.code = code2) (hl : m.lim = m.text.size) : ∀ (f s : Nat) (seen : Seen), ∃ seen', M.admitted m f s seen = .ok (findNl m.text f s, seen')
  | 0, _, seen => ⟨seen, rfl⟩
  | f + 1, s, seen => by
    rw [M.admitted, findNl]
    by_cases h : m.text.size ≤ s
    · exact ⟨seen, by rw [if_pos (by rw [hl]; exact h), if_pos h]⟩
    · rw [if_neg (by rw [hl]; exact h), if_neg h, hm]
      obtain ⟨seen1, e⟩ := inSet2 (m.text.getD s 0) seen
      rw [e]
      by_cases hc : m.text.getD s 0 = 10 ∨ m.text.getD s 0 = 13
      · exact ⟨seen1, by rw [if_pos hc]; simp only [hc, decide_true]⟩
      · rw [if_neg hc]
        simp only [hc, decide_false]
        exact admitted2 m hm hl f (s + 1) seen1

theorem findNl_some {text : Array Nat} : ∀ {f s q : Nat}, findNl text f s = some q → s ≤ q ∧ q < text.size ∧ (text.getD q 0 = 10 ∨ text.getD q 0 = 13)
  | 0, _, _, h => nomatch h
  | f + 1, s, q, h => by
    rw [findNl] at h
    split at h
    · cases h
    · split at h
      · cases h; exact ⟨Nat.le_refl _, by omega, by assumption⟩
      · have := findNl_some h; omega

/-- a match of the second pattern from s on -/
def find2 (text : Array Nat) (s : Nat) : Option (Nat × Nat) :=
  (findNl text (text.size + 1 - s) s).map fun q => (q, if text.getD q 0 = 13 ∧ text.getD (q + 1) 0 = 10 then q + 2 else q + 1)

/-- the machine comes to its end, as r says -/
def Says (m : M) : Option (Nat × Nat) → Prop
  | none => m.outcome = some .failed
  | some (b, e) => m.outcome = some .matched ∧ m.start = b ∧ m.handed = e
def Ends (N : Nat) (m : M) (r : Option (Nat × Nat)) : Prop := ∃ n m', stepN n m = m' ∧ Says m' r ∧ n ≤ N

theorem ends2 (text : Array Nat) (s : Nat) (hs : s ≤ text.size) : Ends 15 (forSearch code2 text 0 s text.size false) (find2 text s) := by
  by_cases he : s = text.size
  · subst he
    refine ⟨2, _, rfl, ?_, by decide⟩
    have e : find2 text text.size = none := by simp [find2, findNl]
    rw [e]
    have e2 : forSearch code2 text 0 text.size text.size false = M.say { code := code2, text, lim := text.size, start := text.size, pc := 10, pos := text.size, handed := text.size, marks := #[], seen := ({} : Seen).add 14 } false := by
      unfold forSearch
      rw [if_pos]
      · rfl
      · simp [header, code2, ops]
    rw [e2]
    rfl
  · have hlt : s < text.size := by omega
    obtain ⟨seen', ha⟩ := admitted2 { code := code2, text, lim := text.size, start := s, lastStart := text.size, pc := 10, pos := s, handed := s, marks := #[], seen := ({} : Seen).add 14 } rfl rfl (text.size + 1 - s) s (({} : Seen).add 14)
    have e2 : forSearch code2 text 0 s text.size false = M.attemptFrom { code := code2, text, lim := text.size, start := s, lastStart := text.size, pc := 10, pos := s, handed := s, marks := #[], seen := ({} : Seen).add 14 } s true := by
      unfold forSearch
      rw [if_neg]
      · rfl
      · simp [header, code2, ops]; omega
    rw [e2]
    unfold find2
    dsimp only at ha
    cases hf : findNl text (text.size + 1 - s) s with
    | none =>
      refine ⟨2, _, rfl, ?_, by decide⟩
      have e3 : M.attemptFrom { code := code2, text, lim := text.size, start := s, lastStart := text.size, pc := 10, pos := s, handed := s, marks := #[], seen := ({} : Seen).add 14 } s true = M.say { code := code2, text, lim := text.size, start := s, lastStart := text.size, pc := 10, pos := s, handed := s, marks := #[], seen := seen' } false := by
        unfold M.attemptFrom
        rw [if_neg (by simp [M.hasFirstSet, code2, ops])]
        dsimp only
        rw [ha, hf]
      rw [e3]
      rfl
    | some q =>
      obtain ⟨hsq, hqn, hc⟩ := findNl_some hf
      have e3 : M.attemptFrom { code := code2, text, lim := text.size, start := s, lastStart := text.size, pc := 10, pos := s, handed := s, marks := #[], seen := ({} : Seen).add 14 } s true = mk2 text q 10 q q true [fr0 q true] 1 none seen' := by
        unfold M.attemptFrom
        rw [if_neg (by simp [M.hasFirstSet, code2, ops])]
        dsimp only
        rw [ha, hf]
        rfl
      rw [e3]
      dsimp only [Option.map_some]
      rcases hc with h10 | h13
      · obtain ⟨m', h1, h2, h3, h4⟩ := run_lf true seen' hqn h10
        refine ⟨12, m', h1, ?_, by decide⟩
        rw [if_neg (by rw [h10]; simp)]
        exact ⟨h4, h2, h3⟩
      · by_cases hq1 : q + 1 < text.size
        · by_cases h2 : text.getD (q + 1) 0 = 10
          · obtain ⟨m', h1, h2', h3, h4⟩ := run_crlf true seen' hq1 h13 h2
            refine ⟨9, m', h1, ?_, by decide⟩
            rw [if_pos ⟨h13, h2⟩]
            exact ⟨h4, h2', h3⟩
          · obtain ⟨m', h1, h2', h3, h4⟩ := run_cr true seen' hq1 h13 h2
            refine ⟨15, m', h1, ?_, by decide⟩
            rw [if_neg (fun x => h2 x.2)]
            exact ⟨h4, h2', h3⟩
        · obtain ⟨m', h1, h2', h3, h4⟩ := run_cr_end true seen' (by omega) h13
          refine ⟨15, m', h1, ?_, by decide⟩
          rw [if_neg (fun x => by have z := getD_out (text := text) (q := q + 1) (by omega); rw [z] at x; exact absurd x.2 (by decide))]
          exact ⟨h4, h2', h3⟩
end Mine
end

-- part Re3
section
open PySem PySem.Sre
set_option maxRecDepth 20000
set_option linter.unusedSimpArgs false
namespace Mine
/-- the machine of the first pattern, as it may stand -/
def mk1 (text : Array Nat) (s : Nat) (first : Bool) (seen : Seen) : M :=
  { code := code1, text, lim := text.size, start := s, lastStart := text.size, pc := 5, pos := s, handed := s, outermost := first, marks := #[], frames := [{ wait := .nextStart, pc := 5, pos := s, outermost := first }], weight := 1, seen }
/-- a place at a line's start that bears a dot -/
def dotAt (text : Array Nat) (s : Nat) : Bool := (s == 0 || text.getD (s - 1) 0 == 10) && decide (s < text.size) && text.getD s 0 == 46
def findDot (text : Array Nat) : Nat → Nat → Option Nat
  | 0, _ => none
  | f + 1, s => if dotAt text s then some s else findDot text f (s + 1)

theorem one_yes {text : Array Nat} {s : Nat} (first : Bool) (seen : Seen) (h : dotAt text s = true) : Ends 5 (mk1 text s first seen) (some (s, s + 1)) := by
  simp only [dotAt, Bool.and_eq_true, Bool.or_eq_true, beq_iff_eq, decide_eq_true_eq] at h
  obtain ⟨⟨h1, h2⟩, h3⟩ := h
  refine ⟨5, _, rfl, ?_, by decide⟩
  have h1' : (s == 0 || text[s - 1]?.getD 0 == 10) = true := by simpa using h1
  simp [Says, stepN, mk1, M.step, M.exec, M.word, M.isAt, M.alternative, M.attempt, M.frame, M.keep, code1, ops, accepts, itemWidth, M.say, M.resume, M.putBack, h1', h3, show ¬ text.size ≤ s from by omega, -Bool.or_eq_true, -beq_iff_eq]

theorem one_no {text : Array Nat} {s : Nat} (first : Bool) (seen : Seen) (h : dotAt text s = false) (hs : s < text.size) : ∃ n seen', stepN n (mk1 text s first seen) = mk1 text (s + 1) false seen' ∧ n ≤ 3 := by
  by_cases h1 : (s == 0 || text[s - 1]?.getD 0 == 10) = true
  · refine ⟨3, (stepN 3 (mk1 text s first seen)).seen, ?_, by decide⟩
    have h3 : (text[s]?.getD 0 == 46) = false := by
      cases q : (text[s]?.getD 0 == 46) with
      | false => rfl
      | true =>
        exfalso
        have : dotAt text s = true := by
          unfold dotAt
          simp only [Array.getD_eq_getD_getElem?]
          rw [h1, q, decide_eq_true hs]; rfl
        rw [this] at h; cases h
    have h4 : (text[s] == 46) = false := by rw [← h3]; simp [hs]
    simp [stepN, mk1, M.step, M.exec, M.word, M.isAt, M.attemptFrom, M.attemptAt, M.hasFirstSet, M.alternative, M.attempt, M.frame, M.keep, code1, ops, accepts, itemWidth, M.say, M.resume, M.putBack, h1, h3, h4, hs, show ¬ text.size ≤ s from by omega, -Bool.or_eq_true, -beq_iff_eq]
  · have h1' : (s == 0 || text[s - 1]?.getD 0 == 10) = false := by simpa only [Bool.not_eq_true] using h1
    refine ⟨2, (stepN 2 (mk1 text s first seen)).seen, ?_, by decide⟩
    simp [stepN, mk1, M.step, M.exec, M.word, M.isAt, M.attemptFrom, M.attemptAt, M.hasFirstSet, M.alternative, M.attempt, M.frame, M.keep, code1, ops, accepts, itemWidth, M.say, M.resume, M.putBack, h1', hs, show ¬ text.size ≤ s from by omega, -Bool.or_eq_true, -beq_iff_eq, -Bool.or_eq_false_iff]
theorem one_end {text : Array Nat} (first : Bool) (seen : Seen) : Ends 5 (mk1 text text.size first seen) none := by
  by_cases h1 : (text.size == 0 || text[text.size - 1]?.getD 0 == 10) = true
  · refine ⟨4, _, rfl, ?_, by decide⟩
    simp [Says, stepN, mk1, M.step, M.exec, M.word, M.isAt, M.attemptFrom, M.attemptAt, M.hasFirstSet, M.alternative, M.attempt, M.frame, M.keep, code1, ops, accepts, itemWidth, M.say, M.resume, M.putBack, h1, -Bool.or_eq_true, -beq_iff_eq]
  · have h1' : (text.size == 0 || text[text.size - 1]?.getD 0 == 10) = false := by simpa only [Bool.not_eq_true] using h1
    refine ⟨3, _, rfl, ?_, by decide⟩
    simp [Says, stepN, mk1, M.step, M.exec, M.word, M.isAt, M.attemptFrom, M.attemptAt, M.hasFirstSet, M.alternative, M.attempt, M.frame, M.keep, code1, ops, accepts, itemWidth, M.say, M.resume, M.putBack, h1', -Bool.or_eq_true, -beq_iff_eq, -Bool.or_eq_false_iff]

theorem Ends.more {m m' : M} {r} {n N : Nat} (h : stepN n m = m') (e : Ends N m' r) : Ends (n + N) m r := by
  obtain ⟨k, m2, h2, hs, hn⟩ := e
  exact ⟨n + k, m2, by rw [stepN_add, h, h2], hs, by omega⟩
theorem Ends.le {m : M} {r} {N N' : Nat} (e : Ends N m r) (h : N ≤ N') : Ends N' m r := by
  obtain ⟨k, m2, h2, hs, hn⟩ := e
  exact ⟨k, m2, h2, hs, by omega⟩
def find1 (text : Array Nat) (s : Nat) : Option (Nat × Nat) := (findDot text (text.size + 1 - s) s).map fun q => (q, q + 1)
theorem ends_mk1 (text : Array Nat) : ∀ (k s : Nat) (first : Bool) (seen : Seen), s + k = text.size → Ends (3 * k + 5) (mk1 text s first seen) ((findDot text (k + 1) s).map fun q => (q, q + 1))
  | 0, s, first, seen, h => by
    have : s = text.size := by omega
    subst this
    have e : dotAt text text.size = false := by simp [dotAt]
    simp only [findDot, e]
    exact one_end first seen
  | k + 1, s, first, seen, h => by
    rw [findDot]
    cases e : dotAt text s with
    | true => exact (one_yes first seen e).le (by omega)
    | false =>
      obtain ⟨n, seen', h1, hn⟩ := one_no first seen e (by omega)
      exact (Ends.more h1 (ends_mk1 text k (s + 1) false seen' (by omega))).le (by omega)
theorem ends1 (text : Array Nat) (s : Nat) (hs : s ≤ text.size) : Ends (3 * text.size + 5) (forSearch code1 text 0 s text.size false) (find1 text s) := by
  by_cases he : s = text.size
  · subst he
    refine ⟨2, _, rfl, ?_, by omega⟩
    have e : find1 text text.size = none := by simp [find1, findDot, dotAt]
    rw [e]
    have e2 : forSearch code1 text 0 text.size text.size false = M.say { code := code1, text, lim := text.size, start := text.size, pc := 5, pos := text.size, handed := text.size, marks := #[], seen := ({} : Seen).add 14 } false := by
      unfold forSearch
      rw [if_pos]
      · rfl
      · simp [header, code1, ops]
    rw [e2]
    rfl
  · have e2 : forSearch code1 text 0 s text.size false = mk1 text s true (({} : Seen).add 14) := by
      unfold forSearch
      rw [if_neg]
      · rfl
      · simp [header, code1, ops]; omega
    rw [e2]
    unfold find1
    rw [show text.size + 1 - s = (text.size - s) + 1 from by omega]
    exact (ends_mk1 text (text.size - s) s true _ (by omega)).le (by omega)
end Mine
end

-- part Sub
section
open PySem PySem.Sre PySem.W PyProof.Rows PySem.Builtin.Re
set_option maxRecDepth 20000
namespace Mine
section
variable {M : Model} {A : Around} {E : Value → Shared → Prop} {s : Shared}
theorem Says.some {m : PySem.Sre.M} {r} (h : Says m r) : m.outcome.isSome = true := by
  cases r with
  | none => rw [show m.outcome = _ from h]; rfl
  | some p => rw [h.1]; rfl

theorem wp_drive {Q : PySem.Sre.M → Shared → Prop} : ∀ (fuel n : Nat) (m : PySem.Sre.M), n < fuel → (stepN n m).outcome.isSome = true → Q (stepN n m) s → wpAny M A (reDrive fuel m) Q E s
  | 0, _, _, h, _, _ => absurd h (Nat.not_lt_zero _)
  | fuel + 1, n, m, h, hd, hQ => by
    unfold reDrive
    dsimp only
    rw [runFor_eq]
    by_cases h4 : (stepN reTurnSteps m).outcome.isSome = true
    · rw [if_pos h4]
      have e : stepN reTurnSteps m = stepN n m := by
        by_cases hn : n ≤ reTurnSteps
        · have := stepN_add n (reTurnSteps - n) m
          rw [Nat.add_sub_cancel' hn] at this
          rw [this, stepN_done hd]
        · have := stepN_add reTurnSteps (n - reTurnSteps) m
          rw [Nat.add_sub_cancel' (by omega)] at this
          rw [this, stepN_done h4]
      rw [e]
      exact wpAny_pure hQ
    · rw [if_neg h4]
      have hn : reTurnSteps ≤ n := by
        refine Nat.le_of_not_lt fun q => h4 ?_
        have := stepN_add n (reTurnSteps - n) m
        rw [Nat.add_sub_cancel' (Nat.le_of_lt q)] at this
        rw [this, stepN_done hd]; exact hd
      have e := stepN_add reTurnSteps (n - reTurnSteps) m
      rw [Nat.add_sub_cancel' hn] at e
      have hr : reTurnSteps = 4 := rfl
      refine wpAny_bind (wpAny_rule (wp_drive fuel (n - reTurnSteps) _ (by omega) (by rw [← e]; exact hd) (by rw [← e]; exact hQ)))

theorem wp_rules {c : Nat → Bool} {f : Nat → String} {Q : PUnit → Shared → Prop} (h : Q PUnit.unit s) : ∀ l : List Nat,
    wpAny M A (forIn l PUnit.unit fun i _ => if c i = true then do
        rule (f i)
        pure (ForInStep.yield PUnit.unit)
      else pure (ForInStep.yield PUnit.unit)) Q E s
  | [] => wpAny_pure h
  | a :: l => by
    rw [List.forIn_cons]
    refine wpAny_bind ?_
    by_cases hc : c a = true
    · rw [if_pos hc]
      exact wpAny_bind (wpAny_rule (wpAny_pure (wp_rules h l)))
    · rw [if_neg hc]
      exact wpAny_pure (wp_rules h l)

theorem wp_runToEnd {Q : Option PySem.Sre.M → Shared → Prop} {m : PySem.Sre.M} {r} {N : Nat} (h : Ends N m r) (hN : N < 2 ^ 64)
    (hQ : match r with | none => Q none s | some (b, e) => ∀ m', m'.start = b → m'.handed = e → Q (some m') s) : wpAny M A (reRunToEnd m) Q E s := by
  obtain ⟨n, m', rfl, hs, hn⟩ := h
  unfold reRunToEnd
  refine wpAny_bind (wp_drive _ n m (by omega) hs.some ?_)
  refine wpAny_bind (wp_rules ?_ _)
  cases r with
  | none =>
    rw [show (stepN n m).outcome = _ from hs]
    exact wpAny_pure hQ
  | some p =>
    obtain ⟨h1, h2, h3⟩ := hs
    rw [h1]
    exact wpAny_pure (hQ _ h2 h3)
end

def pieces (find : Array Nat → Nat → Option (Nat × Nat)) (x repl : Str) : Nat → Nat → List Str
  | 0, _ => []
  | k + 1, d => match find x.cps d with
    | some (b, e) => (if d < b then [⟨x.cps.extract d b⟩] else []) ++ repl :: pieces find x repl k e
    | none => if d < x.cps.size then [⟨x.cps.extract d x.cps.size⟩] else []

theorem entry_loop : entryFor table "re.Pattern.sub.loop" = some Builtin.«re.Pattern.sub.loop» := entryFor_of_tree (by kernel_rfl)
theorem entry_sub : entryFor table "re.Pattern.sub" = some Builtin.«re.Pattern.sub» := entryFor_of_tree (by kernel_rfl)

theorem strs_snoc {vs : List Value} {ys : List Str} {y : Str} {t : Tok} (h : StrsAre vs ys) : StrsAre (vs ++ [.str y t]) (ys ++ [y]) := by
  induction h with
  | nil => exact .cons _ _ .nil
  | cons _ _ _ ih => exact .cons _ _ ih

theorem push_list {h : Heap} {l : Addr} {vs : List Value} {n : Nat} (v : Value) (hl : h.get? l = some (listOf vs.toArray n)) : (h.update l (Obj.mapSeq (·.push v))).get? l = some (listOf (vs ++ [v]).toArray (n + 1)) := by
  rw [Heap.get?_update_self _ hl rfl]
  simp [Obj.mapSeq]
theorem push_other {h : Heap} {l b : Addr} {f : Obj → Obj} (hb : b ≠ l) {o : Obj} (e : h.get? b = some o) : (h.update l f).get? b = some o := by
  rw [Heap.get?_update_ne _ _ _ _ hb]; exact e

theorem In_keepL {w : World} {h g : Heap} {l : Addr} {its : Array Value} {n : Nat} (X : (hd.heap_39 w.params).In h) (hl : h.get? l = some (listOf its n)) (hg : ∀ b o, b ≠ l → h.get? b = some o → g.get? b = some o) : (hd.heap_39 w.params).In g :=
  In_hide (as := [l]) X (fun b hb => by rw [List.mem_singleton.mp hb]; exact .inl ⟨_, _, hl⟩) fun b o e hb => hg b o (by simpa using hb) e
theorem wp_slice {M : Model} {A : Around} {E : Value → Shared → Prop} {s : Shared} {text : Array Nat} {b e : Nat} {Q : Value → Shared → Prop} (hx : text.size ≤ 2 ^ 20)
    (h : Q (.str ⟨text.extract b e⟩ s.toks) { s with toks := s.toks + 1 }) : wpAny M A (reSlice text 0 b e) Q E s := by
  unfold reSlice
  rw [if_pos (by rfl)]
  exact wpAny_mkStr h (by show (text.extract b e).size ≤ sizeLine; rw [Array.size_extract, sizeLine_eq]; omega)
theorem tail_C {w : World} {A : Around} {E : Value → Shared → Prop} {s : Shared} {text : Array Nat} {l : Addr} {vs : List Value} {ys : List Str} {ep : Nat} {Q : Fin → Shared → Prop}
    (hx : text.size ≤ 2 ^ 20) (hl : s.heap.get? l = some (listOf vs.toArray ep)) (hs : StrsAre vs ys) (hsum : (ys.map (·.length)).sum ≤ 16777216)
    (h : ∀ tk t', Q (.done (.ret (.str (Txt.join (Str.ofString "") ys) t'))) { s with toks := tk }) :
    wpAny (model Challenge.rw_re0038_01.row.prog w) A (do
      let joiner ← reSlice text 0 0 0
      let it ← seqItems? (.ref l)
      if (it.getD #[]).isEmpty = true then do
          let v ← pure joiner
          ret v
        else do
          let v ← call (.builtin "str.join") [joiner, .ref l]
          ret v) Q E s := by
  refine wpAny_bind (wp_slice hx ?_)
  have e0 : (⟨text.extract 0 0⟩ : Str) = Str.ofString "" := by
    have : text.extract 0 0 = #[] := by simp
    rw [this]; rfl
  refine wpAny_bind ?_
  unfold seqItems?
  refine wpAny_bind (wpAny_load (o := listOf vs.toArray ep) hl (wpAny_pure ?_))
  dsimp only [Option.getD_some]
  cases hs with
  | nil =>
    rw [if_pos (show (#[] : Array Value).isEmpty = true from rfl)]
    refine wpAny_bind (wpAny_pure ?_)
    rw [e0]
    exact wpAny_pure (h _ _)
  | cons y t hs =>
    rw [if_neg (by simp)]
    refine wpAny_bind ?_
    rw [e0]
    refine join_list (items := _) ⟨_, hl, rfl, _, rfl⟩ (.cons y t hs) (by rw [show (Str.ofString "").length = 0 from rfl]; omega) ?_
    intro t' k
    exact wpAny_pure (h _ _)

theorem loop_C {w : World} {A : Around} {R : Result → Shared → Prop} {P : Addr} {code : Array Nat} {find : Array Nat → Nat → Option (Nat × Nat)} {x repl : Str} {t tr : Tok} {l : Addr}
    (hT : ∀ S, peek (hd.heap_39 w.params) S (reWholeTarget (.ref P) (.str x t)) = some ⟨.ref P, .str x t, code, x.cps, 0, 0, 0, x.cps.size⟩)
    (hE : ∀ s, s ≤ x.cps.size → Ends (3 * x.cps.size + 15) (forSearch code x.cps 0 s x.cps.size false) (find x.cps s))
    (hF : ∀ s b e, s ≤ x.cps.size → find x.cps s = some (b, e) → s ≤ b ∧ b < e ∧ e ≤ x.cps.size) (hx : x.cps.size ≤ 2 ^ 20) :
    ∀ (k d : Nat) (n : Int) (s : Shared) (vs : List Value) (ys : List Str) (ep : Nat), x.cps.size < d + k → d ≤ x.cps.size → (hd.heap_39 w.params).In s.heap → s.heap.get? l = some (listOf vs.toArray ep) → StrsAre vs ys →
      vs.length + (pieces find x repl k d).length ≤ 2 ^ 23 → ((ys ++ pieces find x repl k d).map (·.length)).sum ≤ 16777216 →
      (∀ h' tk t', (∀ b o, b ≠ l → s.heap.get? b = some o → h'.get? b = some o) → R (.ok (.ret (.str (Txt.join (Str.ofString "") (ys ++ pieces find x repl k d)) t'))) { s with heap := h', toks := tk }) →
      codeAny (model Challenge.rw_re0038_01.row.prog w) A (.builtin "re.Pattern.sub.loop" ⟨[.ref P, .str x t, .str repl tr, rawInt 0, rawInt 0, rawInt n, rawInt d, rawInt d, .bool false, .ref l, .bool false], []⟩) R s := by
  intro k
  induction k with
  | zero => intro d n s vs ys ep h1 h2; omega
  | succ k ih =>
    intro d n s vs ys ep hk hdx X hl hs hlen hsum hR
    refine codeAny_builtin entry_loop ?_
    unfold Builtin.«re.Pattern.sub.loop»
    dsimp only [rawInt]
    refine wpAny_bind ((Looks.of_peek X (hT _)).here ?_)
    simp only [beq_self_eq_true, if_true, bne_self_eq_false, Bool.false_and, Bool.false_eq_true, if_false, Int.toNat_natCast]
    refine wpAny_bind (wpAny_of_eq (a := ()) rfl ?_)
    unfold reNextFound
    dsimp only
    have hvl : vs.length ≤ sizeLine := by rw [sizeLine_eq]; omega
    refine wpAny_bind (wp_runToEnd (hE d hdx) (by omega) ?_)
    rw [pieces] at hlen hsum hR
    cases hf : find x.cps d with
    | none =>
      dsimp only
      rw [hf] at hlen hsum hR
      dsimp only at hlen hsum hR
      by_cases hdd : d < x.cps.size
      · rw [if_pos hdd] at hlen hsum hR
        rw [if_pos hdd]
        refine wpAny_bind (wp_slice hx ?_)
        refine wpAny_bind (wpAny_updateSeq hl rfl ?_ (by simpa using hvl) (by simp; omega))
        refine tail_C hx (push_list _ hl) (strs_snoc hs) hsum ?_
        intro tk t'
        exact hR _ _ _ fun b o hb e => push_other hb e
      · rw [if_neg hdd] at hlen hsum hR
        rw [if_neg hdd]
        rw [List.append_nil] at hsum hR
        refine tail_C hx hl hs hsum ?_
        intro tk t'
        exact hR _ _ _ fun b o hb e => e
    | some p =>
      obtain ⟨b, e⟩ := p
      obtain ⟨hb1, hb2, hb3⟩ := hF d b e hdx hf
      rw [hf] at hlen hsum hR
      dsimp only at hlen hsum hR
      intro m' hm1 hm2
      subst hm1 hm2
      have hne : (m'.handed == m'.start) = false := by simp; omega
      have hv : (Value.str repl tr != Value.none) = true := rfl
      by_cases hdb : d < m'.start
      · rw [if_pos hdb] at hlen hsum hR
        dsimp only
        rw [if_pos hdb]
        refine wpAny_bind (wp_slice hx ?_)
        refine wpAny_bind (wpAny_updateSeq hl rfl ?_ (by simpa using hvl) (by simp; omega))
        have hl2 := push_list (Value.str ⟨x.cps.extract d m'.start⟩ s.toks) hl
        refine wpAny_bind (wpAny_pure ?_)
        rw [if_pos hv]
        simp only [List.cons_append, List.nil_append, List.length_cons] at hlen
        refine wpAny_bind (wpAny_updateSeq hl2 rfl ?_ (by simp [sizeLine_eq]; omega) (by simp [sizeLine_eq]; omega))
        have hl3 := push_list (Value.str repl tr) hl2
        refine wpAny_pure ⟨plainId_quiet (by decide +kernel) _, ?_⟩
        rw [hne]
        have e3 : ys ++ ([(⟨x.cps.extract d m'.start⟩ : Str)] ++ repl :: pieces find x repl k m'.handed) = ys ++ [(⟨x.cps.extract d m'.start⟩ : Str)] ++ [repl] ++ pieces find x repl k m'.handed := by simp
        rw [e3] at hsum hR
        refine ih m'.handed (n + 1) _ _ _ _ (by omega) hb3 ?_ hl3 (strs_snoc (strs_snoc hs)) (by simp; omega) hsum ?_
        · exact In_keepL X hl fun b o hb e => push_other hb (push_other hb e)
        · intro h' tk t' hk'
          exact hR _ _ _ fun b o hb e => hk' b o hb (push_other hb (push_other hb e))
      · rw [if_neg hdb] at hlen hsum hR
        dsimp only
        rw [if_neg hdb]
        refine wpAny_bind (wpAny_pure ?_)
        rw [if_pos hv]
        simp only [List.nil_append, List.length_cons] at hlen
        refine wpAny_bind (wpAny_updateSeq hl rfl ?_ (by simpa using hvl) (by simp; omega))
        have hl3 := push_list (Value.str repl tr) hl
        refine wpAny_pure ⟨plainId_quiet (by decide +kernel) _, ?_⟩
        rw [hne]
        have e3 : ys ++ ([] ++ repl :: pieces find x repl k m'.handed) = ys ++ [repl] ++ pieces find x repl k m'.handed := by simp
        rw [e3] at hsum hR
        refine ih m'.handed (n + 1) _ _ _ _ (by omega) hb3 ?_ hl3 (strs_snoc hs) (by simp; omega) hsum ?_
        · exact In_keepL X hl fun b o hb e => push_other hb e
        · intro h' tk t' hk'
          exact hR _ _ _ fun b o hb e => hk' b o hb (push_other hb e)
end Mine
end

-- part Quo
section
open PySem PySem.Sre PySem.W PySem.Calls PyProof.Rows PySem.Builtin.Re
set_option maxRecDepth 100000
set_option maxHeartbeats 4000000
namespace Mine
theorem wp_peek1 {α : Type} {K : Frag} {M : Model} {A : Around} {E : Value → Shared → Prop} {Q : α → Shared → Prop} {s : Shared} {o : Obj} {r : Addr → α} (X : K.In s.heap) :
    ∀ (t : Sem α), (∀ D, (peek1 K ⟨M.prog, M.w.params⟩ t).map (fun p => (p.1, p.2 D)) = some (o, some (r D))) →
      (Q (r s.heap.objs.size) { s with heap := s.heap.push o }) → wpAny M A t Q E s := by
  intro t
  induction t with
  | rule _ k ih => intro e q Γ p hΓ; exact ih () e q Γ p hΓ
  | point _ k ih => intro e q Γ p hΓ; exact ih () e q Γ p hΓ
  | ask k ih => intro e q Γ p hΓ; exact ih _ e q Γ p hΓ
  | load a _ k ih =>
    intro e q Γ p hΓ
    simp only [peek1] at e
    cases ho : K.lookup a with
    | none => rw [ho] at e; exact nomatch e 0
    | some ob => rw [ho] at e; exact ⟨ob, X _ _ ho, ih ob e q Γ p hΓ⟩
  | alloc ob k _ =>
    intro e q
    have e1 := e s.heap.objs.size
    simp only [peek1, Option.map_some, Option.some.injEq, Prod.mk.injEq] at e1
    obtain ⟨rfl, e2⟩ := e1
    have X' : K.In (s.heap.push ob) := X.keeps fun b x hb => Heap.get?_push_of_some _ hb
    show wpAny M A (alloc ob >>= k) Q E s
    refine wpAny_bind (wpAny_alloc ?_)
    exact (Looks.of_peek (M := M) (h := s.heap.push ob) X' e2).here (s := { s with heap := s.heap.push ob }) q
  | _ => intro e; exact nomatch e 0

theorem slot_sub : Slot "re.Pattern" (Str.ofString "sub") "re.Pattern.sub" :=
  .of (owner := "re.Pattern") (n := "sub") (by rw [typeLookup_type, builtinLookup_eq_fast]; kernel_rfl) (by decide +kernel) (by decide +kernel) (by decide +kernel)
    (by first | exact .inl (by decide +kernel) | exact .inr (by decide +kernel)) (by rw [isSubtype_type]; kernel_rfl)
theorem type_sub : typeOf (.builtin "re.Pattern.sub") = pure (.type "method_descriptor") := by show builtinType _ = _; rw [builtinType_eq_fast]; kernel_rfl
theorem args_sub (a b c : Value) : argsOk "re.Pattern.sub" ⟨[a, b, c], []⟩ := by
  unfold argsOk; kernel_rfl

theorem target2 (P : Params) (x : Str) (t : Tok) (S : Setting) : peek (hd.heap_39 P) S (reWholeTarget (.ref 75) (.str x t)) = some ⟨.ref 75, .str x t, code2, x.cps, 0, 0, 0, x.cps.size⟩ := by kernel_rfl
theorem target1 (P : Params) (x : Str) (t : Tok) (S : Setting) : peek (hd.heap_39 P) S (reWholeTarget (.ref 70) (.str x t)) = some ⟨.ref 70, .str x t, code1, x.cps, 0, 0, 0, x.cps.size⟩ := by kernel_rfl

theorem sub_peek2 (P : Params) (x : Str) (t tr : Tok) (S : Setting) (D : Addr) :
    (peek1 (hd.heap_39 P) S (Builtin.«re.Pattern.sub» ⟨[.ref 75, .str (Str.ofString "\r\n") tr, .str x t], []⟩)).map (fun p => (p.1, p.2 D)) =
      some (listOf #[] 0, some (.again (.builtin "re.Pattern.sub.loop" ⟨[.ref 75, .str x t, .str (Str.ofString "\r\n") tr, rawInt 0, rawInt 0, rawInt 0, rawInt 0, rawInt 0, .bool false, .ref D, .bool false], []⟩))) := by kernel_rfl
theorem sub_peek1 (P : Params) (x : Str) (t tr : Tok) (S : Setting) (D : Addr) :
    (peek1 (hd.heap_39 P) S (Builtin.«re.Pattern.sub» ⟨[.ref 70, .str (Str.ofString "..") tr, .str x t], []⟩)).map (fun p => (p.1, p.2 D)) =
      some (listOf #[] 0, some (.again (.builtin "re.Pattern.sub.loop" ⟨[.ref 70, .str x t, .str (Str.ofString "..") tr, rawInt 0, rawInt 0, rawInt 0, rawInt 0, rawInt 0, .bool false, .ref D, .bool false], []⟩))) := by kernel_rfl

theorem pieces_len (find : Array Nat → Nat → Option (Nat × Nat)) (x repl : Str) : ∀ k d, (pieces find x repl k d).length ≤ 2 * k
  | 0, _ => Nat.le_refl _
  | k + 1, d => by
    rw [pieces]
    split
    · rename_i b e _
      have := pieces_len find x repl k e
      split <;> simp <;> omega
    · split <;> simp <;> omega
theorem pieces_sum (find : Array Nat → Nat → Option (Nat × Nat)) (x repl : Str) (hr : repl.length ≤ 2) : ∀ k d, ((pieces find x repl k d).map (·.length)).sum ≤ k * (x.cps.size + 2)
  | 0, _ => Nat.zero_le _
  | k + 1, d => by
    rw [pieces, Nat.add_mul]
    have hx : ∀ b e : Nat, (⟨x.cps.extract b e⟩ : Str).length ≤ x.cps.size := fun b e => by
      show (x.cps.extract b e).size ≤ _
      rw [Array.size_extract]; omega
    split
    · rename_i b e _
      have h1 := pieces_sum find x repl hr k e
      have h2 := hx d b
      split <;> simp <;> omega
    · have h2 := hx d x.cps.size
      split <;> simp <;> omega

theorem foldl_cps : ∀ (l : List Str) (a : Array Nat), (l.foldl (fun acc p => acc ++ (Str.ofString "").cps ++ p.cps) a).toList = a.toList ++ (l.map (fun y => y.cps.toList)).flatten
  | [], a => by simp
  | p :: l, a => by
    rw [List.foldl_cons, foldl_cps l]
    have : (Str.ofString "").cps = #[] := rfl
    simp [this]
theorem join_cps (ys : List Str) : (Txt.join (Str.ofString "") ys).cps.toList = (ys.map (fun y => y.cps.toList)).flatten := by
  cases ys with
  | nil => rfl
  | cons y ys =>
    show (List.foldl (fun acc p => acc ++ (Str.ofString "").cps ++ p.cps) y.cps ys).toList = _
    rw [foldl_cps]; simp
theorem join_size (ys : List Str) : (Txt.join (Str.ofString "") ys).cps.size = (ys.map (·.length)).sum := by
  rw [← Array.length_toList, join_cps, List.length_flatten, List.map_map]
  rfl

/-- what sub makes -/
def subOf (find : Array Nat → Nat → Option (Nat × Nat)) (repl x : Str) : Str := Txt.join (Str.ofString "") (pieces find x repl (x.cps.size + 1) 0)

theorem subOf_size (find : Array Nat → Nat → Option (Nat × Nat)) (repl x : Str) (hr : repl.length ≤ 2) : (subOf find repl x).cps.size ≤ (x.cps.size + 1) * (x.cps.size + 2) := by
  unfold subOf
  rw [join_size]
  exact pieces_sum find x repl hr _ _
theorem sub_C {w : World} {A : Around} {s : Shared} {Q E : Value → Shared → Prop} {P : Addr} {code : Array Nat} {find : Array Nat → Nat → Option (Nat × Nat)} {x repl : Str} {t tr : Tok} {o : Obj}
    (X : (hd.heap_39 w.params).In s.heap) (hP : s.heap.get? P = some o) (hc : o.cls = .type "re.Pattern") (hx : x.cps.size ≤ 3000) (hr : repl.length ≤ 2)
    (hT : ∀ S, peek (hd.heap_39 w.params) S (reWholeTarget (.ref P) (.str x t)) = some ⟨.ref P, .str x t, code, x.cps, 0, 0, 0, x.cps.size⟩)
    (hS : ∀ S D, (peek1 (hd.heap_39 w.params) S (Builtin.«re.Pattern.sub» ⟨[.ref P, .str repl tr, .str x t], []⟩)).map (fun p => (p.1, p.2 D)) =
      some (listOf #[] 0, some (.again (.builtin "re.Pattern.sub.loop" ⟨[.ref P, .str x t, .str repl tr, rawInt 0, rawInt 0, rawInt 0, rawInt 0, rawInt 0, .bool false, .ref D, .bool false], []⟩))))
    (hE : ∀ s, s ≤ x.cps.size → Ends (3 * x.cps.size + 15) (forSearch code x.cps 0 s x.cps.size false) (find x.cps s))
    (hF : ∀ s b e, s ≤ x.cps.size → find x.cps s = some (b, e) → s ≤ b ∧ b < e ∧ e ≤ x.cps.size)
    (hQ : ∀ h' tk t', Le s.heap h' → Q (.str (subOf find repl x) t') { s with heap := h', toks := tk }) :
    wpAny (model Challenge.rw_re0038_01.row.prog w) A (call (.builtin "re.Pattern.sub") [.ref P, .str repl tr, .str x t]) Q E s := by
  refine wpAny_call (codeAny_call_builtin slot_sub.plain entry_sub (slot_sub.check _ _ _ _ _ _ _ _ ⟨o, hP, hc⟩ (args_sub _ _ _) ?_))
  refine wp_peek1 X _ (fun D => hS _ D) ?_
  refine ⟨plainId_quiet (by decide +kernel) _, ?_⟩
  have hl := pieces_len find x repl (x.cps.size + 1) 0
  have hs := pieces_sum find x repl hr (x.cps.size + 1) 0
  have hm : (x.cps.size + 1) * (x.cps.size + 2) ≤ 3001 * 3002 := Nat.mul_le_mul (by omega) (by omega)
  refine loop_C (find := find) hT hE hF (by omega) (x.cps.size + 1) 0 0 _ [] [] 0 (by omega) (Nat.zero_le _) (X.keeps fun b x hb => Heap.get?_push_of_some _ hb) (Heap.get?_push_size _ rfl) .nil (by simp; omega) (by simp only [List.nil_append]; omega) ?_
  intro h' tk t' hk
  exact hQ _ _ _ fun b o e => hk b o (Nat.ne_of_lt (Heap.lt_size e)) (Heap.get?_push_of_some _ e)

theorem find2_ok {text : Array Nat} {s b e : Nat} (h : find2 text s = some (b, e)) : s ≤ b ∧ b < e ∧ e ≤ text.size := by
  unfold find2 at h
  obtain ⟨q, hq, he⟩ := Option.map_eq_some_iff.mp h
  obtain ⟨h1, h2, h3⟩ := findNl_some hq
  simp only [Prod.mk.injEq] at he
  obtain ⟨rfl, rfl⟩ := he
  by_cases hc : text.getD q 0 = 13 ∧ text.getD (q + 1) 0 = 10
  · rw [if_pos hc]
    refine ⟨h1, by omega, Nat.succ_le_of_lt (Nat.lt_of_not_le fun hle => ?_)⟩
    rw [getD_out hle] at hc
    exact absurd hc.2 (by decide)
  · rw [if_neg hc]
    omega
theorem findDot_some {text : Array Nat} : ∀ {f s q : Nat}, findDot text f s = some q → s ≤ q ∧ dotAt text q = true
  | 0, _, _, h => nomatch h
  | f + 1, s, q, h => by
    rw [findDot] at h
    split at h
    · cases h; exact ⟨Nat.le_refl _, by assumption⟩
    · have := findDot_some h; exact ⟨by omega, this.2⟩
theorem find1_ok {text : Array Nat} {s b e : Nat} (h : find1 text s = some (b, e)) : s ≤ b ∧ b < e ∧ e ≤ text.size := by
  unfold find1 at h
  obtain ⟨q, hq, he⟩ := Option.map_eq_some_iff.mp h
  obtain ⟨h1, h2⟩ := findDot_some hq
  simp only [Prod.mk.injEq] at he
  obtain ⟨rfl, rfl⟩ := he
  simp only [dotAt, Bool.and_eq_true, decide_eq_true_eq] at h2
  omega
theorem pat75 {w : World} {h : Heap} (X : (hd.heap_39 w.params).In h) : ∃ o, h.get? 75 = some o ∧ o.cls = .type "re.Pattern" ∧ o.dict = none := by
  obtain ⟨o, ho, hc⟩ := Option.map_eq_some_iff.mp (show ((hd.heap_39 w.params).lookup 75).map (fun o => (o.cls, o.dict)) = some (.type "re.Pattern", none) by kernel_rfl)
  exact ⟨o, X _ _ ho, congrArg Prod.fst hc, congrArg Prod.snd hc⟩
theorem pat70 {w : World} {h : Heap} (X : (hd.heap_39 w.params).In h) : ∃ o, h.get? 70 = some o ∧ o.cls = .type "re.Pattern" ∧ o.dict = none := by
  obtain ⟨o, ho, hc⟩ := Option.map_eq_some_iff.mp (show ((hd.heap_39 w.params).lookup 70).map (fun o => (o.cls, o.dict)) = some (.type "re.Pattern", none) by kernel_rfl)
  exact ⟨o, X _ _ ho, congrArg Prod.fst hc, congrArg Prod.snd hc⟩
theorem sub2_C {w : World} {A : Around} {s : Shared} {Q E : Value → Shared → Prop} {x : Str} {t tr : Tok}
    (X : (hd.heap_39 w.params).In s.heap) (hx : x.cps.size ≤ 3000)
    (hQ : ∀ h' tk t', Le s.heap h' → Q (.str (subOf find2 (Str.ofString "\r\n") x) t') { s with heap := h', toks := tk }) :
    wpAny (model Challenge.rw_re0038_01.row.prog w) A (call (.builtin "re.Pattern.sub") [.ref 75, .str (Str.ofString "\r\n") tr, .str x t]) Q E s := by
  obtain ⟨o, ho, hc, _⟩ := pat75 X
  exact sub_C X ho hc hx (by decide) (fun S => target2 _ x t S) (fun S D => sub_peek2 _ x t tr S D) (fun s hs => (ends2 x.cps s hs).le (by omega)) (fun _ _ _ _ h => find2_ok h) hQ
theorem sub1_C {w : World} {A : Around} {s : Shared} {Q E : Value → Shared → Prop} {x : Str} {t tr : Tok}
    (X : (hd.heap_39 w.params).In s.heap) (hx : x.cps.size ≤ 3000)
    (hQ : ∀ h' tk t', Le s.heap h' → Q (.str (subOf find1 (Str.ofString "..") x) t') { s with heap := h', toks := tk }) :
    wpAny (model Challenge.rw_re0038_01.row.prog w) A (call (.builtin "re.Pattern.sub") [.ref 70, .str (Str.ofString "..") tr, .str x t]) Q E s := by
  obtain ⟨o, ho, hc, _⟩ := pat70 X
  exact sub_C X ho hc hx (by decide) (fun S => target1 _ x t S) (fun S D => sub_peek1 _ x t tr S D) (fun s hs => (ends1 x.cps s hs).le (by omega)) (fun _ _ _ _ h => find1_ok h) hQ
end Mine
end

-- part Quo2
section
open PySem PySem.Sre PySem.W PySem.Calls PyProof.Rows PySem.Builtin.Re
set_option maxRecDepth 100000
set_option maxHeartbeats 8000000
namespace Mine
theorem plainAttrs_pat : PlainAttrs "re.Pattern" :=
  ⟨⟨"object.__getattribute__", by rw [typeLookup_type, builtinLookup_eq_fast]; kernel_rfl, by decide +kernel⟩, by rw [typeLookup_type, builtinLookup_eq_fast]; kernel_rfl⟩
theorem gm {w : World} {A : Around} {s : Shared} {P : Addr} {pl : Sem Bool} {Q : Value × List Value → Shared → Prop} {E : Value → Shared → Prop} (hP : ∃ o, s.heap.get? P = some o ∧ o.cls = .type "re.Pattern" ∧ o.dict = none)
    (h : Q (.builtin "re.Pattern.sub", [.ref P]) s) : wpAny (model Challenge.rw_re0038_01.row.prog w) A (getMethod (.ref P) (Str.ofString "sub") pl) Q E s := by
  obtain ⟨o, ho, hc, hd⟩ := hP
  exact getMethod_builtin ⟨o, ho, hc⟩ plainAttrs_pat slot_sub type_sub (fun a e => by cases e; exact ⟨o, ho, hd⟩) h
local macro_rules | `(tactic| ktr_unf) => `(tactic| repeat' (first | (k_unfold; (try dsimp only)) | (k_end; wrow_close) | ((fail_if_success (with_reducible show wpAny _ _ (getMethod (Value.ref _) (Str.ofString "sub") _) _ _ _)); (fail_if_success (with_reducible show wpAny _ _ (call (Value.builtin "re.Pattern.sub") _ _) _ _ _)); first | walk1 | (dsimp only; walk1)) | (leave1; walk_say "STEP leave1"; try dsimp only) | fail "no step"))

theorem quotedata_C {w : World} {p : Program} {loose : List Str} {mg mb : Str → Option Value} {A : Around} {s : Shared} {Q E : Value → Shared → Prop}
    {x : Str} {t : Tok}
    (X : (hd.heap_39 w.params).In s.heap) (T : TopRead p loose mg mb s.heap) (hh : A.handled = none) (hx : x.cps.size ≤ 50)
    (hdp : A.depth + 1 < recursionLimit) (hu : A.units + 8 < cLine)
    (hret : ∀ (h' : Heap) (tk' : Nat) (t' : Tok), Le s.heap h' → Q (.str (subOf find1 (Str.ofString "..") (subOf find2 (Str.ofString "\r\n") x)) t') { s with heap := h', toks := tk' }) :
    wpAny (model Challenge.rw_re0038_01.row.prog w) A (call (.ref 82) [.str x t]) Q E s := by
  revert X
  k_fill
  intro X
  refine wpAny_call ?_
  refine' enterN (binds := [(Str.ofString "data", .str x t)]) (news := []) X T.nolimit ?n ?k6 ?k7 ?k8 ?k9 ?kB ?_ ?c2 ?c3 ?c4 ?c5
  case k6 => k_is
  case k7 => k_is
  case k8 => omega
  case k9 => exact kp_binds X (fun _ => by kernel_rfl)
  case kB => exact locs rfl
  case c2 => exact rfl
  case c3 => exact rfl
  case c4 => exact rfl
  case c5 => decide
  case n => exact fun _ h => nomatch h
  intro g L h₁ hg F N hlt
  replace X := X.keeps (fun b o e => hg b o e (by simp))
  replace T := T.keeps (fun b o e => hg b o e (by simp))
  dsimp only
  ktr_unf
  refine gm (pat70 (X.keeps F.keep)) ?_
  dsimp only
  ktr_unf
  refine gm (pat75 (X.keeps F.keep)) ?_
  dsimp only
  ktr_unf
  refine sub2_C (X.keeps F.keep) (by omega) ?_
  intro h2 tk2 t2 k2
  dsimp only at k2
  replace F := Fr_le F k2
  replace N := News_le N k2
  dsimp only
  ktr_unf
  have hz := subOf_size find2 (Str.ofString "\r\n") x (by decide)
  have hm : (x.cps.size + 1) * (x.cps.size + 2) ≤ 51 * 52 := Nat.mul_le_mul (by omega) (by omega)
  refine sub1_C (X.keeps F.keep) (by omega) ?_
  intro h3 tk3 t3 k3
  dsimp only at k3
  replace F := Fr_le F k3
  dsimp only
  ktr_unf
  exact hret _ _ _ (fun b o e => F.keep b o (hg b o e (by simp)))
end Mine
end

-- part Gen1
section
open PySem
set_option maxRecDepth 20000
namespace Mine
section
variable {prog : Program} {w : World} {A : Around} {R : GenEnd} {Y : Protocol} {n : Nat} {s₀ : Shared} {c : Code} {fs : List Frame} {s : Shared} {env : Env}
  {K : Flow → Sem Fin} {H : Value → Sem Fin} {gd : Bool → Bool} {lv : List Value → List Value}

/-- a statement that does not yield -/
theorem seg_plain {α : Type} {m : Sem α} {K : α → Sem Fin} {H : Value → Sem Fin} {gd lv} (h : wpAny (model prog w) (A.over c fs) m (fun a s' => Seg (model prog w) A R Y n s₀ c (K a) fs s') (fun _ _ => False) s) :
    Seg (model prog w) A R Y n s₀ c (m.wrap K H gd lv) fs s := seg_wrap (wpAny_mono h (fun _ _ x => x) fun _ _ x => x.elim)

theorem seg_If {test : Expr} {body orelse : List Stmt} {pos : Pos}
    (h : wpAny (model prog w) (A.over c fs) (isTrue test env (eval test env)) (fun b s' => if b = true then Seg (model prog w) A R Y n s₀ c ((execs body env).wrap K H gd lv) fs s' else Seg (model prog w) A R Y n s₀ c ((execs orelse env).wrap K H gd lv) fs s') (fun _ _ => False) s) :
    Seg (model prog w) A R Y n s₀ c ((exec (.If test body orelse pos) env).wrap K H gd lv) fs s := by
  rw [exec_If]
  refine seg_at ?_
  show Seg _ A R Y n s₀ c ((isTrue test env (eval test env) >>= fun b => if b = true then execs body env else execs orelse env).wrap K H gd lv) fs s
  rw [Sem.bind_eq_wrap', Sem.wrap_wrap]
  refine seg_plain (wpAny_mono h (fun b s' hb => ?_) fun _ _ x => x)
  cases b with
  | true => exact hb
  | false => exact hb

theorem seg_For {target iter : Expr} {body orelse : List Stmt} {pos : Pos} (hs : ∀ x, foldedSetIterable iter env x = pure x)
    (h : wpAny (model prog w) (A.over c fs) (eval iter env) (fun x s₁ => wpAny (model prog w) (A.over c fs) (pyIter x) (fun it s₂ =>
      ∀ p, Seg (model prog w) A R Y n s₀ (.forLoop target it body orelse env) ((model prog w).den (.forLoop target it body orelse env))
        (.ret (fun r => ((match r with | .ok f => (.pure f : Sem Flow) | .error e => .raise e).onRaise fun (x : Value) => do
          if (← field x 1) == Value.none then unsupported "frame.own-activation:exception-without-traceback"
          setFlight x env.frame).wrap K H gd lv) none (gd false) (lv []) c p [] :: fs) s₂) (fun _ _ => False) s₁) (fun _ _ => False) s) :
    Seg (model prog w) A R Y n s₀ c ((exec (.For target iter body orelse pos) env).wrap K H gd lv) fs s := by
  rw [exec_For]
  refine seg_at ?_
  show Seg _ A R Y n s₀ c ((eval iter env >>= fun a => (foldedSetIterable iter env a >>= fun x => (standAt iter.pos >>= fun _ => (holding [x] (pyIter x) >>= fun it => runOwn (.forLoop target it body orelse env) env)))).wrap K H gd lv) fs s
  rw [Sem.bind_eq_wrap', Sem.wrap_wrap]
  refine seg_plain (wpAny_mono h (fun x s₁ h₁ => ?_) fun _ _ x => x)
  rw [hs x]
  refine seg_at ?_
  show Seg _ A R Y n s₀ c ((holding [x] (pyIter x) >>= fun it => runOwn (.forLoop target it body orelse env) env).wrap K H gd lv) fs s₁
  rw [Sem.bind_eq_wrap', Sem.wrap_wrap]
  refine seg_plain (wpAny_holding (wpAny_mono h₁ (fun it s₂ h₂ => ?_) fun _ _ x => x))
  exact seg_call h₂

theorem seg_forTurn {target : Expr} {it : Value} {body orelse : List Stmt}
    (h : wpAny (model prog w) (A.over (.forLoop target it body orelse env) fs) (pyNext it) (fun r s₁ => ∃ v, r = some v ∧ wpAny (model prog w) (A.over (.forLoop target it body orelse env) fs) (letOwnedTupleGo target it v) (fun _ s₂ =>
      wpAny (model prog w) (A.over (.forLoop target it body orelse env) fs) (assign target env v) (fun _ s₃ =>
        Seg (model prog w) A R Y n s₀ (.forLoop target it body orelse env) ((execs body env).wrap (fun f => match f with
            | .next | .cont => .pure (.again (.forLoop target it body orelse env))
            | .brk => .pure (.done .next)
            | .ret v => .pure (.done (.ret v))) (fun e => (do noteFrame e env; theTreesLotGoes e : Sem Unit).wrap (fun _ => .raise e) .raise id id) id id) fs s₃) (fun _ _ => False) s₂) (fun _ _ => False) s₁) (fun _ _ => False) s) :
    Seg (model prog w) A R Y n s₀ (.forLoop target it body orelse env) ((model prog w).den (.forLoop target it body orelse env)) fs s := by
  show Seg _ A R Y n s₀ _ ((forTurn target it body orelse env).onRaise (fun x => do noteFrame x env; theTreesLotGoes x)) fs s
  unfold forTurn
  rw [Sem.onRaise_eq_wrap]
  refine seg_at ?_
  dsimp only [Sem.bind]
  rw [Sem.bind_eq_wrap', Sem.wrap_wrap]
  refine seg_plain (wpAny_onRaise (wpAny_mono h (fun r s₁ h₁ => ?_) fun _ _ x => x.elim))
  obtain ⟨v, rfl, h₁⟩ := h₁
  dsimp only
  rw [Sem.bind_eq_wrap', Sem.wrap_wrap]
  refine seg_plain (wpAny_mono h₁ (fun _ s₂ h₂ => ?_) fun _ _ x => x)
  rw [Sem.bind_eq_wrap', Sem.wrap_wrap]
  refine seg_plain (wpAny_mono h₂ (fun _ s₃ h₃ => ?_) fun _ _ x => x)
  rw [Sem.bind_eq_wrap', Sem.wrap_wrap]
  rw [Sem.wrap_congr (execs body env) _ _ (K' := fun f => match f with
            | .next | .cont => .pure (.again (.forLoop target it body orelse env))
            | .brk => .pure (.done .next)
            | .ret v => .pure (.done (.ret v))) (H' := (fun e => (do noteFrame e env; theTreesLotGoes e : Sem Unit).wrap (fun _ => .raise e) .raise id id))
        (fun f => by cases f <;> rfl)
        (fun e => by show (do noteFrame e env; theTreesLotGoes e : Sem Unit).bind (fun _ => .raise e) = _; rw [Sem.bind_eq_wrap])]
  exact h₃
end
end Mine
end

-- part Gen2
section
open PySem PySem.W PySem.Calls PyProof.Rows
set_option maxRecDepth 100000
set_option maxHeartbeats 4000000
namespace Mine
def bodyOf : Stmt → List Stmt
  | .FunctionDef _ _ b _ _ _ _ _ _ _ => b
  | _ => []
def scopeOf : Stmt → Scope
  | .FunctionDef _ _ _ _ _ _ s _ _ _ => s
  | _ => { kind := .function, names := [], isGenerator := false, isCoroutine := false, more := [] }
def forBody : Stmt → List Stmt
  | .For _ _ b _ _ => b
  | _ => []
def forTarget : Stmt → Expr
  | .For t _ _ _ _ => t
  | _ => .Name "" default
def gDef : Stmt := Challenge.pw_re0038_01.main.body.getD 7 (.Pass default)
def gBody : List Stmt := bodyOf gDef
def gEnv (L : Addr) : Env := envOf (Str.ofString "_grouping_intervals") (scopeOf gDef) L 65 (.ref 64)
def gFor : Stmt := gBody.getD 1 (.Pass default)
theorem fbody : ∃ a b c d, forBody gFor = [a, b, c, d] := ⟨_, _, _, _, rfl⟩

def trunc (h : Heap) (L : Nat) : Heap := ⟨h.objs.extract 0 L, h.life⟩
theorem trunc_get {h : Heap} {L b : Nat} {o : Obj} : (trunc h L).get? b = some o ↔ b < L ∧ h.get? b = some o := by
  have e : (h.objs.extract 0 L)[b]? = if b < L then h.objs[b]? else none := by
    rw [Array.getElem?_extract, Nat.zero_add, Nat.sub_zero]
    by_cases hb : b < L
    · by_cases h2 : b < h.objs.size
      · simp only [hb, if_true]; rw [if_pos (by omega)]
      · simp only [hb, if_true]; rw [if_neg (by omega)]; simp [h2]
    · simp only [hb, if_false]; rw [if_neg (by omega)]
  unfold trunc Heap.get?
  simp only [e]
  by_cases hb : b < L
  · simp [hb]
  · simp [hb]
theorem trunc_size (h : Heap) (L : Nat) : (trunc h L).objs.size ≤ L := by
  unfold trunc
  simp only [Array.size_extract]
  omega

def itObj (Gl : Addr) (k : Nat) : Obj := { cls := .type "list_iterator", data := .fields #[.ref Gl, .int k 0] }

def GY (gK : Heap) (Gl L D : Nat) (vals : List Int) : Protocol := fun n s₀ v s' kap =>
  (∃ t, v = .int (vals.getD (6 - n) 0) t) ∧
  (∃ h' tk, s' = { s₀ with heap := h', toks := tk } ∧ (∀ (b : Nat) o, b < L → s₀.heap.get? b = some o → h'.get? b = some o) ∧ (∀ o, s₀.heap.get? D = some o → h'.get? D = some o)) ∧
  ∃ (I : Nat) (oI oL : Obj), s'.heap.get? I = some oI ∧ s'.heap.get? L = some oL ∧ L < I ∧ I ≠ D ∧
    (n ≠ 0 → ∀ s'', (∀ (b : Nat) o, gK.get? b = some o → s''.heap.get? b = some o) → (∀ o, s'.heap.get? Gl = some o → s''.heap.get? Gl = some o) → s''.heap.get? L = some oL → s''.heap.get? I = some oI → (∀ o, s'.heap.get? D = some o → s''.heap.get? D = some o) → kap (.send .none) s'')
def GR : GenEnd := fun _ _ r _ => r = .ok (.ret .none) ∧ False

theorem heap_low (P : Params) : (hd.heap_39 P).all (fun p => decide (p.1 < 117)) = true := by kernel_rfl
theorem In_low {w : World} {h g : Heap} (X : (hd.heap_39 w.params).In h) (hg : ∀ (b : Nat) o, b < 117 → h.get? b = some o → g.get? b = some o) : (hd.heap_39 w.params).In g := by
  intro a o e
  have q := List.all_eq_true.mp (heap_low w.params) _ (lookup_mem e)
  exact hg a o (of_decide_eq_true q) (X a o e)
theorem Top_low {p : Program} {loose : List Str} {mg mb : Str → Option Value} {h g : Heap} (T : TopRead p loose mg mb h) (hg : ∀ (b : Nat) o, b < 117 → h.get? b = some o → g.get? b = some o) : TopRead p loose mg mb g := by
  obtain ⟨mc, h1, h2⟩ := T.nolimit
  exact ⟨T.g.at' fun o => hg _ o (by decide), T.b.at' fun o => hg _ o (by decide), ⟨mc, h1.at' fun o => hg _ o (by decide), h2⟩, T.builtins, T.free⟩

/-- how the generator stands: its frame, its iterator, itself -/
structure GS (w : World) (p : Program) (loose : List Str) (mg mb : Str → Option Value) (gK : Heap) (its : Array Value) (Gl L I D : Nat) (oD : Obj) (s₀ s : Shared) (m : Str → Option Value) (k : Nat) : Prop where
  F : Fr (trunc s₀.heap L) L s.heap m
  N : ∃ oI : Obj, oI.cls = .type "list_iterator" ∧ oI.data = .fields #[.ref Gl, .int k 0] ∧ News (trunc s₀.heap L) L s.heap [(I, oI), (D, oD)]
  X : (hd.heap_39 w.params).In (trunc s₀.heap L)
  T : TopRead p loose mg mb (trunc s₀.heap L)
  G : (trunc s₀.heap L).IsList Gl its
  s : ∃ h tk, s = { s₀ with heap := h, toks := tk }
  l1 : L < I
  l2 : L < D
  l3 : 117 ≤ L
  l4 : Gl < L
  ne : I ≠ D
  XK : (hd.heap_39 w.params).In gK
  TK : TopRead p loose mg mb gK

section
variable {w : World} {p : Program} {loose : List Str} {mg mb : Str → Option Value} {gK : Heap} {its : Array Value} {Gl L I D : Nat} {oD : Obj} {s₀ s : Shared} {m : Str → Option Value} {k : Nat}
theorem GS.fresh (S : GS w p loose mg mb gK its Gl L I D oD s₀ s m k) {s2 : Shared} (hown : ∀ (b : Nat) o, gK.get? b = some o → s2.heap.get? b = some o) (hG : ∀ o, s.heap.get? Gl = some o → s2.heap.get? Gl = some o) (hL : ∀ o, s.heap.get? L = some o → s2.heap.get? L = some o) (hI : ∀ o, s.heap.get? I = some o → s2.heap.get? I = some o) (hD : ∀ o, s.heap.get? D = some o → s2.heap.get? D = some o) : GS w p loose mg mb gK its Gl L I D oD s2 s2 m k := by
  have l1 := S.l1
  have l2 := S.l2
  have l3 := S.l3
  have l4 := S.l4
  have low : ∀ (b : Nat) o, b < 117 → gK.get? b = some o → (trunc s2.heap L).get? b = some o := fun b o hb e => trunc_get.mpr ⟨by omega, hown b o e⟩
  refine ⟨⟨S.F.ns.at' hL, fun b o e => (trunc_get.mp e).2, trunc_size _ _⟩, ?_, In_low S.XK low, Top_low S.TK low, ?_, ⟨_, _, rfl⟩, l1, l2, l3, l4, S.ne, S.XK, S.TK⟩
  · obtain ⟨oI, hc, hd, N⟩ := S.N
    refine ⟨oI, hc, hd, ?_⟩
    intro q hq
    have h1 := N q hq
    simp only [List.mem_cons, List.not_mem_nil, or_false] at hq
    have nn : ∀ b : Nat, L < b → (trunc s2.heap L).get? b = none := fun b hb => by
      cases e : (trunc s2.heap L).get? b with
      | none => rfl
      | some o => have := (trunc_get.mp e).1; omega
    rcases hq with rfl | rfl
    · exact ⟨hI _ h1.1, h1.2.1, nn _ l1⟩
    · exact ⟨hD _ h1.1, h1.2.1, nn _ l2⟩
  · obtain ⟨o, ho, r⟩ := S.G
    exact ⟨o, trunc_get.mpr ⟨l4, hG _ (S.F.keep _ _ ho)⟩, r⟩
theorem GS.getD (S : GS w p loose mg mb gK its Gl L I D oD s₀ s m k) : s.heap.get? D = some oD := by
  obtain ⟨oI, _, _, N⟩ := S.N
  exact (N (D, oD) (by repeat (first | exact List.Mem.head _ | apply List.Mem.tail))).1
theorem GS.said (S : GS w p loose mg mb gK its Gl L I D oD s₀ s m k) : ∃ h' tk, s = { s₀ with heap := h', toks := tk } ∧ (∀ (b : Nat) o, b < L → s₀.heap.get? b = some o → h'.get? b = some o) := by
  obtain ⟨h, tk, e⟩ := S.s
  refine ⟨h, tk, e, fun b o hb e' => ?_⟩
  have := S.F.keep b o (trunc_get.mpr ⟨hb, e'⟩)
  rw [e] at this
  exact this
end

theorem GS.yields {w : World} {p : Program} {loose : List Str} {mg mb : Str → Option Value} {gK : Heap} {its : Array Value} {Gl L I D : Nat} {oD : Obj} {s₀ s : Shared} {m : Str → Option Value} {k n : Nat} {vals : List Int} {v : Int} {t : Tok} {kap : Resume → Shared → Prop}
    (S : GS w p loose mg mb gK its Gl L I D oD s₀ s m k) (hD : s₀.heap.get? D = some oD) (hv : vals.getD (6 - n) 0 = v) (hk : n ≠ 0 → ∀ s2, GS w p loose mg mb gK its Gl L I D oD s2 s2 m k → kap (.send .none) s2) : GY gK Gl L D vals n s₀ (.int v t) s kap := by
  obtain ⟨h2, tk2, e, hlow⟩ := S.said
  obtain ⟨oI, _, _, N⟩ := S.N
  obtain ⟨oL, _, _, hL, _⟩ := id S.F.ns
  refine ⟨⟨t, by rw [hv]⟩, ⟨h2, tk2, e, hlow, fun o ho => ?_⟩, I, oI, oL, (N (I, oI) (by repeat (first | exact List.Mem.head _ | apply List.Mem.tail))).1, hL, S.l1, S.ne, fun hn s2 hown hG h1 h2 h3 => hk hn s2 (S.fresh hown hG (fun o e => by rw [hL] at e; cases e; exact h1) (fun o e => by rw [(N (I, oI) (by repeat (first | exact List.Mem.head _ | apply List.Mem.tail))).1] at e; cases e; exact h2) h3)⟩
  have q := S.getD
  rw [e] at q
  rw [hD] at ho
  cases ho
  exact q

def ifBody : Stmt → List Stmt
  | .If _ b _ _ => b
  | _ => []
def whileBody : Stmt → List Stmt
  | .While _ b _ _ => b
  | _ => []
def whileTest : Stmt → Expr
  | .While t _ _ _ => t
  | _ => .Name "" default
def gWhile : Stmt := (ifBody ((forBody gFor).getD 1 (.Pass default))).getD 1 (.Pass default)

theorem gen_while {w : World} {p : Program} {loose : List Str} {mg mb : Str → Option Value} {gK : Heap} {its : Array Value} {Gl L I D : Nat} {oD : Obj} {A : Around} {vals : List Int} {c : Int} (hv : ∀ n, n ≤ 3 → vals.getD (6 - n) 0 = c) {fs : List Frame} (hfs : splitAtGen fs = none) (hfg : fs.any Frame.guarded = false) :
    ∀ (n : Nat) (s₀ s : Shared) (m : Str → Option Value) (tc : Tok), n ≤ 3 → GS w p loose mg mb gK its Gl L I D oD s₀ s m 4 → s₀.heap.get? D = some oD → m (Str.ofString "last_interval") = some (.int c tc) →
      Seg (model Challenge.rw_re0038_01.row.prog w) A GR (GY gK Gl L D vals) (n + 1) s₀ (.whileLoop (whileTest gWhile) (whileBody gWhile) [] (gEnv L)) ((model Challenge.rw_re0038_01.row.prog w).den (.whileLoop (whileTest gWhile) (whileBody gWhile) [] (gEnv L))) fs s := by
  intro n
  induction n with
  | zero =>
    intro s₀ s m tc hn S hD hm
    refine seg_whileLoop ?_
    show wpAny _ _ (isTrue (.Constant (.bool true) _ _) (gEnv L) (eval (.Constant (.bool true) _ _) (gEnv L))) _ _ _
    walk1
    walk1
    walk1
    rw [if_pos rfl]
    refine seg_execs_cons ?_
    refine seg_Expr_Yield hfs rfl hfg (ld S.F hm ?_)
    intro kap hkap
    exact S.yields hD (hv _ (by omega)) (fun hn => absurd rfl hn)
  | succ n ih =>
    intro s₀ s m tc hn S hD hm
    refine seg_whileLoop ?_
    show wpAny _ _ (isTrue (.Constant (.bool true) _ _) (gEnv L) (eval (.Constant (.bool true) _ _) (gEnv L))) _ _ _
    walk1
    walk1
    walk1
    rw [if_pos rfl]
    refine seg_execs_cons ?_
    refine seg_Expr_Yield hfs rfl hfg (ld S.F hm ?_)
    intro kap hkap
    refine S.yields hD (hv _ (by omega)) (fun _ s2 S2 => hkap _ _ ?_)
    show Seg _ _ _ _ _ _ _ (.pure (.again _)) _ _
    refine seg_again rfl ?_
    exact ih s2 s2 m tc (by omega) S2 S2.getD hm

local macro_rules | `(tactic| ktr_unf) => `(tactic| repeat' (first | (k_unfold; (try dsimp only)) | (first | walk1 | (dsimp only; walk1)) | fail "no step"))

theorem gen_turn {w : World} {p : Program} {loose : List Str} {mg mb : Str → Option Value} {gK : Heap} {its : Array Value} {Gl L I D : Nat} {oD : Obj} {A : Around} {vals : List Int} {v : Int} {tv : Tok} {i n : Nat} (hv : vals.getD (6 - n) 0 = v) (h1 : 1 ≤ v) (h2 : v ≤ 4) (hi : its[i]? = some (.int v tv))
    {fs : List Frame} (hfs : splitAtGen fs = none) (hfg : fs.any Frame.guarded = false) {s₀ s : Shared} {m : Str → Option Value} (S : GS w p loose mg mb gK its Gl L I D oD s₀ s m i) (hD : s₀.heap.get? D = some oD)
    (next : n ≠ 0 → ∀ (s₀ s : Shared) (m : Str → Option Value), GS w p loose mg mb gK its Gl L I D oD s₀ s m (i + 1) → s₀.heap.get? D = some oD → m (Str.ofString "last_interval") = some (.int v tv) →
      Seg (model Challenge.rw_re0038_01.row.prog w) A GR (GY gK Gl L D vals) n s₀ (.forLoop (forTarget gFor) (.ref I) (forBody gFor) [] (gEnv L)) ((model Challenge.rw_re0038_01.row.prog w).den (.forLoop (forTarget gFor) (.ref I) (forBody gFor) [] (gEnv L))) fs s) :
    Seg (model Challenge.rw_re0038_01.row.prog w) A GR (GY gK Gl L D vals) (n + 1) s₀ (.forLoop (forTarget gFor) (.ref I) (forBody gFor) [] (gEnv L)) ((model Challenge.rw_re0038_01.row.prog w).den (.forLoop (forTarget gFor) (.ref I) (forBody gFor) [] (gEnv L))) fs s := by
  obtain ⟨hh, tk, rfl⟩ := S.s
  obtain ⟨oI, hc, hd', N⟩ := S.N
  have nLI : L ≠ I := Nat.ne_of_lt S.l1
  refine seg_forTurn ?_
  refine wpAny_pyNext_list_item ⟨oI, (N (I, oI) (by repeat (first | exact List.Mem.head _ | apply List.Mem.tail))).1, hc, hd'⟩ (S.G.at fun o e => S.F.keep _ o e) hi ?_
  intro h' hit' hsb
  refine ⟨_, rfl, wpAny_of_eq (a := ()) rfl ?_⟩
  obtain ⟨oI', ho', hc', hd''⟩ := hit'
  have F : Fr (trunc s₀.heap L) L h' m := ⟨S.F.ns.sameBut hsb nLI, fun b o e => (hsb.2 b (fun q => by have := (trunc_get.mp e).1; have := S.l1; subst q; omega)).trans (S.F.keep b o e), S.F.above⟩
  have N' : News (trunc s₀.heap L) L h' [(I, oI'), (D, oD)] := by
    intro q hq
    simp only [List.mem_cons, List.not_mem_nil, or_false] at hq
    rcases hq with rfl | rfl
    · exact ⟨ho', (N (I, oI) (by repeat (first | exact List.Mem.head _ | apply List.Mem.tail))).2⟩
    · exact ⟨(hsb.2 _ (Ne.symm S.ne)).trans (N (D, oD) (by repeat (first | exact List.Mem.head _ | apply List.Mem.tail))).1, (N (D, oD) (by repeat (first | exact List.Mem.head _ | apply List.Mem.tail))).2⟩
  have X := S.X
  have T := S.T
  show wpAny _ _ (assign (.Name (Str.ofString "interval") _) (gEnv L) _) _ _ _
  dsimp only
  revert X
  k_fill
  intro X
  walk1
  walk1
  rename Fr _ _ _ _ => F1
  rename News _ _ _ _ => N1
  refine seg_execs_cons (seg_If ?_)
  show wpAny _ _ (isTrue (.Compare _ _ _ _) (gEnv L) _) _ _ _
  dsimp only [gEnv]
  ktr_unf
  · exfalso; omega
  refine seg_execs_nil ?_
  dsimp only
  refine seg_execs_cons (seg_If ?_)
  ktr_unf
  · exfalso; omega
  refine seg_execs_nil ?_
  dsimp only
  refine seg_execs_cons (seg_Expr_Yield hfs rfl hfg (ld F1 rfl ?_))
  intro kap hkap
  refine GS.yields ⟨F1, ⟨oI', hc', hd'', N1⟩, X, T, S.G, ⟨_, _, rfl⟩, S.l1, S.l2, S.l3, S.l4, S.ne, S.XK, S.TK⟩ hD hv (fun hn s2 S2 => hkap _ _ ?_)
  obtain ⟨oI2, hc2, hd2, N2⟩ := S2.N
  have F2 := S2.F
  have X2 := S2.X
  have T2 := S2.T
  have G2 := S2.G
  have D2 := S2.getD
  clear F1 N1 X T
  dsimp only
  refine seg_execs_cons (seg_plain ?_)
  ktr_unf
  rename Fr _ _ _ _ => F3
  rename News _ _ _ _ => N3
  refine seg_execs_nil ?_
  show Seg _ _ _ _ _ _ _ (.pure (.again _)) _ _
  refine seg_again rfl ?_
  exact next hn s2 _ _ ⟨F3, ⟨oI2, hc2, hd2, N3⟩, X2, T2, G2, ⟨_, _, rfl⟩, S.l1, S.l2, S.l3, S.l4, S.ne, S.XK, S.TK⟩ D2 rfl

theorem gen_last {w : World} {p : Program} {loose : List Str} {mg mb : Str → Option Value} {gK : Heap} {its : Array Value} {Gl L I D : Nat} {oD : Obj} {A : Around} {vals : List Int} {c : Int} {tc tz : Tok} {n : Nat} (hv : ∀ n, n ≤ 3 → vals.getD (6 - n) 0 = c) (hn : n ≤ 3) (hi : its[3]? = some (.int 0 tz))
    {fs : List Frame} (hfs : splitAtGen fs = none) (hfg : fs.any Frame.guarded = false) {s₀ s : Shared} {m : Str → Option Value} (S : GS w p loose mg mb gK its Gl L I D oD s₀ s m 3) (hD : s₀.heap.get? D = some oD) (hm : m (Str.ofString "last_interval") = some (.int c tc)) :
    Seg (model Challenge.rw_re0038_01.row.prog w) A GR (GY gK Gl L D vals) (n + 1) s₀ (.forLoop (forTarget gFor) (.ref I) (forBody gFor) [] (gEnv L)) ((model Challenge.rw_re0038_01.row.prog w).den (.forLoop (forTarget gFor) (.ref I) (forBody gFor) [] (gEnv L))) fs s := by
  obtain ⟨hh, tk, rfl⟩ := S.s
  obtain ⟨oI, hc, hd', N⟩ := S.N
  have nLI : L ≠ I := Nat.ne_of_lt S.l1
  refine seg_forTurn ?_
  refine wpAny_pyNext_list_item ⟨oI, (N (I, oI) (by repeat (first | exact List.Mem.head _ | apply List.Mem.tail))).1, hc, hd'⟩ (S.G.at fun o e => S.F.keep _ o e) hi ?_
  intro h' hit' hsb
  refine ⟨_, rfl, wpAny_of_eq (a := ()) rfl ?_⟩
  obtain ⟨oI', ho', hc', hd''⟩ := hit'
  have F : Fr (trunc s₀.heap L) L h' m := ⟨S.F.ns.sameBut hsb nLI, fun b o e => (hsb.2 b (fun q => by have := (trunc_get.mp e).1; have := S.l1; subst q; omega)).trans (S.F.keep b o e), S.F.above⟩
  have N' : News (trunc s₀.heap L) L h' [(I, oI'), (D, oD)] := by
    intro q hq
    simp only [List.mem_cons, List.not_mem_nil, or_false] at hq
    rcases hq with rfl | rfl
    · exact ⟨ho', (N (I, oI) (by repeat (first | exact List.Mem.head _ | apply List.Mem.tail))).2⟩
    · exact ⟨(hsb.2 _ (Ne.symm S.ne)).trans (N (D, oD) (by repeat (first | exact List.Mem.head _ | apply List.Mem.tail))).1, (N (D, oD) (by repeat (first | exact List.Mem.head _ | apply List.Mem.tail))).2⟩
  have X := S.X
  have T := S.T
  show wpAny _ _ (assign (.Name (Str.ofString "interval") _) (gEnv L) _) _ _ _
  dsimp only
  revert X
  k_fill
  intro X
  clear N
  walk1
  walk1
  rename Fr _ _ _ _ => F1
  rename News _ _ _ _ => N1
  have hm1 : (fun y => if y = Str.ofString "interval" then some (Value.int 0 tz) else m y) (Str.ofString "last_interval") = some (.int c tc) := by
    show (if Str.ofString "last_interval" = Str.ofString "interval" then _ else _) = _
    rw [if_neg (by decide)]; exact hm
  refine seg_execs_cons (seg_If ?_)
  show wpAny _ _ (isTrue (.Compare _ _ _ _) (gEnv L) _) _ _ _
  dsimp only [gEnv]
  ktr_unf
  refine seg_execs_nil ?_
  dsimp only
  refine seg_execs_cons (seg_If ?_)
  ktr_unf
  refine seg_execs_cons (seg_If ?_)
  walk1
  refine ld F1 hm1 ?_
  ktr_unf
  refine seg_execs_nil ?_
  dsimp only
  refine seg_execs_cons (seg_While fun pp => ?_)
  exact gen_while hv (by simp [splitAtGen, hfs]) (by simp [Frame.guarded, hfg]) n s₀ _ _ tc hn ⟨F1, ⟨oI', hc', hd'', N1⟩, X, T, S.G, ⟨_, _, rfl⟩, S.l1, S.l2, S.l3, S.l4, S.ne, S.XK, S.TK⟩ hD hm1

theorem gen_seg {w : World} {p : Program} {loose : List Str} {mg mb : Str → Option Value} {gK : Heap} {its : Array Value} {Gl L D : Nat} {oD : Obj} {A : Around} {a b c : Int} {ta tb tc tz : Tok} (hits : its = #[.int a ta, .int b tb, .int c tc, .int 0 tz])
    (ha : 1 ≤ a ∧ a ≤ 4) (hb : 1 ≤ b ∧ b ≤ 4) (hc : 1 ≤ c ∧ c ≤ 4) {s : Shared} {m : Str → Option Value} (hm : m (Str.ofString "grouping") = some (.ref Gl))
    (F : Fr (trunc s.heap L) L s.heap m) (N : News (trunc s.heap L) L s.heap [(D, oD)]) (X : (hd.heap_39 w.params).In (trunc s.heap L)) (T : TopRead p loose mg mb (trunc s.heap L)) (G : (trunc s.heap L).IsList Gl its)
    (l2 : L < D) (l3 : 117 ≤ L) (l4 : Gl < L) (XK : (hd.heap_39 w.params).In gK) (TK : TopRead p loose mg mb gK) :
    Seg (model Challenge.rw_re0038_01.row.prog w) A GR (GY gK Gl L D [a, b, c, c, c, c, c]) 7 s (.func gBody (gEnv L)) ((model Challenge.rw_re0038_01.row.prog w).den (.func gBody (gEnv L))) [] s := by
  subst hits
  revert X
  k_fill
  intro X
  have hD : s.heap.get? D = some oD := (N (D, oD) (by repeat (first | exact List.Mem.head _ | apply List.Mem.tail))).1
  refine seg_func ?_
  refine seg_execs_cons (seg_plain ?_)
  dsimp only [gEnv]
  ktr_unf
  rename Fr _ _ _ _ => F1
  rename News _ _ _ _ => N1
  refine seg_execs_cons (seg_For (fun _ => rfl) ?_)
  refine ld F1 (v := .ref Gl) ?_ ?_
  · show (if Str.ofString "grouping" = Str.ofString "last_interval" then _ else _) = _
    rw [if_neg (by decide)]; exact hm
  refine wpAny_pyIter_list (G.at fun o e => F1.keep _ o e) ?_
  intro pp
  have hlt := F1.ns.lt
  have hDlt := Heap.lt_size (N1 (D, oD) (by repeat (first | exact List.Mem.head _ | apply List.Mem.tail))).1
  refine gen_turn (i := 0) (n := 6) (v := a) (tv := ta) rfl ha.1 ha.2 rfl rfl rfl
    ⟨F1.push _, ⟨{ cls := .type "list_iterator", data := .fields #[.ref Gl, .int 0 0] }, rfl, rfl, N1.push F1 _⟩, X, T, G, ⟨_, _, rfl⟩, hlt, l2, l3, l4, Nat.ne_of_gt hDlt, XK, TK⟩ hD ?_
  intro _ s1 s1' m1 S1 hD1 hm1
  refine gen_turn (i := 1) (n := 5) (v := b) (tv := tb) rfl hb.1 hb.2 rfl rfl rfl S1 hD1 ?_
  intro _ s2 s2' m2 S2 hD2 hm2
  refine gen_turn (i := 2) (n := 4) (v := c) (tv := tc) rfl hc.1 hc.2 rfl rfl rfl S2 hD2 ?_
  intro _ s3 s3' m3 S3 hD3 hm3
  refine gen_last (n := 3) (c := c) (tz := tz) ?_ (by decide) rfl rfl rfl S3 hD3 hm3
  intro n hn
  rcases (by omega : n = 0 ∨ n = 1 ∨ n = 2 ∨ n = 3) with rfl | rfl | rfl | rfl <;> rfl
end Mine
end

-- part Rows1
section
open PySem PySem.W PySem.Calls PyProof.Rows
set_option maxRecDepth 100000
namespace Mine
theorem enterGen {w : World} {A : Around} {s : Shared} {R : Result → Shared → Prop} {K : Frag}
    {name qual : Str} {params : Arguments} {body : List Stmt} {scope : Scope} {dV kV doc pm cdv ct oc : Value} {an od : Option Addr} {osl : Array (Option Value)} {f : Addr} {args : Args} {binds : List (Str × Value)}
    (X : K.In s.heap) (hlim : s.heap.NoLimit)
    (ho : K.lookup f = some ⟨oc, od, .func (fnOf name qual params body scope dV kV doc pm an cdv ct), osl⟩) (hcd : codeIn K cdv qual = true) (hroom : A.depth < recursionLimit)
    (hbind : BindsTo s (fnOf name qual params body scope dV kV doc pm an cdv ct) args binds) (hloc : ∀ y ∈ binds, scope.names.lookup y.1 = some .local)
    (h : ∀ h₁ tk nm qn, h₁.objs.size = s.heap.objs.size + 1 → Fr s.heap s.heap.objs.size h₁ (fun y => binds.reverse.lookup y) →
      R (.ok (.ret (.ref h₁.objs.size))) { s with gens := s.gens.push (.fresh (.func body (envOf qual scope s.heap.objs.size f cdv))), toks := tk, heap := h₁.push { cls := .type "generator", data := .fields #[.int s.gens.size 0, nm, qn] } })
    (hco : scope.isCoroutine = false := by rfl) (hgen : scope.isGenerator = true := by rfl) (hk : scope.kind = .function := by rfl)
    (hcell : ∀ x ∈ scope.names, x.2 ≠ .cell := by decide) : codeAny (model Challenge.rw_re0038_01.row.prog w) A (.call (.ref f) args) R s := by
  refine codeAny_call_generator (fd := fnOf name qual params body scope dV kV doc pm an cdv ct) (body := body) hroom (X _ _ ho) rfl hco hgen rfl (codeRec_of X hcd) (hbind _ _ _ _ ?_)
  refine wpAny_newFunctionEnv hcell hloc (fun h₀ hns₀ hsb₀ => ⟨hlim.fresh _ hsb₀, ?_⟩) hk
  refine h h₀ _ _ _ ?_ ⟨hns₀, fun b o e => hsb₀.extBut b o (Nat.ne_of_lt (Heap.lt_size e)) (Heap.get?_push_of_some _ e), Nat.le_refl _⟩
  rw [hsb₀.1, Heap.size_push]

/-- a generator is asked for its next; it is sure to yield. The library's rule for generator expressions says it, as no end is possible -/
theorem pyNext_genQ {prog : Program} {w : World} {A : Around} {E : Value → Shared → Prop} {s : Shared} {a : Addr} {g n : Nat} {gs : GenState} {Y : Protocol} {Q : Option Value → Shared → Prop}
    (hh : A.handled = none) (hl : s.heap.NoLimit) (hroom : A.depth < recursionLimit) (hg : s.heap.IsGen a g) (hgs : s.gens[g]? = some gs)
    (hgo : gs.Goes (model prog w) A.in1 GR Y n (.send .none) (s.setGen g .running))
    (hY : ∀ v s₁ gs', gs'.bare = true → Y (n - 1) (s.setGen g .running) v s₁ (fun r' s'' => match n with
        | 0 => False
        | m + 1 => gs'.Goes (model prog w) A.in1 GR Y m r' s'') → Q (some v) (s₁.setGen g gs')) :
    wpAny (model prog w) A (pyNext (.ref a)) Q E s := by
  have no : GR = fun _ _ r _ => r = .ok .next ∧ False := by funext _ _ _ _; simp [GR]
  rw [no] at hgo hY
  exact wpAny_pyNext_genexpQ (P := fun _ _ _ => False) hh hl hroom hg hgs hgo hY fun _ q => q.elim
end Mine
end

-- part Rows2
section
open PySem PySem.W PySem.Calls PyProof.Rows
set_option maxRecDepth 100000
set_option maxHeartbeats 8000000
namespace Mine
local macro_rules | `(tactic| ktr_unf) => `(tactic| repeat' (first | (k_unfold; (try dsimp only)) | ((fail_if_success (with_reducible show wpAny _ _ (call (Value.builtin "len") [Value.ref _] _) _ _ _)); first | walk1 | (dsimp only; walk1)) | fail "no step"))
def rDef : Stmt := Challenge.pw_re0038_01.main.body.getD 14 (.Pass default)
def rBody : List Stmt := bodyOf rDef
def rEnv (L : Addr) : Env := envOf (Str.ofString "_law_rows") (scopeOf rDef) L 89 (.ref 88)
def rFor : Stmt := rBody.getD 1 (.Pass default)
theorem rfbody : ∃ a b c, forBody rFor = [a, b, c] := ⟨_, _, _, rfl⟩

def lineEnd (n : Int) : Str := if (n.fdiv 2).fmod 3 = 0 then Str.ofString "\n" else if (n.fdiv 2).fmod 3 = 1 then Str.ofString "\r" else Str.ofString "\r\n"
/-- a row of the mail -/
def rowStr (n sz : Int) : Str := Txt.item (Str.ofString ".a") (n.fmod 2) ++ Txt.mul (Str.ofString "b") (sz - 1) ++ lineEnd n

theorem rowsFr {base h : Heap} {Lc R Ln : Nat} {sz n : Int} {tsz t : Tok} {u m₀ : Str → Option Value} (F : Fr base Lc h (fun y => if y = Str.ofString "number" then some (Value.int n t) else if y = Str.ofString "size" then some (Value.int sz tsz) else if y = Str.ofString "number" then u y else if y = Str.ofString "rows" then some (Value.ref R) else if y = Str.ofString "numbers" then some (Value.ref Ln) else m₀ y)) :
    Fr base Lc h (fun z => if z = Str.ofString "size" then some (.int sz tsz) else if z = Str.ofString "number" then (fun _ => some (Value.int n t)) z else if z = Str.ofString "rows" then some (.ref R) else if z = Str.ofString "numbers" then some (.ref Ln) else m₀ z) := by
  have e : (fun y => if y = Str.ofString "number" then some (Value.int n t) else if y = Str.ofString "size" then some (Value.int sz tsz) else if y = Str.ofString "number" then u y else if y = Str.ofString "rows" then some (Value.ref R) else if y = Str.ofString "numbers" then some (Value.ref Ln) else m₀ y) =
      (fun z => if z = Str.ofString "size" then some (.int sz tsz) else if z = Str.ofString "number" then some (Value.int n t) else if z = Str.ofString "rows" then some (.ref R) else if z = Str.ofString "numbers" then some (.ref Ln) else m₀ z) := by
    funext z
    by_cases h1 : z = Str.ofString "number"
    · subst h1
      rw [if_pos rfl, if_neg (by decide), if_pos rfl]
    · simp only [if_neg h1]
  rw [e] at F
  exact F

theorem rows_turn {w : World} {p : Program} {loose : List Str} {mg mb : Str → Option Value} {A : Around} {s : Shared} {Q : Flow → Shared → Prop}
    {base : Heap} {Lc R Gl D L I Ln : Nat} {oG oD oL oI : Obj} {vals vn : List Value} {ns : List Int} {ep : Nat} {u m₀ : Str → Option Value} {sz : Int} {tsz : Tok}
    (X : (hd.heap_39 w.params).In base) (T : TopRead p loose mg mb base)
    (F : Fr base Lc s.heap (fun z => if z = Str.ofString "size" then some (.int sz tsz) else if z = Str.ofString "number" then u z else if z = Str.ofString "rows" then some (.ref R) else if z = Str.ofString "numbers" then some (.ref Ln) else m₀ z))
    (N : News base Lc s.heap [(R, listOf vals.toArray ep), (Gl, oG), (D, oD), (L, oL), (I, oI)])
    (hn : base.IsList Ln vn.toArray) (hi : IntsAre vn ns) (hlen : ns.length = 7) (hv : vals.length < 7) (hsz : 1 ≤ sz ∧ sz ≤ 4)
    (d1 : R ≠ Gl) (d2 : R ≠ D) (d3 : R ≠ L) (d4 : R ≠ I)
    (hnext : ∀ (h' : Heap) (tk : Nat) (t : Tok) (u' : Str → Option Value), Fr base Lc h' (fun z => if z = Str.ofString "size" then some (.int sz tsz) else if z = Str.ofString "number" then u' z else if z = Str.ofString "rows" then some (.ref R) else if z = Str.ofString "numbers" then some (.ref Ln) else m₀ z) →
      News base Lc h' [(R, listOf (vals.toArray.push (.str (rowStr (ns.getD vals.length 0) sz) t)) (ep + 1)), (Gl, oG), (D, oD), (L, oL), (I, oI)] →
      (vals.length + 1 = 7 → Q .brk { s with heap := h', toks := tk }) ∧ (vals.length + 1 ≠ 7 → Q .next { s with heap := h', toks := tk })) :
    wpAny (model Challenge.rw_re0038_01.row.prog w) A (execs (forBody rFor) (rEnv Lc)) Q (fun _ _ => False) s := by
  revert X
  k_fill
  intro X
  dsimp only [rEnv]
  show wpAny _ _ (execs (_ :: _) _) _ _ _
  ktr_unf
  refine len_list (items := vals.toArray) ⟨_, (N _ (List.Mem.head _)).1, rfl, _, rfl⟩ (by simp; omega) ?_
  have hsz0 : (vals.toArray.size : Int) = (vals.length : Int) := by simp
  rw [hsz0]
  ktr_unf
  all_goals (
    rename Fr _ _ _ _ => F2
    rename News _ _ _ _ => N2
    refine len_list (items := vals.toArray.push _) ⟨_, (N2 _ (.tail _ (List.Mem.head _))).1, rfl, _, rfl⟩ (by simp; omega) ?_
    rw [Array.size_push, List.size_toArray])
  · have er : Txt.item (Str.ofString ".a") ((ns.getD ((vals.length : Int)).toNat 0).fmod 2) ++ Txt.mul (Str.ofString "b") (sz - 1) ++ Str.ofString "\n" = rowStr (ns.getD vals.length 0) sz := by
      rename (_ : Int) = 0 => e0
      rw [Int.toNat_natCast] at e0 ⊢
      unfold rowStr lineEnd
      rw [if_pos e0]
    rw [er] at N2
    have F3 := rowsFr F2
    have K := fun tk => hnext _ tk _ _ F3 (fun q hq => N2 q (.tail _ hq))
    ktr_unf
    · exact (K _).1 (by omega)
    · exact (K _).2 (by omega)
  · have er : Txt.item (Str.ofString ".a") ((ns.getD ((vals.length : Int)).toNat 0).fmod 2) ++ Txt.mul (Str.ofString "b") (sz - 1) ++ Str.ofString "\r" = rowStr (ns.getD vals.length 0) sz := by
      rename (_ : Int) = 1 => e0
      rw [Int.toNat_natCast] at e0 ⊢
      unfold rowStr lineEnd
      rw [if_neg (by rw [e0]; decide), if_pos e0]
    rw [er] at N2
    have F3 := rowsFr F2
    have K := fun tk => hnext _ tk _ _ F3 (fun q hq => N2 q (.tail _ hq))
    ktr_unf
    · exact (K _).1 (by omega)
    · exact (K _).2 (by omega)
  · have er : Txt.item (Str.ofString ".a") ((ns.getD ((vals.length : Int)).toNat 0).fmod 2) ++ Txt.mul (Str.ofString "b") (sz - 1) ++ Str.ofString "\r\n" = rowStr (ns.getD vals.length 0) sz := by
      rename (_ : Int) = 2 => e0
      rw [Int.toNat_natCast] at e0 ⊢
      unfold rowStr lineEnd
      rw [if_neg (by rw [e0]; decide), if_neg (by rw [e0]; decide)]
    rw [er] at N2
    have F3 := rowsFr F2
    have K := fun tk => hnext _ tk _ _ F3 (fun q hq => N2 q (.tail _ hq))
    ktr_unf
    · exact (K _).1 (by omega)
    · exact (K _).2 (by omega)
end Mine
end

-- part Rows3a
section
open PySem PySem.W PySem.Calls PyProof.Rows
set_option maxRecDepth 100000
set_option maxHeartbeats 8000000
namespace Mine
local macro_rules | `(tactic| ktr_unf) => `(tactic| repeat' (first | (k_unfold; (try dsimp only)) | ((fail_if_success (with_reducible show wpAny _ _ (call (Value.ref 65) _ _) _ _ _)); (fail_if_success (with_reducible show wpAny _ _ (exec (Stmt.For _ _ _ _ _) _) _ _ _)); first | walk1 | (dsimp only; walk1)) | fail "no step"))

theorem set_push {G : Array GenState} {x y : GenState} : (G.push x).setIfInBounds G.size y = G.push y := by
  apply Array.ext'
  simp [List.set_append]

/-- the loop of _law_rows between two turns -/
structure RI (w : World) (A : Around) (s : Shared) (g : Heap) (L R Gl D Lg Ln : Nat) (oG oD : Obj) (m₀ : Str → Option Value) (vs7 : List Int) (ns : List Int) (n : Nat) (st : Shared) (vals : List Value) (ep : Nat) (h : Heap) (tk : Nat) (gs : GenState) (I : Nat) (oI oL : Obj) (u : Str → Option Value) : Prop where
  st : st = { s with heap := h, toks := tk, gens := s.gens.push gs }
  bare : gs.bare = true
  F : Fr g L h (fun z => if z = Str.ofString "size" then u z else if z = Str.ofString "number" then u z else if z = Str.ofString "rows" then some (.ref R) else if z = Str.ofString "numbers" then some (.ref Ln) else m₀ z)
  N : News g L h [(R, listOf vals.toArray ep), (Gl, oG), (D, oD), (Lg, oL), (I, oI)]
  ys : StrsAre vals ((List.range vals.length).map fun i => rowStr (ns.getD i 0) (vs7.getD i 0))
  len : vals.length + n = 7
  pos : 0 < n
  ne : Lg ≤ I
  go : ∀ s2 : Shared, (∀ (b : Nat) o, g.get? b = some o → s2.heap.get? b = some o) → s2.heap.get? Gl = some oG → s2.heap.get? Lg = some oL → s2.heap.get? I = some oI → s2.heap.get? D = some oD →
    gs.Goes (model Challenge.rw_re0038_01.row.prog w) A.in1 GR (GY g Gl Lg D vs7) n (.send .none) s2

theorem strs_append {vs ws : List Value} {xs ys : List Str} (h : StrsAre vs xs) (h2 : StrsAre ws ys) : StrsAre (vs ++ ws) (xs ++ ys) := by
  induction h with
  | nil => exact h2
  | cons _ _ _ ih => exact .cons _ _ ih

theorem rows_step {w : World} {p : Program} {loose : List Str} {mg mb : Str → Option Value} {A : Around} {s : Shared} {g : Heap} {L R Gl D Lg Ln : Nat} {oG oD : Obj} {m₀ : Str → Option Value} {vs7 ns : List Int} {n : Nat} {st : Shared} {vals : List Value} {ep : Nat} {h : Heap} {tk : Nat} {gs : GenState} {I : Nat} {oI oL : Obj} {u : Str → Option Value} {Q : Option Value → Shared → Prop} {E : Value → Shared → Prop}
    (V : RI w A s g L R Gl D Lg Ln oG oD m₀ vs7 ns n st vals ep h tk gs I oI oL u) (X : (hd.heap_39 w.params).In g) (T : TopRead p loose mg mb g)
    (hh : A.handled = none) (hroom : A.depth < recursionLimit) (hD : oD.cls = .type "generator" ∧ (∃ nm qn, oD.data = .fields #[.int s.gens.size 0, nm, qn]) ∧ oD.slots = #[])
    (lR : R < Lg) (lG : Gl < Lg) (lL : L < Lg)
    (hQ : ∀ (h2 : Heap) (tk2 : Nat) (gs2 : GenState) (I2 : Nat) (oI2 oL2 : Obj) (t : Tok), gs2.bare = true → Lg ≤ I2 →
      Fr g L h2 (fun z => if z = Str.ofString "size" then u z else if z = Str.ofString "number" then u z else if z = Str.ofString "rows" then some (.ref R) else if z = Str.ofString "numbers" then some (.ref Ln) else m₀ z) →
      News g L h2 [(R, listOf vals.toArray ep), (Gl, oG), (D, oD), (Lg, oL2), (I2, oI2)] →
      (n ≠ 1 → ∀ s2 : Shared, (∀ (b : Nat) o, g.get? b = some o → s2.heap.get? b = some o) → s2.heap.get? Gl = some oG → s2.heap.get? Lg = some oL2 → s2.heap.get? I2 = some oI2 → s2.heap.get? D = some oD →
        gs2.Goes (model Challenge.rw_re0038_01.row.prog w) A.in1 GR (GY g Gl Lg D vs7) (n - 1) (.send .none) s2) →
      Q (some (.int (vs7.getD vals.length 0) t)) { s with heap := h2, toks := tk2, gens := s.gens.push gs2 }) :
    wpAny (model Challenge.rw_re0038_01.row.prog w) A (pyNext (.ref D)) Q E st := by
  have hst := V.st
  subst hst
  have hDo := (V.N (D, oD) (by repeat (first | exact List.Mem.head _ | apply List.Mem.tail))).1
  obtain ⟨hDc, ⟨nm, qn, hDd⟩, hDs⟩ := hD
  have hgs : ({ s with heap := h, toks := tk, gens := s.gens.push gs } : Shared).gens[s.gens.size]? = some gs := by simp
  have hlim : h.NoLimit := (T.keeps V.F.keep).nolimit
  refine pyNext_genQ (n := n) hh hlim hroom ⟨oD, nm, qn, hDo, hDc, hDd, hDs⟩ hgs (V.go _ V.F.keep (V.N (Gl, oG) (by repeat (first | exact List.Mem.head _ | apply List.Mem.tail))).1 (V.N (Lg, oL) (by repeat (first | exact List.Mem.head _ | apply List.Mem.tail))).1 (V.N (I, oI) (by repeat (first | exact List.Mem.head _ | apply List.Mem.tail))).1 hDo) ?_
  intro v s₁ gs2 hb hy
  obtain ⟨⟨t, hv⟩, ⟨h2, tk2, hs1, hlow, hDk⟩, I2, oI2, oL2, hI2, hL2, hlt, hne, hk⟩ := hy
  subst hs1 hv
  have hpos := V.pos
  have hlen := V.len
  have e6 : 6 - (n - 1) = vals.length := by omega
  rw [e6]
  dsimp only [Shared.setGen] at hlow hDk hI2 hL2 hk ⊢
  rw [set_push, set_push]
  have hgs : g.objs.size ≤ L := V.F.above
  have F2 : Fr g L h2 _ := ⟨V.F.ns.at' fun o => hlow L o lL, fun b o e => hlow b o (Nat.lt_of_lt_of_le (Nat.lt_of_lt_of_le (Heap.lt_size e) hgs) (Nat.le_of_lt lL)) (V.F.keep b o e), hgs⟩
  have gn : ∀ b : Nat, Lg ≤ b → g.get? b = none := fun b hb => by
    cases e : g.get? b with
    | none => rfl
    | some o => have h9 : b < g.objs.size := Heap.lt_size e; have h8 : g.objs.size ≤ L := hgs; omega
  refine hQ h2 tk2 gs2 I2 oI2 oL2 t hb (Nat.le_of_lt hlt) F2 ?_ ?_
  · intro q hq
    simp only [List.mem_cons, List.not_mem_nil, or_false] at hq
    rcases hq with rfl | rfl | rfl | rfl | rfl
    · have q := V.N (R, listOf vals.toArray ep) (by repeat (first | exact List.Mem.head _ | apply List.Mem.tail)); exact ⟨hlow _ _ lR q.1, q.2⟩
    · have q := V.N (Gl, oG) (by repeat (first | exact List.Mem.head _ | apply List.Mem.tail)); exact ⟨hlow _ _ lG q.1, q.2⟩
    · have q := V.N (D, oD) (by repeat (first | exact List.Mem.head _ | apply List.Mem.tail)); exact ⟨hDk _ q.1, q.2⟩
    · exact ⟨hL2, Nat.ne_of_gt lL, gn _ (Nat.le_refl _)⟩
    · exact ⟨hI2, Nat.ne_of_gt (Nat.lt_trans lL hlt), gn _ (Nat.le_of_lt hlt)⟩
  · intro hn1 s2 k1 kG k2 k3 k4
    have r := hk (by omega) s2 k1 (fun o e => by rw [hlow _ _ lG (V.N (Gl, oG) (by repeat (first | exact List.Mem.head _ | apply List.Mem.tail))).1] at e; cases e; exact kG) k2 k3 (fun o e => by rw [hDk _ hDo] at e; cases e; exact k4)
    obtain ⟨m, rfl⟩ : ∃ m, n = m + 1 := ⟨n - 1, by omega⟩
    exact r

end Mine
end

-- part Rows3
section
open PySem PySem.W PySem.Calls PyProof.Rows
set_option maxRecDepth 100000
set_option maxHeartbeats 8000000
namespace Mine
local macro_rules | `(tactic| ktr_unf) => `(tactic| repeat' (first | (k_unfold; (try dsimp only)) | ((fail_if_success (with_reducible show wpAny _ _ (call (Value.ref 65) _ _) _ _ _)); (fail_if_success (with_reducible show wpAny _ _ (exec (Stmt.For _ _ _ _ _) _) _ _ _)); first | walk1 | (dsimp only; walk1)) | fail "no step"))

theorem rowsFr2 {base h : Heap} {Lc R Ln : Nat} {v : Value} {u m₀ : Str → Option Value} (F : Fr base Lc h (fun y => if y = Str.ofString "size" then some v else if y = Str.ofString "size" then u y else if y = Str.ofString "number" then u y else if y = Str.ofString "rows" then some (Value.ref R) else if y = Str.ofString "numbers" then some (Value.ref Ln) else m₀ y)) :
    Fr base Lc h (fun z => if z = Str.ofString "size" then some v else if z = Str.ofString "number" then u z else if z = Str.ofString "rows" then some (.ref R) else if z = Str.ofString "numbers" then some (.ref Ln) else m₀ z) := by
  have e : (fun y => if y = Str.ofString "size" then some v else if y = Str.ofString "size" then u y else if y = Str.ofString "number" then u y else if y = Str.ofString "rows" then some (Value.ref R) else if y = Str.ofString "numbers" then some (Value.ref Ln) else m₀ y) =
      (fun z => if z = Str.ofString "size" then some v else if z = Str.ofString "number" then u z else if z = Str.ofString "rows" then some (.ref R) else if z = Str.ofString "numbers" then some (.ref Ln) else m₀ z) := by
    funext z
    by_cases h1 : z = Str.ofString "size"
    · simp only [if_pos h1]
    · simp only [if_neg h1]
  rw [e] at F
  exact F
theorem rowsFr3 {base h : Heap} {Lc R Ln : Nat} {v : Value} {u m₀ : Str → Option Value} (F : Fr base Lc h (fun z => if z = Str.ofString "size" then some v else if z = Str.ofString "number" then u z else if z = Str.ofString "rows" then some (.ref R) else if z = Str.ofString "numbers" then some (.ref Ln) else m₀ z)) :
    Fr base Lc h (fun z => if z = Str.ofString "size" then (fun y => if y = Str.ofString "size" then some v else u y) z else if z = Str.ofString "number" then (fun y => if y = Str.ofString "size" then some v else u y) z else if z = Str.ofString "rows" then some (.ref R) else if z = Str.ofString "numbers" then some (.ref Ln) else m₀ z) := by
  have e : (fun z => if z = Str.ofString "size" then some v else if z = Str.ofString "number" then u z else if z = Str.ofString "rows" then some (.ref R) else if z = Str.ofString "numbers" then some (.ref Ln) else m₀ z) =
      (fun z => if z = Str.ofString "size" then (fun y => if y = Str.ofString "size" then some v else u y) z else if z = Str.ofString "number" then (fun y => if y = Str.ofString "size" then some v else u y) z else if z = Str.ofString "rows" then some (.ref R) else if z = Str.ofString "numbers" then some (.ref Ln) else m₀ z) := by
    funext z
    by_cases h1 : z = Str.ofString "size"
    · simp only [if_pos h1]
    · simp only [if_neg h1]
  rw [e] at F
  exact F

theorem rows_C {w : World} {p : Program} {loose : List Str} {mg mb : Str → Option Value} {A : Around} {s : Shared} {Q E : Value → Shared → Prop}
    {Ls Ln : Addr} {ta tb tc : Tok} {a b c : Int} {vn : List Value} {ns : List Int} {e1 e2 : Nat}
    (X : (hd.heap_39 w.params).In s.heap) (T : TopRead p loose mg mb s.heap) (hh : A.handled = none)
    (hs : s.heap.get? Ls = some (listOf #[.int a ta, .int b tb, .int c tc] e1)) (hn : s.heap.get? Ln = some (listOf vn.toArray e2)) (hi : IntsAre vn ns) (hlen : ns.length = 7)
    (ha : 1 ≤ a ∧ a ≤ 4) (hb : 1 ≤ b ∧ b ≤ 4) (hc : 1 ≤ c ∧ c ≤ 4)
    (hdp : A.depth + 2 < recursionLimit) (hu : A.units + 16 < cLine)
    (hret : ∀ (h' : Heap) (tk : Nat) (gs : GenState) (R : Addr) (vals : List Value) (ep : Nat), gs.bare = true → Le s.heap h' → s.heap.get? R = none → h'.get? R = some (listOf vals.toArray ep) →
      StrsAre vals ((List.range 7).map fun i => rowStr (ns.getD i 0) ([a, b, c, c, c, c, c].getD i 0)) → Q (.ref R) { s with heap := h', toks := tk, gens := s.gens.push gs }) :
    wpAny (model Challenge.rw_re0038_01.row.prog w) A (call (.ref 89) [.ref Ls, .ref Ln]) Q E s := by
  revert X
  k_fill
  intro X
  refine wpAny_call ?_
  refine' enterN (binds := [(Str.ofString "sizes", .ref Ls), (Str.ofString "numbers", .ref Ln)]) (news := []) X T.nolimit ?n ?k6 ?k7 ?k8 ?k9 ?kB ?_ ?c2 ?c3 ?c4 ?c5
  case k6 => k_is
  case k7 => k_is
  case k8 => omega
  case k9 => exact kp_binds X (fun _ => by kernel_rfl)
  case kB => exact locs rfl
  case c2 => exact rfl
  case c3 => exact rfl
  case c4 => exact rfl
  case c5 => decide
  case n => exact fun _ h => nomatch h
  intro g L h₁ hg F N hlt
  replace X := X.keeps (fun b o e => hg b o e (by simp))
  replace T := T.keeps (fun b o e => hg b o e (by simp))
  have hn' : g.IsList Ln vn.toArray := ⟨_, hg _ _ hn (by simp), rfl, _, rfl⟩
  have hs' : g.IsList Ls #[.int a ta, .int b tb, .int c tc] := ⟨_, hg _ _ hs (by simp), rfl, _, rfl⟩
  have hsi : IntsAre [.int a ta, .int b tb, .int c tc] [a, b, c] := .cons _ _ (.cons _ _ (.cons _ _ .nil))
  dsimp only
  ktr_unf
  refine wpAny_For ?_
  ktr_unf
  rename Fr _ _ _ _ => F1
  rename News _ _ _ _ => N1
  rename _ ∧ _ => lA
  rename_i R0 _ _ _ L0 _ lB G0 hh1
  refine wpAny_call ?_
  refine' enterGen (binds := [(Str.ofString "grouping", .ref G0)]) (X.keeps F1.keep) (T.keeps F1.keep).nolimit ?k6 ?k7 ?k8 ?k9 ?kB ?_ ?c2 ?c3 ?c4 ?c5
  case k6 => k_is
  case k7 => k_is
  case k8 => simp only [depth_deeper]; omega
  case k9 => exact kp_binds (X.keeps F1.keep) (fun _ => by kernel_rfl)
  case kB => exact locs rfl
  case c2 => exact rfl
  case c3 => exact rfl
  case c4 => exact rfl
  case c5 => decide
  intro h2 tk2 nm qn hsz2 F2
  dsimp only at hsz2 F2 ⊢
  have l117 : 117 ≤ hh1.objs.size := by
    obtain ⟨o, ho⟩ := Option.isSome_iff_exists.mp (show ((hd.heap_39 w.params).lookup 116).isSome = true by kernel_rfl)
    exact Heap.lt_size (F1.keep _ _ (X _ _ ho))
  have hLL : L < hh1.objs.size := F1.ns.lt
  have lG : G0 < hh1.objs.size := Heap.lt_size (N1 _ (List.Mem.head _)).1
  have lR : R0 < hh1.objs.size := Heap.lt_size (N1 _ (.tail _ (.tail _ (List.Mem.head _)))).1
  have hgL : g.objs.size ≤ L := F1.above
  have gn : ∀ b : Nat, hh1.objs.size ≤ b → g.get? b = none := fun b hb => by
    cases e : g.get? b with
    | none => rfl
    | some o => exact absurd (Nat.lt_of_lt_of_le (Nat.lt_trans (Nat.lt_of_lt_of_le (Heap.lt_size e) hgL) hLL) hb) (Nat.lt_irrefl _)
  have hDL : hh1.objs.size ≤ h2.objs.size := by omega
  obtain ⟨oL, esL, epL, hL, hL2⟩ := id F2.ns
  have Le1 : Le hh1 (h2.push { cls := .type "generator", data := .fields #[.int s.gens.size 0, nm, qn] }) := fun b o e => Heap.get?_push_of_some _ (F2.keep b o e)
  refine wpAny_pyIter_gen ⟨_, nm, qn, Heap.get?_push_size _ rfl, rfl, rfl, rfl⟩ ?_
  refine codeAny_forLoop_any (fun n st => ∃ vals ep h tk' gs I oI oL u, RI w (A.deeper (rEnv L)) s g L R0 G0 h2.objs.size hh1.objs.size Ln (listOf #[.int a ta, .int b tb, .int c tc, .int 0 tk] 0) { cls := .type "generator", data := .fields #[.int s.gens.size 0, nm, qn] } (fun y => List.lookup y [(Str.ofString "sizes", Value.ref Ls), (Str.ofString "numbers", Value.ref Ln)].reverse) [a, b, c, c, c, c, c] ns n st vals ep h tk' gs I oI oL u) ?turn 7 ?start
  case start =>
    refine ⟨[], 0, h2.push { cls := .type "generator", data := .fields #[.int s.gens.size 0, nm, qn] }, tk2, .fresh _, h2.objs.size, { cls := .type "generator", data := .fields #[.int s.gens.size 0, nm, qn] }, oL, fun _ => none, ⟨rfl, rfl, ?_, ?_, .nil, rfl, by decide, ?_, ?_⟩⟩
    · have e : (fun y => if y = Str.ofString "rows" then some (Value.ref R0) else List.lookup y [(Str.ofString "sizes", Value.ref Ls), (Str.ofString "numbers", Value.ref Ln)].reverse) =
          (fun z => if z = Str.ofString "size" then (fun _ => none) z else if z = Str.ofString "number" then (fun _ => none) z else if z = Str.ofString "rows" then some (.ref R0) else if z = Str.ofString "numbers" then some (.ref Ln) else List.lookup z [(Str.ofString "sizes", Value.ref Ls), (Str.ofString "numbers", Value.ref Ln)].reverse) := by
        funext z
        by_cases h1 : z = Str.ofString "size"
        · subst h1; rfl
        · by_cases h2 : z = Str.ofString "number"
          · subst h2; rfl
          · by_cases h3 : z = Str.ofString "numbers"
            · subst h3; rfl
            · simp only [if_neg h1, if_neg h2, if_neg h3]
      rw [e] at F1
      exact Fr_le F1 Le1
    · intro q hq
      simp only [List.mem_cons, List.not_mem_nil, or_false] at hq
      rcases hq with rfl | rfl | rfl | rfl | rfl
      · have q := N1 _ (.tail _ (.tail _ (List.Mem.head _))); exact ⟨Le1 _ _ q.1, q.2⟩
      · have q := N1 _ (List.Mem.head _); exact ⟨Le1 _ _ q.1, q.2⟩
      · exact ⟨Heap.get?_push_size _ rfl, Nat.ne_of_gt (Nat.lt_of_lt_of_le hLL hDL), gn _ hDL⟩
      · exact ⟨Heap.get?_push_of_some _ hL, Nat.ne_of_gt hLL, gn _ (Nat.le_refl _)⟩
      · exact ⟨Heap.get?_push_size _ rfl, Nat.ne_of_gt (Nat.lt_of_lt_of_le hLL hDL), gn _ hDL⟩
    · exact hDL
    · intro s2 k1 kG k2 k3 k4
      have low : ∀ (b : Nat) o, b < 117 → g.get? b = some o → (trunc s2.heap hh1.objs.size).get? b = some o := fun b o hb e => trunc_get.mpr ⟨by omega, k1 b o e⟩
      refine ⟨rfl, gen_seg (oD := { cls := .type "generator", data := .fields #[.int s.gens.size 0, nm, qn] }) (ta := ta) (tb := tb) (tc := tc) (tz := tk) (Gl := G0) rfl ha hb hc (m := fun y => List.lookup y [(Str.ofString "grouping", Value.ref G0)].reverse) rfl ⟨⟨oL, esL, epL, k2, hL2⟩, fun b o e => (trunc_get.mp e).2, trunc_size _ _⟩ ?_ (In_low X low) (Top_low T low) ?_ (by omega) l117 lG X T⟩
      · intro q hq
        simp only [List.mem_cons, List.not_mem_nil, or_false] at hq
        subst hq
        refine ⟨k4, Nat.ne_of_gt (by omega), ?_⟩
        cases e : (trunc s2.heap hh1.objs.size).get? h2.objs.size with
        | none => rfl
        | some o => have := (trunc_get.mp e).1; omega
      · exact ⟨_, trunc_get.mpr ⟨lG, kG⟩, rfl, _, rfl⟩
  case turn =>
    clear F1 N1
    rintro n st ⟨vals, ep, h, tk', gs, I, oI, oL', u, V⟩
    have hn7 := V.len
    have hpos := V.pos
    refine rows_step V X T hh (by simp only [depth_deeper]; omega) ⟨rfl, ⟨nm, qn, rfl⟩, rfl⟩ lR lG hLL ?_
    intro h3 tk3 gs3 I3 oI3 oL3 t hbare hI3 F3 N3 hgo3
    dsimp only
    refine wpAny_of_eq (a := ()) rfl ?_
    have hrange : 1 ≤ [a, b, c, c, c, c, c].getD vals.length 0 ∧ [a, b, c, c, c, c, c].getD vals.length 0 ≤ 4 := by
      rcases (by omega : vals.length = 0 ∨ vals.length = 1 ∨ vals.length = 2 ∨ vals.length = 3 ∨ vals.length = 4 ∨ vals.length = 5 ∨ vals.length = 6) with q | q | q | q | q | q | q <;> rw [q] <;> first | exact ha | exact hb | exact hc
    show wpAny _ _ (assign (.Name (Str.ofString "size") _) (rEnv L) _) _ _ _
    dsimp only [rEnv]
    walk1
    walk1
    rename Fr _ _ _ _ => F4
    rename News _ _ _ _ => N4
    have F5 := rowsFr2 F4
    have d1 : R0 ≠ G0 := Nat.ne_of_lt lA.2
    have d2 : R0 ≠ h2.objs.size := Nat.ne_of_lt (Nat.lt_of_lt_of_le lR hDL)
    have d3 : R0 ≠ hh1.objs.size := Nat.ne_of_lt lR
    have d4 : R0 ≠ I3 := Nat.ne_of_lt (Nat.lt_of_lt_of_le lR hI3)
    refine wpAny_mono (rows_turn (R := R0) (Gl := G0) (Ln := Ln) (Lc := L) X T F5 N4 hn' hi hlen (by omega) hrange d1 d2 d3 d4 (Q := _) ?_) (fun _ _ x => x) (fun _ _ x => x.elim)
    intro h6 tk6 t6 u6 F6 N6
    have hys : StrsAre (vals ++ [Value.str (rowStr (ns.getD vals.length 0) ([a, b, c, c, c, c, c].getD vals.length 0)) t6]) ((List.range (vals.length + 1)).map fun i => rowStr (ns.getD i 0) ([a, b, c, c, c, c, c].getD i 0)) := by
      rw [List.range_succ, List.map_append]
      exact strs_append V.ys (.cons _ _ .nil)
    have epush : (vals.toArray.push (Value.str (rowStr (ns.getD vals.length 0) ([a, b, c, c, c, c, c].getD vals.length 0)) t6)) = (vals ++ [Value.str (rowStr (ns.getD vals.length 0) ([a, b, c, c, c, c, c].getD vals.length 0)) t6]).toArray := by simp
    rw [epush] at N6
    refine ⟨fun h7 => ?_, fun h7 => ?_⟩
    · dsimp only
      ktr_unf
      rw [h7] at hys
      refine hret _ _ _ _ _ _ hbare (fun b o e => F6.keep b o (hg b o e (by simp))) ?_ (N6 _ (List.Mem.head _)).1 hys
      cases e : s.heap.get? R0 with
      | none => rfl
      | some o => have := hg _ _ e (by simp); have q := (N6 _ (List.Mem.head _)).2.2; rw [this] at q; cases q
    · refine ⟨n - 1, by omega, vals ++ [_], ep + 1, h6, tk6, gs3, I3, oI3, oL3, _, ⟨rfl, hbare, rowsFr3 F6, N6, ?_, by simp; omega, by omega, hI3, ?_⟩⟩
      · simp only [List.length_append, List.length_cons, List.length_nil]
        exact hys
      · exact hgo3 (by omega)
end Mine
end

-- part EnterC
section
open PySem PySem.W PySem.Calls PyProof.Rows
set_option maxRecDepth 100000
namespace Mine
/-- a def with cells entered -/
theorem enterC {w : World} {A : Around} {s : Shared} {R : Result → Shared → Prop} {K : Frag} {news : List (Addr × Obj)}
    {name qual : Str} {params : Arguments} {body : List Stmt} {scope : Scope} {dV kV doc pm cdv ct oc : Value} {an od : Option Addr} {osl : Array (Option Value)} {f : Addr} {args : Args} {binds : List (Str × Value)}
    (X : K.In s.heap) (hlim : s.heap.NoLimit) (N : ∀ p ∈ news, s.heap.get? p.1 = some p.2)
    (ho : K.lookup f = some ⟨oc, od, .func (fnOf name qual params body scope dV kV doc pm an cdv ct), osl⟩) (hcd : codeIn K cdv qual = true) (hroom : A.depth < recursionLimit)
    (hbind : BindsTo s (fnOf name qual params body scope dV kV doc pm an cdv ct) args binds) (hkind : (binds.all fun y => scope.names.lookup y.1 == some .local || scope.names.lookup y.1 == some .cell) = true)
    (hnd : ((cellsFrom 0 scope.names []).map (·.1)).Nodup)
    (h : ∀ g L h₁ tk cells, (∀ b o, s.heap.get? b = some o → b ∉ news.map (·.1) → g.get? b = some o) → Fr g L h₁ (bindL (envOfC qual scope L f cdv).kindOf binds fun _ => none) → News g L h₁ (cells ++ news) →
      CellsAre (bindC (envOfC qual scope L f cdv).kindOf binds fun _ => none) (cellsFrom (L + 1) scope.names []) cells → (∀ p ∈ news, p.1 < L) →
      wpAny (model Challenge.rw_re0038_01.row.prog w) (A.deeper (envOfC qual scope L f cdv)) (execs body (envOfC qual scope L f cdv))
        (fun fl s' => R (.ok (.ret (match fl with | .ret v => v | _ => .none))) s') (fun _ _ => False)
        { s with heap := h₁, toks := tk })
    (hco : scope.isCoroutine = false := by rfl) (hgen : scope.isGenerator = false := by rfl) (hk : scope.kind = .function := by rfl) : codeAny (model Challenge.rw_re0038_01.row.prog w) A (.call (.ref f) args) R s := by
  refine codeAny_call_function (fd := fnOf name qual params body scope dV kV doc pm an cdv ct) hroom (X _ _ ho) rfl hco hgen rfl (codeRec_of X hcd) (hbind _ _ _ _ ?_)
  refine wpAny_newFunctionEnv_cells hk (kindsX hkind _) fun env' he s' x => ?_
  subst he
  have stays := x.toInCall.keep
  refine ⟨hlim.keeps stays, codeAny_func ?_⟩
  obtain ⟨h₁, tk, rfl, _⟩ := x.done
  obtain ⟨cells, NC, Y⟩ := Cl.news (h₀ := s.heap) (Nat.le_refl _) fun n c hm => ⟨x.cell n c (lookup_of_mem_nodup (cellsFrom_names scope.names 0 (s.heap.objs.size + 1) [] [] rfl ▸ hnd) hm), x.above n c hm⟩
  have fresh : ∀ p ∈ cells ++ news, h₁.get? p.1 = some p.2 ∧ p.1 ≠ s.heap.objs.size ∧ (hideAll s.heap (news.map (·.1))).get? p.1 = none := by
    intro p hp
    rcases List.mem_append.mp hp with hc | hw
    · obtain ⟨e1, e2, e3⟩ := NC p hc
      refine ⟨e1, e2, ?_⟩
      cases q : (hideAll s.heap (news.map (·.1))).get? p.1 with
      | none => rfl
      | some o => rw [of_hideAll _ q] at e3; cases e3
    · exact ⟨stays _ _ (N p hw), Nat.ne_of_lt (Heap.lt_size (N p hw)), hideAll_none _ (List.mem_map_of_mem hw)⟩
  exact wpAny_mono (h _ s.heap.objs.size h₁ tk cells (fun b o e n => hideAll_get _ e n) ⟨x.toInCall.ns, fun b o e => stays b o (of_hideAll _ e), Nat.le_of_eq (hideAll_size _ _)⟩ fresh Y (fun p hp => Heap.lt_size (N p hp))) (fun _ _ y => y) fun _ _ y => y.elim
end Mine
end

-- part Det
section
open PySem
namespace Mine
/-- what a run of a tree must be -/
def Inv (M : Model) (Γ : Ctx) (p : Pos) (s : Shared) (e : End) (s' : Shared) : Sem Fin → Prop
  | .pure (.done f) => e = .ret (.ok f) ∧ s' = s
  | .pure (.again c) => Runs M (Γ.goto c) p (M.den c) [] s e s'
  | .raise x => e = .ret (.error x) ∧ s' = s
  | .rule _ k => Runs M Γ p (k ()) [] s e s'
  | .at p' k => Runs M Γ p' (k ()) [] s e s'
  | .load a _ k => ∃ o, s.heap.get? a = some o ∧ Runs M Γ p (k o) [] s e s'
  | .update a _ f k => Runs M Γ p (k ()) [] { s with heap := s.heap.update a f } e s'
  | .loadIfAlive a k => Runs M Γ p (k (s.heap.get? a)) [] s e s'
  | .point _ k => Runs M Γ p (k ()) [] s e s'
  | .alloc o k => Runs M Γ p (k s.heap.objs.size) [] { s with heap := s.heap.push o } e s'
  | .fresh k => Runs M Γ p (k s.toks) [] { s with toks := s.toks + 1 } e s'
  | .ask k => Runs M Γ p (k ⟨M.prog, M.w.params⟩) [] s e s'
  | .choose src n k => Runs M Γ p (k (M.w.draws src (s.drawn.get src) % n)) [] { s with drawn := s.drawn.bump src } e s'
  | .os q _ k => Runs M Γ p (k (Os.step s.os q).2) [] { s with os := (Os.step s.os q).1 } e s'
  | .handled own k => Runs M Γ p (k (if own then Γ.own else Γ.handled)) [] s e s'
  | .genState g k => ∃ st, s.gens[g]? = some st ∧ Runs M Γ p (k st.seen) [] s e s'
  | .stack k => Runs M Γ p (k ((Γ.code, p) :: Γ.below)) [] s e s'
  | .thread k => Runs M Γ p (k 0) [] s e s'
  | .newGen c k => Runs M Γ p (k s.gens.size) [] { s with gens := s.gens.push (.fresh c) } e s'
  | .call c h g l k => (∃ r s₁, Runs M (Γ.enter c h p) p (M.den c) [] s (.ret r) s₁ ∧ Runs M Γ p (k r) [] s₁ e s') ∨
      ∃ v g₀ l₀ k₀ c₀ p₀ fs, Runs M (Γ.enter c h p) p (M.den c) [] s (.susp v g₀ l₀ k₀ c₀ p₀ fs) s' ∧ e = .susp v g₀ l₀ k₀ c₀ p₀ (fs ++ [.ret k h g l Γ.code p []])
  | .yield v g l k => e = .susp v g l k Γ.code p [] ∧ s' = s
  | .resume g r _ k => ∃ x s₁, Wakes M Γ p g r s x s₁ ∧ Runs M Γ p (k x) [] s₁ e s'
  | _ => False
def InvR (M : Model) (Γ : Ctx) (e : End) (s' : Shared) (fs : List Frame) (r : Result) (s₁ : Shared) : Frame → Prop
  | .ret k _ _ _ c₁ p₁ _ => Runs M (Γ.goto c₁) p₁ (k r) fs s₁ e s'
  | .gen g k _ c₁ p₁ => Runs M (Γ.goto c₁) p₁ (k (End.ret r).result) fs (s₁.setGen g .finished) e s'
def InvF (M : Model) (Γ : Ctx) (p : Pos) (t : Sem Fin) (s : Shared) (e : End) (s' : Shared) (F : Frame) (fs : List Frame) : Prop :=
  (∃ r s₁, Runs M (Γ.over (F :: fs)) p t [] s (.ret r) s₁ ∧ InvR M Γ e s' fs r s₁ F) ∨
  (∃ v g₀ l₀ k₀ c₀ p₀ fs₀ s₁, Runs M (Γ.over (F :: fs)) p t [] s (.susp v g₀ l₀ k₀ c₀ p₀ fs₀) s₁ ∧
    ((splitAtGen (F :: fs) = none ∧ s' = s₁ ∧ e = .susp v g₀ l₀ k₀ c₀ p₀ (fs₀ ++ F :: fs)) ∨
     ∃ pre g k c₁ p₁ rest, splitAtGen (F :: fs) = some (pre, (g, k, c₁, p₁), rest) ∧ Runs M (Γ.goto c₁) p₁ (k (.yielded v)) rest (s₁.setGen g (End.susp v g₀ l₀ k₀ c₀ p₀ (fs₀ ++ pre)).genState) e s'))
def InvA (M : Model) (Γ : Ctx) (p : Pos) (t : Sem Fin) (s : Shared) (e : End) (s' : Shared) : List Frame → Prop
  | [] => Inv M Γ p s e s' t
  | F :: fs => InvF M Γ p t s e s' F fs
theorem inv {M : Model} {Γ : Ctx} {p : Pos} {t : Sem Fin} {fs : List Frame} {s : Shared} {e : End} {s' : Shared} (h : Runs M Γ p t fs s e s') : InvA M Γ p t s e s' fs := by
  cases h with
  | done => exact ⟨rfl, rfl⟩
  | raise => exact ⟨rfl, rfl⟩
  | again _ h => exact h
  | rule h => exact h
  | «at» h => exact h
  | load q h => exact ⟨_, q, h⟩
  | update _ h => exact h
  | loadIfAlive h => exact h
  | point h => exact h
  | alloc h => exact h
  | fresh h => exact h
  | ask h => exact h
  | choose _ h => exact h
  | os h => exact h
  | handled h => exact h
  | genState q h => exact ⟨_, q, h⟩
  | stack h => exact h
  | thread h => exact h
  | newGen h => exact h
  | call a b => exact .inl ⟨_, _, a, b⟩
  | callSusp a => exact .inr ⟨_, _, _, _, _, _, _, a, rfl⟩
  | yield => exact ⟨rfl, rfl⟩
  | resumeFresh q a w b => exact ⟨_, _, by unfold Wakes; rw [q]; exact ⟨_, _, a, w, rfl, rfl⟩, b⟩
  | resumeSuspended q a w b => exact ⟨_, _, by unfold Wakes; rw [q]; exact ⟨_, _, a, w, rfl, rfl⟩, b⟩
  | resumeJustStarted q n b =>
    refine ⟨_, _, ?_, b⟩
    unfold Wakes
    rw [q]
    dsimp only
    split
    · rename_i q'; cases q'; exact absurd rfl n
    · exact ⟨rfl, rfl⟩
    · rename_i q'; cases q'
  | resumeThrowFresh q b => exact ⟨_, _, by unfold Wakes; rw [q]; exact ⟨rfl, rfl⟩, b⟩
  | resumeRunning q b => exact ⟨_, _, by unfold Wakes; rw [q]; exact ⟨rfl, rfl⟩, b⟩
  | resumeFinished q b => exact ⟨_, _, by unfold Wakes; rw [q]; exact ⟨rfl, rfl⟩, b⟩
  | segRet a b => exact .inl ⟨_, _, a, b⟩
  | segGen a b => exact .inl ⟨_, _, a, b⟩
  | segSuspOut n a => exact .inr ⟨_, _, _, _, _, _, _, _, a, .inl ⟨n, rfl, rfl⟩⟩
  | segSuspGen n a _ b => exact .inr ⟨_, _, _, _, _, _, _, _, a, .inr ⟨_, _, _, _, _, _, n, b⟩⟩
theorem runs_det {M : Model} {Γ : Ctx} {p : Pos} {t : Sem Fin} {fs : List Frame} {s : Shared} {e : End} {s' : Shared} (h : Runs M Γ p t fs s e s') : ∀ {e₂ s₂}, Runs M Γ p t fs s e₂ s₂ → e = e₂ ∧ s' = s₂ := by
  induction h with
  | done => intro e₂ s₂ h₂; obtain ⟨a, b⟩ := inv h₂; exact ⟨a.symm, b.symm⟩
  | raise => intro e₂ s₂ h₂; obtain ⟨a, b⟩ := inv h₂; exact ⟨a.symm, b.symm⟩
  | again _ _ ih => exact fun h₂ => ih (inv h₂)
  | rule _ ih => exact fun h₂ => ih (inv h₂)
  | «at» _ ih => exact fun h₂ => ih (inv h₂)
  | load q _ ih => intro e₂ s₂ h₂; obtain ⟨o, q', h⟩ := inv h₂; cases q.symm.trans q'; exact ih h
  | update _ _ ih => exact fun h₂ => ih (inv h₂)
  | loadIfAlive _ ih => exact fun h₂ => ih (inv h₂)
  | point _ ih => exact fun h₂ => ih (inv h₂)
  | alloc _ ih => exact fun h₂ => ih (inv h₂)
  | fresh _ ih => exact fun h₂ => ih (inv h₂)
  | ask _ ih => exact fun h₂ => ih (inv h₂)
  | choose _ _ ih => exact fun h₂ => ih (inv h₂)
  | os _ ih => exact fun h₂ => ih (inv h₂)
  | handled _ ih => exact fun h₂ => ih (inv h₂)
  | genState q _ ih => intro e₂ s₂ h₂; obtain ⟨o, q', h⟩ := inv h₂; cases q.symm.trans q'; exact ih h
  | stack _ ih => exact fun h₂ => ih (inv h₂)
  | thread _ ih => exact fun h₂ => ih (inv h₂)
  | newGen _ ih => exact fun h₂ => ih (inv h₂)
  | call _ _ ih₁ ih₂ =>
    intro e₂ s₂ h₂
    rcases inv h₂ with ⟨_, _, a, b⟩ | ⟨_, _, _, _, _, _, _, a, _⟩
    · obtain ⟨q, rfl⟩ := ih₁ a; cases q; exact ih₂ b
    · obtain ⟨q, _⟩ := ih₁ a; cases q
  | callSusp _ ih₁ =>
    intro e₂ s₂ h₂
    rcases inv h₂ with ⟨_, _, a, b⟩ | ⟨_, _, _, _, _, _, _, a, w⟩
    · obtain ⟨q, _⟩ := ih₁ a; cases q
    · obtain ⟨q, rfl⟩ := ih₁ a; cases q; exact ⟨w.symm, rfl⟩
  | yield => intro e₂ s₂ h₂; obtain ⟨a, b⟩ := inv h₂; exact ⟨a.symm, b.symm⟩
  | resumeFresh q _ _ _ ih₁ ih₂ =>
    intro e₂ s₂ h₂
    obtain ⟨x, s1, w, b⟩ := inv h₂
    unfold Wakes at w
    rw [q] at w
    obtain ⟨e', u, a, _, rfl, rfl⟩ := w
    obtain ⟨rfl, rfl⟩ := ih₁ a
    exact ih₂ b
  | resumeSuspended q _ _ _ ih₁ ih₂ =>
    intro e₂ s₂ h₂
    obtain ⟨x, s1, w, b⟩ := inv h₂
    unfold Wakes at w
    rw [q] at w
    obtain ⟨e', u, a, _, rfl, rfl⟩ := w
    obtain ⟨rfl, rfl⟩ := ih₁ a
    exact ih₂ b
  | resumeJustStarted q n _ ih =>
    intro e₂ s₂ h₂
    obtain ⟨x, s1, w, b⟩ := inv h₂
    unfold Wakes at w
    rw [q] at w
    dsimp only at w
    split at w
    · rename_i q'; cases q'; exact absurd rfl n
    · obtain ⟨rfl, rfl⟩ := w; exact ih b
    · rename_i q'; cases q'
  | resumeThrowFresh q _ ih =>
    intro e₂ s₂ h₂
    obtain ⟨x, s1, w, b⟩ := inv h₂
    unfold Wakes at w
    rw [q] at w
    obtain ⟨rfl, rfl⟩ := w
    exact ih b
  | resumeRunning q _ ih =>
    intro e₂ s₂ h₂
    obtain ⟨x, s1, w, b⟩ := inv h₂
    unfold Wakes at w
    rw [q] at w
    obtain ⟨rfl, rfl⟩ := w
    exact ih b
  | resumeFinished q _ ih =>
    intro e₂ s₂ h₂
    obtain ⟨x, s1, w, b⟩ := inv h₂
    unfold Wakes at w
    rw [q] at w
    obtain ⟨rfl, rfl⟩ := w
    exact ih b
  | segRet _ _ ih₁ ih₂ =>
    intro e₂ s₂ h₂
    rcases inv h₂ with ⟨_, _, a, b⟩ | ⟨_, _, _, _, _, _, _, _, a, _⟩
    · obtain ⟨q, rfl⟩ := ih₁ a; cases q; exact ih₂ b
    · obtain ⟨q, _⟩ := ih₁ a; cases q
  | segGen _ _ ih₁ ih₂ =>
    intro e₂ s₂ h₂
    rcases inv h₂ with ⟨_, _, a, b⟩ | ⟨_, _, _, _, _, _, _, _, a, _⟩
    · obtain ⟨q, rfl⟩ := ih₁ a; cases q; exact ih₂ b
    · obtain ⟨q, _⟩ := ih₁ a; cases q
  | segSuspOut n _ ih₁ =>
    intro e₂ s₂ h₂
    rcases inv h₂ with ⟨_, _, a, b⟩ | ⟨_, _, _, _, _, _, _, _, a, ⟨_, w1, w2⟩ | ⟨_, _, _, _, _, _, n', _⟩⟩
    · obtain ⟨q, _⟩ := ih₁ a; cases q
    · obtain ⟨q, rfl⟩ := ih₁ a; cases q; exact ⟨w2.symm, w1.symm⟩
    · rw [n] at n'; cases n'
  | segSuspGen n _ _ _ ih₁ ih₂ =>
    intro e₂ s₂ h₂
    rcases inv h₂ with ⟨_, _, a, b⟩ | ⟨_, _, _, _, _, _, _, _, a, ⟨n', _⟩ | ⟨_, _, _, _, _, _, n', b⟩⟩
    · obtain ⟨q, _⟩ := ih₁ a; cases q
    · rw [n] at n'; cases n'
    · rw [n] at n'; cases n'; obtain ⟨q, rfl⟩ := ih₁ a; cases q; exact ih₂ b

theorem wakes_det {M : Model} {Γ : Ctx} {p : Pos} {g : Nat} {r : Resume} {s : Shared} {x y : GenResult} {s₁ s₂ : Shared} (h : Wakes M Γ p g r s x s₁) (h' : Wakes M Γ p g r s y s₂) : x = y ∧ s₁ = s₂ := by
  unfold Wakes at h h'
  split at h
  · exact h.elim
  · rename_i q
    rw [q] at h'
    dsimp only at h'
    split at h
    · obtain ⟨e, u, a, _, rfl, rfl⟩ := h
      obtain ⟨e', u', a', _, rfl, rfl⟩ := h'
      obtain ⟨rfl, rfl⟩ := runs_det a a'
      exact ⟨rfl, rfl⟩
    · obtain ⟨rfl, rfl⟩ := h
      split at h'
      · rename_i n _ q'; cases q'; exact absurd rfl n
      · exact ⟨h'.1.symm, h'.2.symm⟩
      · rename_i q'; cases q'
    · obtain ⟨rfl, rfl⟩ := h
      exact ⟨h'.1.symm, h'.2.symm⟩
  · rename_i q
    rw [q] at h'
    obtain ⟨e, u, a, _, rfl, rfl⟩ := h
    obtain ⟨e', u', a', _, rfl, rfl⟩ := h'
    obtain ⟨rfl, rfl⟩ := runs_det a a'
    exact ⟨rfl, rfl⟩
  · rename_i q
    rw [q] at h'
    exact ⟨h.1.trans h'.1.symm, h.2.trans h'.2.symm⟩
  · rename_i q
    rw [q] at h'
    exact ⟨h.1.trans h'.1.symm, h.2.trans h'.2.symm⟩

theorem wp_all {ι : Type} (i₀ : ι) {α : Type} {M : Model} {Γ : Ctx} {Q : ι → α → Pos → Shared → Prop} {E : Value → Pos → Shared → Prop} : ∀ (t : Sem α) (p : Pos) (s : Shared), (∀ i, Sem.wp M Γ t (Q i) E p s) → Sem.wp M Γ t (fun a p' s' => ∀ i, Q i a p' s') E p s
  | .pure a, p, s, h => by simp only [Sem.wp] at h ⊢; exact h
  | .raise e, p, s, h => by simp only [Sem.wp] at h ⊢; exact h i₀
  | .unsupported _, p, s, h => by simp only [Sem.wp] at h; exact (h i₀).elim
  | .finish _, p, s, h => by simp only [Sem.wp] at h; exact (h i₀).elim
  | .rule _ k, p, s, h => by simp only [Sem.wp] at h ⊢; exact wp_all i₀ _ _ _ h
  | .at p' k, p, s, h => by simp only [Sem.wp] at h ⊢; exact wp_all i₀ _ _ _ h
  | .load a _ k, p, s, h => by
    simp only [Sem.wp] at h ⊢
    obtain ⟨o, ho, _⟩ := h i₀
    exact ⟨o, ho, wp_all i₀ _ _ _ fun i => by obtain ⟨o', ho', r⟩ := h i; rw [ho] at ho'; cases ho'; exact r⟩
  | .update a _ f k, p, s, h => by simp only [Sem.wp] at h ⊢; exact ⟨(h i₀).1, wp_all i₀ _ _ _ fun i => (h i).2⟩
  | .loadIfAlive a k, p, s, h => by simp only [Sem.wp] at h ⊢; exact wp_all i₀ _ _ _ h
  | .point _ k, p, s, h => by simp only [Sem.wp] at h ⊢; exact wp_all i₀ _ _ _ h
  | .register _ _, p, s, h => by simp only [Sem.wp] at h; exact (h i₀).elim
  | .alloc o k, p, s, h => by simp only [Sem.wp] at h ⊢; exact wp_all i₀ _ _ _ h
  | .fresh k, p, s, h => by simp only [Sem.wp] at h ⊢; exact wp_all i₀ _ _ _ h
  | .ask k, p, s, h => by simp only [Sem.wp] at h ⊢; exact wp_all i₀ _ _ _ h
  | .choose src n k, p, s, h => by simp only [Sem.wp] at h ⊢; exact ⟨(h i₀).1, wp_all i₀ _ _ _ fun i => (h i).2⟩
  | .os q _ k, p, s, h => by simp only [Sem.wp] at h ⊢; exact wp_all i₀ _ _ _ h
  | .call c hh _ _ k, p, s, h => by
    simp only [Sem.wp, wpCode] at h ⊢
    obtain ⟨r, s', a, _⟩ := h i₀
    refine ⟨r, s', a, wp_all i₀ _ _ _ fun i => ?_⟩
    obtain ⟨r', s'', a', b⟩ := h i
    obtain ⟨q, rfl⟩ := runs_det a a'
    cases q
    exact b
  | .handled own k, p, s, h => by simp only [Sem.wp] at h ⊢; exact wp_all i₀ _ _ _ h
  | .genState g k, p, s, h => by
    simp only [Sem.wp] at h ⊢
    obtain ⟨o, ho, _⟩ := h i₀
    exact ⟨o, ho, wp_all i₀ _ _ _ fun i => by obtain ⟨o', ho', r⟩ := h i; rw [ho] at ho'; cases ho'; exact r⟩
  | .newGen c k, p, s, h => by simp only [Sem.wp] at h ⊢; exact wp_all i₀ _ _ _ h
  | .resume g r _ k, p, s, h => by
    simp only [Sem.wp] at h ⊢
    obtain ⟨r, s', a, _⟩ := h i₀
    refine ⟨r, s', a, wp_all i₀ _ _ _ fun i => ?_⟩
    obtain ⟨r', s'', a', b⟩ := h i
    obtain ⟨rfl, rfl⟩ := wakes_det a a'
    exact b
  | .yield .., p, s, h => by simp only [Sem.wp] at h; exact (h i₀).elim
  | .stack k, p, s, h => by simp only [Sem.wp] at h ⊢; exact wp_all i₀ _ _ _ h
  | .fork .., p, s, h => by simp only [Sem.wp] at h; exact (h i₀).elim
  | .thread k, p, s, h => by simp only [Sem.wp] at h ⊢; exact wp_all i₀ _ _ _ h
  | .await .., p, s, h => by simp only [Sem.wp] at h; exact (h i₀).elim

/-- what holds of an end for each i holds of it for all i at once: a run has one end -/
theorem wpAny_all {ι : Type} (i₀ : ι) {α : Type} {M : Model} {A : Around} {t : Sem α} {Q : ι → α → Shared → Prop} {E : Value → Shared → Prop} {s : Shared} (h : ∀ i, wpAny M A t (Q i) E s) : wpAny M A t (fun a s' => ∀ i, Q i a s') E s :=
  fun Γ p hΓ => wp_all i₀ t p s fun i => h i Γ p hΓ
end Mine
end

-- part Comp
section
open PySem PySem.W PySem.Calls PyProof.Rows
set_option maxRecDepth 100000
namespace Mine

/-- an element of a list that a comprehension makes -/
inductive El where
  | int (n : Int)
  | str (x : Str)
  | pair (a b : Int)

abbrev tup (a : Int) (t : Tok) (b : Int) (u : Tok) (n : Nat) : Obj := { cls := .type "tuple", data := .seq #[.int a t, .int b u] n }

def El.is (ok : Nat → Prop) (h : Heap) (y : Value) : El → Prop
  | .int n => ∃ t, y = .int n t
  | .str x => ∃ t, y = .str x t
  | .pair a b => ∃ (T : Nat) (t u : Tok) (n : Nat), y = .ref T ∧ ok T ∧ h.get? T = some (tup a t b u n)

theorem El.is_mono {ok ok' : Nat → Prop} {h h' : Heap} {y : Value} {e : El} (x : e.is ok h y) (hk : ∀ T, ok T → ok' T) (hh : ∀ (T : Nat) o, ok T → h.get? T = some o → h'.get? T = some o) : e.is ok' h' y := by
  cases e with
  | int n => exact x
  | str n => exact x
  | pair a b => obtain ⟨T, t, u, n, e1, e2, e3⟩ := x; exact ⟨T, t, u, n, e1, hk T e2, hh T _ e2 e3⟩

section
variable {w : World} {A : Around} {E : Value → Shared → Prop}

def Tests (ifs : List PySem.Expr) (env : Env) : Sem Bool := forIn ifs true fun c r => if r = true then do let ok ← isTrue c env (eval c env); pure (ForInStep.yield ok) else pure (ForInStep.yield r)

/-- the block of a comprehension: its own objects, and what an assignment to its target makes of them -/
structure Blk (w : World) (A : Around) (env : Env) (scope : Scope) (cl : List (Str × Addr)) (target : PySem.Expr) (s₂ : Shared) (I L : Nat) (P : Nat → Value → Prop)
    (as : Nat → List Nat) (clf : Nat → List (Str × Addr)) (Sh : Nat → List (Addr × Obj) → Prop) (B : Nat → Nat → List (Addr × Obj) → Prop) : Prop where
  ge : ∀ C, ∀ a ∈ as C, C ≤ a
  ns : ∀ C own, Sh C own → own.map (·.1) = as C ∧ ∃ o m, (C, o) ∈ own ∧ LCg.NsObj o m
  new : ∀ (s : Shared) (Q : Env → Shared → Prop) (E : Value → Shared → Prop), (∀ h' own, Sh s.heap.objs.size own → (∀ p ∈ own, h'.get? p.1 = some p.2) → Le s.heap h' →
      ∀ cenv : Env, { cenv with scope := relabel scope env } = compEnvC scope (clf s.heap.objs.size) s.heap.objs.size env → cenv.locals = s.heap.objs.size → Q cenv { s with heap := h' }) →
    wpAny (model Challenge.rw_re0038_01.row.prog w) A (newFunctionEnv scope env.globals cl [] env.qual none .none (some env)) Q E s
  assign : ∀ C i v (s : Shared) own (Q : Unit → Shared → Prop) (E : Value → Shared → Prop), P i v → s₂.heap.objs.size ≤ C → Sh C own → (∀ p ∈ own, s.heap.get? p.1 = some p.2) →
      (∀ (b : Nat) o, b ≠ I → b ≠ L → s₂.heap.get? b = some o → s.heap.get? b = some o) →
      (∀ h' tk own', Sh C own' → B i C own' → (∀ p ∈ own', h'.get? p.1 = some p.2) → (∀ (b : Nat) o, b ∉ as C → s.heap.get? b = some o → h'.get? b = some o) → Q () { s with heap := h', toks := tk }) →
    wpAny (model Challenge.rw_re0038_01.row.prog w) A (assign target (compEnvC scope (clf C) C env) v) Q E s

/-- what a turn of the block does with an item -/
def onItem (target elt : PySem.Expr) (ifs : List PySem.Expr) (env : Env) (it acc v : Value) : Sem Unit := do
  letOwnedTupleGo target it v
  assign target env v
  let ok ← Tests ifs env
  if ok = true then do
    let y ← eval elt env
    let _ ← call (.builtin "list.append") [acc, y]
    pure ()
  else pure ()

theorem turn_items {elt target iter : PySem.Expr} {ifs : List PySem.Expr} {scope : Scope} {pos : Pos} {it acc : Value} {env : Env} :
    compTurn (.ListComp elt [⟨target, iter, ifs, 0⟩] scope pos) 0 it acc env = (standAt iter.pos >>= fun _ => pyNext it >>= fun r => match r with
      | none => pure (.done .next)
      | some v => onItem target elt ifs env it acc v >>= fun _ => pure (.again (.compLoop (.ListComp elt [⟨target, iter, ifs, 0⟩] scope pos) 0 it acc env))) := by
  rw [compTurn_list]
  congr 1; funext _; congr 1; funext r
  cases r with
  | none => rfl
  | some v =>
    simp only [onItem, bind_assoc]
    congr 1; funext _; congr 1; funext _; congr 1; funext ok
    cases ok <;> simp [again]

/-- the loop of a block, whose turns end and raise nothing -/
theorem loop_items {elt target iter : PySem.Expr} {ifs : List PySem.Expr} {scope : Scope} {pos : Pos} {it acc : Value} {env : Env} {R : Result → Shared → Prop} {s : Shared} (St : Nat → Shared → Prop)
    (go : ∀ k t, St k t → wpAny (model Challenge.rw_re0038_01.row.prog w) A (pyNext it) (fun r t₁ => match r with
      | none => R (.ok .next) t₁
      | some v => wpAny (model Challenge.rw_re0038_01.row.prog w) A (onItem target elt ifs env it acc v) (fun _ t₂ => ∃ j, j < k ∧ St j t₂) (fun _ _ => False) t₁) (fun _ _ => False) t)
    (k : Nat) (h : St k s) : codeAny (model Challenge.rw_re0038_01.row.prog w) A (.compLoop (.ListComp elt [⟨target, iter, ifs, 0⟩] scope pos) 0 it acc env) R s := by
  apply codeAny_loop (h := h) rfl
  intro k t ht
  apply wpAny_noted
  rw [turn_items]
  apply wpAny_bind; apply wpAny_standAt; apply wpAny_bind
  refine wpAny_mono (go k t ht) ?_ (fun _ _ no => no.elim)
  rintro (_ | v) t₁ h₁
  · exact wpAny_pure h₁
  · exact wpAny_bind (wpAny_mono h₁ (fun _ _ q => wpAny_pure ⟨rfl, q⟩) fun _ _ no => no.elim)

def Kept (L : Nat) (mL : Str → Option Value) (s s' : Shared) : Prop := ∃ h' tk, s' = { s with heap := h', toks := tk } ∧ (∀ (b : Nat) o, b ≠ L → s.heap.get? b = some o → h'.get? b = some o) ∧ h'.Ns L mL
theorem paired_imp {α β : Type} {F F' : α → β → Prop} {l₁ : List α} {l₂ : List β} (x : Paired F l₁ l₂) (h : ∀ a b, F a b → F' a b) : Paired F' l₁ l₂ := by
  induction x with
  | nil => exact .nil
  | cons h1 _ ih => exact .cons (h _ _ h1) ih

theorem comp_block {elt target iter : PySem.Expr} {ifs : List PySem.Expr} {scope : Scope} {cl : List (Str × Addr)} {pos : Pos} {env : Env} {s₂ : Shared} {I : Nat} {fp : List Addr} {n : Nat} {P : Nat → Value → Prop} {St : Nat → Heap → Prop} {L : Nat} {mL : Str → Option Value}
    {as : Nat → List Nat} {clf : Nat → List (Str × Addr)} {Sh : Nat → List (Addr × Obj) → Prop} {B : Nat → Nat → List (Addr × Obj) → Prop}
    {RR : Value → Addr → Result → Shared → Prop}
    (W : Walks Challenge.rw_re0038_01.row.prog w A I fp [I] n P St) (hsz : n ≤ sizeLine) (p : Nat → Bool) (G : Nat → El) (Bk : Blk w A env scope cl target s₂ I L P as clf Sh B)
    (hlet : ∀ i v (s : Shared) (Q : Unit → Shared → Prop) (E : Value → Shared → Prop), P i v → St (i + 1) s.heap → Q () s → wpAny (model Challenge.rw_re0038_01.row.prog w) A (letOwnedTupleGo target (.ref I) v) Q E s)
    (hIo : ∀ i h, St i h → ∃ o, h.get? I = some o) (hst : St 0 s₂.heap) (hfp : ∀ b ∈ fp, b < s₂.heap.objs.size) (hLfp : L ∉ fp) (hLn : s₂.heap.Ns L mL)
    (htests : ∀ C i own h tk (E' : Value → Shared → Prop), s₂.heap.objs.size ≤ C → i < n → Sh C own → B i C own → (∀ q ∈ own, h.get? q.1 = some q.2) → (∀ (b : Nat) o, b ≠ I → b ≠ L → s₂.heap.get? b = some o → h.get? b = some o) → h.Ns L mL →
      wpAny (model Challenge.rw_re0038_01.row.prog w) A (forIn ifs true fun c r => if r = true then do let ok ← isTrue c (compEnvC scope (clf C) C env) (eval c (compEnvC scope (clf C) C env)); pure (ForInStep.yield ok) else pure (ForInStep.yield r))
        (fun ok s₄ => ok = p i ∧ Kept L mL { s₂ with heap := h, toks := tk } s₄) E' { s₂ with heap := h, toks := tk })
    (helt : ∀ C i own h tk (E' : Value → Shared → Prop), s₂.heap.objs.size ≤ C → i < n → p i = true → Sh C own → B i C own → (∀ q ∈ own, h.get? q.1 = some q.2) → (∀ (b : Nat) o, b ≠ I → b ≠ L → s₂.heap.get? b = some o → h.get? b = some o) → h.Ns L mL →
      wpAny (model Challenge.rw_re0038_01.row.prog w) A (eval elt (compEnvC scope (clf C) C env)) (fun y s₄ => Kept L mL { s₂ with heap := h, toks := tk } s₄ ∧ (G i).is (fun T => h.get? T = none) s₄.heap y) E' { s₂ with heap := h, toks := tk })
    (hRR : ∀ (D C : Nat) h' tk m' ys, s₂.heap.get? D = none → s₂.heap.get? C = none → D ≠ C → h'.Ns C m' → h'.PlainList D ys →
      Paired (fun i y => (G i).is (fun T => s₂.heap.get? T = none ∧ T ≠ C ∧ T ≠ D) h' y) ((List.range n).filter p) ys.toList →
      (∀ (b : Nat) o, b ≠ I → b ≠ L → s₂.heap.get? b = some o → h'.get? b = some o) → h'.Ns L mL → RR (.ref D) C (.ok .next) { s₂ with heap := h', toks := tk }) :
    wpAny (model Challenge.rw_re0038_01.row.prog w) A (newList []) (fun acc s₃ => wpAny (model Challenge.rw_re0038_01.row.prog w) A (newFunctionEnv scope env.globals cl [] env.qual none .none (some env)) (fun cenv s₄ =>
      codeAny (model Challenge.rw_re0038_01.row.prog w) A (.compStart (.ListComp elt [⟨target, iter, ifs, 0⟩] scope pos) 0 (.ref I) acc { cenv with scope := relabel scope env }) (RR acc cenv.locals) s₄) E s₃) E s₂ := by
  refine wpAny_newObj_type (Bk.new _ _ _ fun h₁ own₁ hSh₁ hown₁ hle₁ cenv hce hcl => ?_)
  dsimp only at hSh₁ hle₁ hce hcl ⊢
  generalize hH2 : s₂.heap.push { cls := .type "list", dict := none, data := .seq ([] : List Value).toArray } = H2 at hSh₁ hle₁ hce hcl
  have hCs : H2.objs.size = s₂.heap.objs.size + 1 := by rw [← hH2, Heap.size_push]
  rw [hce, hcl]
  generalize hCg : H2.objs.size = C at hSh₁ hce hcl hCs ⊢
  generalize hDg : s₂.heap.objs.size = D at hCs ⊢
  have hDC : D ≠ C := by omega
  have hIf : I ∈ fp := W.sub I (List.mem_singleton.mpr rfl)
  have hID : I < D := hDg ▸ hfp I hIf
  have asge : ∀ a ∈ as C, C ≤ a := Bk.ge C
  have old₁ : Le s₂.heap h₁ := fun b o e => hle₁ b o (hH2 ▸ Heap.get?_push_of_some _ e)
  have hD₁ : h₁.PlainList D #[] := ⟨_, hle₁ _ _ (by rw [← hH2, ← hDg]; exact Heap.get?_push_size _ rfl)⟩
  have lowD : ∀ (b : Nat) o, s₂.heap.get? b = some o → b < D := fun b o e => hDg ▸ Heap.lt_size e
  have nas : ∀ b : Nat, b ≤ D → b ∉ as C := fun b hb hm => by have := asge b hm; omega
  have fresh : ∀ a : Nat, D ≤ a → s₂.heap.get? a = none := fun a ha => by
    cases e : s₂.heap.get? a with
    | none => rfl
    | some o' => have := lowD _ _ e; omega
  have fpD : ∀ b ∈ fp, b < D := hDg ▸ hfp
  have hLD : L < D := by obtain ⟨oL, _, _, eL, _⟩ := hLn; exact lowD L oL eL
  have hLI : L ≠ I := fun q => hLfp (q ▸ hIf)
  have hLas : L ∉ as C := fun hm => by have := asge L hm; omega
  have loop : ∀ s₃ : Shared, s₃ = { s₂ with heap := h₁ } →
      codeAny (model Challenge.rw_re0038_01.row.prog w) A (.compLoop (.ListComp elt [⟨target, iter, ifs, 0⟩] scope pos) 0 (.ref I) (.ref D) (compEnvC scope (clf C) C env)) (RR (.ref D) C) s₃ := by
    rintro s₃ rfl
    refine loop_items
      (fun k s' => ∃ h' tk i own ys, s' = { s₂ with heap := h', toks := tk } ∧ i ≤ n ∧ k = n + 1 - i ∧ St i h' ∧ Sh C own ∧ (∀ q ∈ own, h'.get? q.1 = some q.2) ∧ h'.PlainList D ys ∧
        Paired (fun i y => (G i).is (fun T => s₂.heap.get? T = none ∧ T ∉ as C ∧ T ≠ D ∧ T ≠ I ∧ T ≠ L) h' y) ((List.range i).filter p) ys.toList ∧
        (∀ (b : Nat) o, b ≠ I → b ≠ L → s₂.heap.get? b = some o → h'.get? b = some o) ∧ h'.Ns L mL) ?_ (n + 1)
      ⟨h₁, s₂.toks, 0, own₁, #[], rfl, Nat.zero_le _, rfl, W.frame _ _ _ hst fun b _ o e => old₁ b o e, hSh₁, hown₁, hD₁, .nil, fun b o _ _ e => old₁ b o e, hLn.at' fun o e => old₁ L o e⟩
    rintro k s' ⟨h', tk, i, own, ys, rfl, hi, rfl, hst', hSh, hown, hDl, hF, hk, hL'⟩
    obtain ⟨hmap, oC, mC, hCm, hCn⟩ := Bk.ns C own hSh
    have hCin : C ∈ as C := hmap ▸ List.mem_map_of_mem (f := (·.1)) hCm
    by_cases hlt : i < n
    · refine W.item i _ _ _ hlt hst' fun v h₂ tk₂ hPv hst₂ hk₂ => ?_
      have k2 : ∀ (b : Nat) o, b ≠ I → h'.get? b = some o → h₂.get? b = some o := fun b o hb e => hk₂ b o (by simpa using hb) e
      have ownL : ∀ q ∈ own, q.1 ≠ L := fun q hq e => hLas (hmap ▸ e ▸ List.mem_map_of_mem (f := (·.1)) hq)
      have ownI : ∀ q ∈ own, q.1 ≠ I := fun q hq e => by
        have := asge q.1 (hmap ▸ List.mem_map_of_mem (f := (·.1)) hq)
        rw [e] at this
        have h9 : C ≤ I := this
        omega
      unfold onItem
      refine wpAny_bind (hlet i v _ _ _ hPv hst₂ (wpAny_bind ?_))
      refine Bk.assign C i v _ own _ _ hPv (by omega) hSh (fun q hq => k2 _ _ (ownI q hq) (hown q hq)) (fun b o hb hl e => k2 b o hb (hk b o hb hl e)) ?_
      intro h₃ tk₃ own₃ hSh₃ hB₃ hown₃ hk₃
      dsimp only at hk₃ ⊢
      have hst₃ : St (i + 1) h₃ := W.frame _ _ _ hst₂ fun b hb o e => hk₃ b o (nas b (Nat.le_of_lt (fpD b hb))) e
      have keep₃ : ∀ (b : Nat) o, b ≠ I → b ≠ L → s₂.heap.get? b = some o → h₃.get? b = some o := fun b o hb hl e => hk₃ b o (nas b (Nat.le_of_lt (lowD b o e))) (k2 b o hb (hk b o hb hl e))
      have hL₃ : h₃.Ns L mL := hL'.at' fun o e => hk₃ L o hLas (k2 L o hLI e)
      have hD₃ : h₃.PlainList D ys := hDl.at fun o e => hk₃ D o (nas D (Nat.le_refl _)) (k2 D o (by omega) e)
      refine wpAny_bind (wpAny_mono (htests C i own₃ h₃ tk₃ _ (by omega) hlt hSh₃ hB₃ hown₃ keep₃ hL₃) (fun ok s₄ h₄ => ?_) fun _ _ e => e)
      obtain ⟨rfl, h₄, tk₄, rfl, hk₄, hL₄⟩ := h₄
      dsimp only at hk₄ ⊢
      have hst₄ : St (i + 1) h₄ := W.frame _ _ _ hst₃ fun b hb o e => hk₄ b o (fun q => hLfp (q ▸ hb)) e
      have keep₄ : ∀ (b : Nat) o, b ≠ I → b ≠ L → s₂.heap.get? b = some o → h₄.get? b = some o := fun b o hb hl e => hk₄ b o hl (keep₃ b o hb hl e)
      have own₃L : ∀ q ∈ own₃, q.1 ≠ L := fun q hq e => hLas ((Bk.ns C own₃ hSh₃).1 ▸ e ▸ List.mem_map_of_mem (f := (·.1)) hq)
      have hD₄ : h₄.PlainList D ys := hD₃.at fun o e => hk₄ D o (by omega) e
      have hF₄ : Paired (fun i y => (G i).is (fun T => s₂.heap.get? T = none ∧ T ∉ as C ∧ T ≠ D ∧ T ≠ I ∧ T ≠ L) h₄ y) ((List.range i).filter p) ys.toList :=
        paired_imp hF fun j y x => El.is_mono x (fun _ q => q) fun T o q e => hk₄ T o q.2.2.2.2 (hk₃ T o q.2.1 (k2 T o q.2.2.2.1 e))
      cases hp : p i with
      | false =>
        rw [if_neg Bool.false_ne_true]
        apply wpAny_pure
        refine ⟨n + 1 - (i + 1), by omega, h₄, tk₄, i + 1, own₃, ys, rfl, hlt, rfl, hst₄, hSh₃, fun q hq => hk₄ _ _ (own₃L q hq) (hown₃ q hq), hD₄, ?_, keep₄, hL₄⟩
        rw [List.range_succ, List.filter_append]
        simpa [hp] using hF₄
      | true =>
        rw [if_pos rfl]
        refine wpAny_bind (wpAny_mono (helt C i own₃ h₄ tk₄ _ (by omega) hlt hp hSh₃ hB₃ (fun q hq => hk₄ _ _ (own₃L q hq) (hown₃ q hq)) keep₄ hL₄) (fun y s₅ h₅ => ?_) fun _ _ e => e)
        obtain ⟨⟨h₅, tk₅, rfl, hk₅, hL₅⟩, hy⟩ := h₅
        dsimp only at hk₅ hy ⊢
        have hD₅ : h₅.PlainList D ys := hD₄.at fun o e => hk₅ D o (by omega) e
        have hys : ys.size ≤ sizeLine := by
          have e1 := hF.length
          have e2 : ((List.range i).filter p).length ≤ (List.range i).length := List.length_filter_le _ _
          have e3 : (List.range i).length = i := List.length_range
          have e4 : ys.toList.length = ys.size := by simp
          omega
        refine wpAny_bind (wpAny_list_append_plain (hsz := hys) hD₅ fun h₆ hl₆ hs₆ => wpAny_pure ?_)
        have ownD : ∀ q ∈ own₃, q.1 ≠ D := fun q hq e => by
          have := asge q.1 ((Bk.ns C own₃ hSh₃).1 ▸ List.mem_map_of_mem (f := (·.1)) hq)
          rw [e] at this
          have h9 : C ≤ D := this
          omega
        refine ⟨n + 1 - (i + 1), by omega, h₆, tk₅, i + 1, own₃, ys.push y, rfl, hlt, rfl, ?_, hSh₃, fun q hq => hs₆.extBut _ _ (ownD q hq) (hk₅ _ _ (own₃L q hq) (hk₄ _ _ (own₃L q hq) (hown₃ q hq))), hl₆, ?_, fun b o hb hl e => hs₆.extBut b o (Nat.ne_of_lt (lowD b o e)) (hk₅ b o hl (keep₄ b o hb hl e)), hL₅.at' fun o e => hs₆.extBut L o (Nat.ne_of_lt hLD) e⟩
        · exact W.frame _ _ _ hst₄ fun b hb o e => hs₆.extBut b o (Nat.ne_of_lt (fpD b hb)) (hk₅ b o (fun q => hLfp (q ▸ hb)) e)
        · have e1 : (List.range (i + 1)).filter p = (List.range i).filter p ++ [i] := by rw [List.range_succ, List.filter_append]; simp [hp]
          rw [e1, Array.toList_push]
          refine Paired.snoc (paired_imp hF₄ fun j y x => El.is_mono x (fun _ q => q) fun T o q e => hs₆.extBut T o q.2.2.1 (hk₅ T o q.2.2.2.2 e)) ?_
          refine El.is_mono hy (fun T hT => ?_) fun T o hT e => hs₆.extBut T o ?_ e
          · have t1 : ∀ (b : Nat) o, h₄.get? b = some o → T ≠ b := fun b o e q => by rw [q, e] at hT; cases hT
            obtain ⟨oI, heI⟩ : ∃ o, h₄.get? D = some o := by obtain ⟨_, e⟩ := hD₄; exact ⟨_, e⟩
            obtain ⟨oI', heI'⟩ := hIo _ _ hst₄
            have hTI : T ≠ I := t1 I _ heI'
            have hTL : T ≠ L := by obtain ⟨oL, _, _, eL, _⟩ := hL₄; exact t1 L _ eL
            refine ⟨?_, ?_, t1 D _ heI, hTI, hTL⟩
            · cases e : s₂.heap.get? T with
              | none => rfl
              | some o => exact absurd rfl (t1 T o (keep₄ T o hTI hTL e))
            · intro hm
              rw [← (Bk.ns C own₃ hSh₃).1] at hm
              obtain ⟨q, hq, rfl⟩ := List.mem_map.mp hm
              exact t1 _ _ (hk₄ _ _ (own₃L q hq) (hown₃ q hq)) rfl
          · intro q
            obtain ⟨_, e⟩ := hD₄
            rw [q, e] at hT; cases hT
    · have hin : i = n := by omega
      subst hin
      refine W.done _ _ _ hst' fun h₂ tk₂ hk₂ => ?_
      have k2 : ∀ (b : Nat) o, b ≠ I → h'.get? b = some o → h₂.get? b = some o := fun b o hb e => hk₂ b o (by simpa using hb) e
      refine hRR D C h₂ tk₂ mC ys (fresh D (Nat.le_refl _)) (fresh C (by omega)) hDC (hCn.ns (k2 _ _ (by omega) (hown _ hCm))) (hDl.at fun o e => k2 D o (by omega) e) ?_ (fun b o hb hl e => k2 b o hb (hk b o hb hl e)) (hL'.at' fun o e => k2 L o hLI e)
      exact paired_imp hF fun j y x => El.is_mono x (fun T q => ⟨q.1, fun e => q.2.1 (e ▸ hCin), q.2.2.1⟩) fun T o q e => k2 T o q.2.2.2.1 e
  exact codeAny_compStart_list (loop _ rfl) (W.self 0 _ _ _ (W.frame _ _ _ hst fun b _ o e => old₁ b o e) (loop _ rfl))
end
end Mine
end

-- part Comp2
section
open PySem PySem.W PySem.Calls PyProof.Rows
set_option maxRecDepth 100000
namespace Mine
section
variable {w : World} {A : Around} {E : Value → Shared → Prop}


/-- what a comprehension goes over -/
def Src (w : World) (A : Around) (target : PySem.Expr) (xv : Value) (s₁ : Shared) (n : Nat) (P : Nat → Value → Prop) : Prop :=
  ∀ (Q : Value → Shared → Prop) (E : Value → Shared → Prop), (∀ (I : Nat) h' fp St, s₁.heap.get? I = none → Le s₁.heap h' → Walks Challenge.rw_re0038_01.row.prog w A I fp [I] n P St → St 0 h' → (∀ b ∈ fp, b < h'.objs.size) → (∀ i h, St i h → ∃ o, h.get? I = some o) →
    (∀ i v (s : Shared) (Q : Unit → Shared → Prop) (E : Value → Shared → Prop), P i v → St (i + 1) s.heap → Q () s → wpAny (model Challenge.rw_re0038_01.row.prog w) A (letOwnedTupleGo target (.ref I) v) Q E s) → (∀ b ∈ fp, b = I ∨ (xv = .ref b ∧ ∃ o its n, s₁.heap.get? b = some o ∧ o.data = .seq its n)) → Q (.ref I) { s₁ with heap := h' }) →
  wpAny (model Challenge.rw_re0038_01.row.prog w) A (pyIter xv) Q E s₁

theorem srcFp {h : Heap} {I ax : Nat} {items : Array Value} (hl : h.IsList ax items) : ∀ b ∈ [I, ax], b = I ∨ (Value.ref ax = .ref b ∧ ∃ o its n, h.get? b = some o ∧ o.data = .seq its n) := by
  intro b hb
  simp only [List.mem_cons, List.not_mem_nil, or_false] at hb
  rcases hb with rfl | rfl
  · exact .inl rfl
  · obtain ⟨o, ho, _, n, hd⟩ := hl; exact .inr ⟨rfl, o, _, n, ho, hd⟩

theorem Src.list {target : PySem.Expr} {s₁ : Shared} {ax : Nat} {items : Array Value} (hh : A.handled = none) (hl : s₁.heap.IsList ax items) (ht : ∀ it v, letOwnedTupleGo target it v = pure ()) :
    Src w A target (.ref ax) s₁ items.size (fun i v => items[i]? = some v) := by
  intro Q E hQ
  refine wpAny_pyIter_list hl ?_
  have hne : ax ≠ s₁.heap.objs.size := by obtain ⟨o, ho, _⟩ := hl; exact Nat.ne_of_lt (Heap.lt_size ho)
  refine hQ s₁.heap.objs.size _ _ _ ?_ (fun b o e => Heap.get?_push_of_some _ e) (Walks.list hh s₁.heap.objs.size ax hne items) ⟨⟨_, Heap.get?_push_size _ rfl, rfl, rfl⟩, ?_⟩ ?_ ?_ ?_ ?_
  · cases e : s₁.heap.get? s₁.heap.objs.size with
    | none => rfl
    | some o => exact absurd (Heap.lt_size e) (Nat.lt_irrefl _)
  · obtain ⟨o, ho, r⟩ := hl; exact ⟨o, Heap.get?_push_of_some _ ho, r⟩
  · intro b hb
    simp only [List.mem_cons, List.not_mem_nil, or_false] at hb
    rw [Heap.size_push]
    rcases hb with rfl | rfl
    · exact Nat.lt_succ_self _
    · obtain ⟨o, ho, _⟩ := hl; exact Nat.lt_succ_of_lt (Heap.lt_size ho)
  · rintro i h ⟨⟨o, ho, _⟩, _⟩; exact ⟨o, ho⟩
  · intro i v s Q E _ _ q; rw [ht]; exact wpAny_pure q
  · exact srcFp hl

theorem Src.pairs {elts : List PySem.Expr} {x1} {tp : Pos} {s₁ : Shared} {ax : Nat} {items : Array Value} (hh : A.handled = none) (hl : s₁.heap.IsList ax items) (hr : ∀ (i : Nat) v, items[i]? = some v → ∃ T : Nat, v = Value.ref T) :
    Src w A (.Tuple elts x1 tp) (.ref ax) s₁ items.size (fun i v => items[i]? = some v) := by
  intro Q E hQ
  refine wpAny_pyIter_list hl ?_
  have hne : ax ≠ s₁.heap.objs.size := by obtain ⟨o, ho, _⟩ := hl; exact Nat.ne_of_lt (Heap.lt_size ho)
  refine hQ s₁.heap.objs.size _ _ _ ?_ (fun b o e => Heap.get?_push_of_some _ e) (Walks.list hh s₁.heap.objs.size ax hne items) ⟨⟨_, Heap.get?_push_size _ rfl, rfl, rfl⟩, ?_⟩ ?_ ?_ ?_ ?_
  · cases e : s₁.heap.get? s₁.heap.objs.size with
    | none => rfl
    | some o => exact absurd (Heap.lt_size e) (Nat.lt_irrefl _)
  · obtain ⟨o, ho, r⟩ := hl; exact ⟨o, Heap.get?_push_of_some _ ho, r⟩
  · intro b hb
    simp only [List.mem_cons, List.not_mem_nil, or_false] at hb
    rw [Heap.size_push]
    rcases hb with rfl | rfl
    · exact Nat.lt_succ_self _
    · obtain ⟨o, ho, _⟩ := hl; exact Nat.lt_succ_of_lt (Heap.lt_size ho)
  · rintro i h ⟨⟨o, ho, _⟩, _⟩; exact ⟨o, ho⟩
  · intro i v s Q E hP hst q
    obtain ⟨T, rfl⟩ := hr i v hP
    exact wpAny_letOwnedTupleGo_listiter hst.1 q
  · exact srcFp hl

theorem Src.range {target : PySem.Expr} {s₁ : Shared} {r : Nat} {b : Int} {n : Nat} {t u v : Tok} (hh : A.handled = none) (hr : IsRange s₁.heap r 0 b 1 t u v) (hb : b = (n : Int)) (hn : n < 2 ^ 40) (ht : ∀ it v, letOwnedTupleGo target it v = pure ()) :
    Src w A target (.ref r) s₁ n (fun i v => ∃ t, v = .int (i : Int) t) := by
  subst hb
  intro Q E hQ
  have hz : Builtin.Range.rangeSize 0 (n : Int) 1 = (n : Int) := by
    unfold Builtin.Range.rangeSize
    rw [if_pos (by decide)]
    split <;> omega
  refine wpAny_pyIter_range hr ?_ ?_
  · have : (n : Int) < 2 ^ 40 := by exact_mod_cast hn
    unfold Builtin.Range.small
    rw [hz]
    have f : ∀ k : Int, 0 ≤ k → k < 2 ^ 41 → Builtin.Range.rangeFitsLong k = true := by
      intro k h1 h2
      unfold Builtin.Range.rangeFitsLong
      rw [Bool.and_eq_true, decide_eq_true_eq, decide_eq_true_eq]
      omega
    rw [f 0 (by omega) (by omega), f (n : Int) (by omega) (by omega), f 1 (by omega) (by omega), if_pos (by decide), f ((n : Int) + (1 - 1)) (by omega) (by omega), Bool.or_true]
    rfl
  · rw [hz]
    refine hQ s₁.heap.objs.size _ [s₁.heap.objs.size] (fun i h => IsRangeIter h s₁.heap.objs.size (0 + (i : Nat) * 1) ((n : Int) - (i : Nat)) 1) ?_ (fun b o e => Heap.get?_push_of_some _ e) ?_ ?_ ?_ ?_ ?_ ?_
    · cases e : s₁.heap.get? s₁.heap.objs.size with
      | none => rfl
      | some o => exact absurd (Heap.lt_size e) (Nat.lt_irrefl _)
    · have W := Walks.range (prog := Challenge.rw_re0038_01.row.prog) (w := w) (A := A) hh s₁.heap.objs.size 0 1 n
      exact { sub := W.sub, frame := W.frame, done := W.done, self := W.self, item := fun i s Q E hi st hQ => W.item i s Q E hi st fun v h' tk hP => hQ v h' tk (by obtain ⟨t, rfl⟩ := hP; exact ⟨t, by rw [Int.mul_one, Int.zero_add]⟩) }
    · simp only [Int.mul_one]
      exact Heap.get?_push_size _ rfl
    · intro b hb; rw [List.mem_singleton.mp hb, Heap.size_push]; exact Nat.lt_succ_self _
    · intro i h e; exact ⟨_, e⟩
    · intro i v s Q E _ _ q; rw [ht]; exact wpAny_pure q
    · intro b hb; exact .inl (List.mem_singleton.mp hb)

/-- the values of a made list, by what they are -/
inductive Els (ts : List (Addr × Obj)) : List Value → List El → Prop
  | nil : Els ts [] []
  | int {n t ys es} : Els ts ys es → Els ts (.int n t :: ys) (.int n :: es)
  | str {x t ys es} : Els ts ys es → Els ts (.str x t :: ys) (.str x :: es)
  | pair {T a t b u n ys es} : (T, tup a t b u n) ∈ ts → Els ts ys es → Els ts (.ref T :: ys) (.pair a b :: es)

theorem Els.mono {ts ts' : List (Addr × Obj)} {ys : List Value} {es : List El} (x : Els ts ys es) (h : ∀ p ∈ ts, p ∈ ts') : Els ts' ys es := by
  induction x with
  | nil => exact .nil
  | int _ ih => exact .int ih
  | str _ ih => exact .str ih
  | pair hm _ ih => exact .pair (h _ hm) ih

theorem Els.of_paired {ok : Nat → Prop} {h : Heap} {G : Nat → El} {is : List Nat} {ys : List Value} (x : Paired (fun i y => (G i).is ok h y) is ys) :
    ∃ ts : List (Addr × Obj), (∀ p ∈ ts, ok p.1 ∧ h.get? p.1 = some p.2) ∧ Els ts ys (is.map G) := by
  induction x with
  | nil => exact ⟨[], (fun _ hp => nomatch hp), .nil⟩
  | @cons i y _ _ hy _ ih =>
    obtain ⟨ts, h1, h2⟩ := ih
    rw [List.map_cons]
    cases hG : G i with
    | int n => rw [hG] at hy; obtain ⟨t, rfl⟩ := hy; exact ⟨ts, h1, .int h2⟩
    | str n => rw [hG] at hy; obtain ⟨t, rfl⟩ := hy; exact ⟨ts, h1, .str h2⟩
    | pair a b =>
      rw [hG] at hy
      obtain ⟨T, t, u, n, rfl, hT, he⟩ := hy
      refine ⟨(T, tup a t b u n) :: ts, ?_, .pair (.head _) (h2.mono fun p hp => .tail _ hp)⟩
      intro p hp
      rcases List.mem_cons.mp hp with rfl | hp
      · exact ⟨hT, he⟩
      · exact h1 p hp

theorem Els.ints {ts : List (Addr × Obj)} : ∀ {ys : List Value} {ns : List Int}, Els ts ys (ns.map El.int) → IntsAre ys ns
  | _, [], .nil => .nil
  | _, _ :: _, .int h => .cons _ _ (Els.ints h)
theorem Els.strs {ts : List (Addr × Obj)} : ∀ {ys : List Value} {ns : List Str}, Els ts ys (ns.map El.str) → StrsAre ys ns
  | _, [], .nil => .nil
  | _, _ :: _, .str h => .cons _ _ (Els.strs h)

/-- what a test or an element of a comprehension keeps; (b, o) stands for any object -/
def Stay (g : Heap) (L : Nat) (m : Str → Option Value) (b : Nat) (o : Obj) (s s' : Shared) : Prop := (∃ h' tk', s' = { s with heap := h', toks := tk' }) ∧ Fr g L s'.heap m ∧ s'.heap.get? b = some o

abbrev Other (g : Heap) (L : Nat) (h : Heap) : Type := { q : Addr × Obj // h.get? q.1 = some q.2 ∧ q.1 ≠ L ∧ g.get? q.1 = none }
theorem stay_all {g : Heap} {L : Nat} {m : Str → Option Value} {s s' : Shared} (i₀ : Other g L s.heap) (F : Fr g L s.heap m) (h : ∀ q : Other g L s.heap, Stay g L m q.1.1 q.1.2 s s') : Kept L m s s' := by
  obtain ⟨⟨h', tk', rfl⟩, F', _⟩ := h i₀
  refine ⟨h', tk', rfl, fun b o hb e => ?_, F'.ns⟩
  cases q : g.get? b with
  | none => exact (h ⟨(b, o), e, hb, q⟩).2.2
  | some o' =>
    have e' := F.keep b o' q
    rw [e] at e'
    cases e'
    exact F'.keep b o q
theorem is_all {g : Heap} {L : Nat} {m : Str → Option Value} {h h' : Heap} {e : El} {y : Value} (i₀ : Other g L h) (F : Fr g L h m) (x : ∀ q : Other g L h, e.is (fun T => T ≠ q.1.1 ∧ T ≠ L ∧ g.get? T = none) h' y) : e.is (fun T => h.get? T = none) h' y := by
  cases e with
  | int n => exact x i₀
  | str n => exact x i₀
  | pair a b =>
    obtain ⟨T, t, u, n, e1, e2, e3⟩ := x i₀
    refine ⟨T, t, u, n, e1, ?_, e3⟩
    cases q : h.get? T with
    | none => exact q
    | some o =>
      obtain ⟨T', t', u', n', e1', e2', e3'⟩ := x ⟨(T, o), q, e2.2.1, e2.2.2⟩
      rw [e1] at e1'
      cases e1'
      exact absurd rfl e2'.1

inductive LcGo (w : World) (A : Around) (env : Env) (scope : Scope) (cl : List (Str × Addr)) (target elt : PySem.Expr) (ifs : List PySem.Expr)
    (Fin : (g : Heap) → (L : Nat) → (m : Str → Option Value) → List (Addr × Obj) → (s₁ s₂ : Shared) → Nat → List El → Prop) : Value → Shared → Prop
  | mk {xv : Value} {s₁ : Shared} {g : Heap} {L : Nat} {m : Str → Option Value} {news : List (Addr × Obj)} {n : Nat} {P : Nat → Value → Prop} {as : Nat → List Nat} {clf : Nat → List (Str × Addr)} {Sh : Nat → List (Addr × Obj) → Prop} {B : Nat → Nat → List (Addr × Obj) → Prop}
      (p : Nat → Bool) (G : Nat → El) (F : Fr g L s₁.heap m) (N : News g L s₁.heap news) (src : Src w A target xv s₁ n P) (hsz : n ≤ sizeLine)
      (blk : ∀ (s₂ : Shared) (I : Nat), Le s₁.heap s₂.heap → s₁.heap.get? I = none → Blk w A env scope cl target s₂ I L P as clf Sh B)
      (tests : ∀ C i own h tk (E' : Value → Shared → Prop) (b : Nat) (o : Obj), i < n → B i C own → Fr g L h m → News g L h ((b, o) :: (own ++ news)) → (∀ (b : Nat) o, b ≠ L → s₁.heap.get? b = some o → h.get? b = some o) →
        wpAny (model Challenge.rw_re0038_01.row.prog w) A (Tests ifs (compEnvC scope (clf C) C env)) (fun ok s₄ => ok = p i ∧ Stay g L m b o { s₁ with heap := h, toks := tk } s₄) E' { s₁ with heap := h, toks := tk })
      (elts : ∀ C i own h tk (E' : Value → Shared → Prop) (b : Nat) (o : Obj), i < n → p i = true → B i C own → Fr g L h m → News g L h ((b, o) :: (own ++ news)) → (∀ (b : Nat) o, b ≠ L → s₁.heap.get? b = some o → h.get? b = some o) →
        wpAny (model Challenge.rw_re0038_01.row.prog w) A (eval elt (compEnvC scope (clf C) C env)) (fun y s₄ => Stay g L m b o { s₁ with heap := h, toks := tk } s₄ ∧ (G i).is (fun T => T ≠ b ∧ T ≠ L ∧ g.get? T = none) s₄.heap y) E' { s₁ with heap := h, toks := tk })
      (fin : ∀ s₂ D, Fin g L m news s₁ s₂ D (((List.range n).filter p).map G)) : LcGo w A env scope cl target elt ifs Fin xv s₁

/-- the end of a comprehension whose list is handed on -/
def FinE (Q : Value → Shared → Prop) (g : Heap) (L : Nat) (m : Str → Option Value) (news : List (Addr × Obj)) (s₁ s₂ : Shared) (D : Nat) (es : List El) : Prop :=
  ∀ h' tk ys ts ep, s₂ = { s₁ with heap := h', toks := tk } → (s₁.heap.get? D = none ∧ ∀ p ∈ ts, s₁.heap.get? p.1 = none) → (∀ (b : Nat) o, b ≠ L → s₁.heap.get? b = some o → h'.get? b = some o) → Fr g L h' m → News g L h' ((D, listOf ys.toArray ep) :: (ts ++ news)) → Els ts ys es → Q (.ref D) s₂
/-- the end of one whose list is stored under the name y -/
def FinA (y : Str) (Q : Flow → Shared → Prop) (g : Heap) (L : Nat) (m : Str → Option Value) (news : List (Addr × Obj)) (s₁ s₂ : Shared) (D : Nat) (es : List El) : Prop :=
  ∀ h' tk ys ts ep, s₂ = { s₁ with heap := h', toks := tk } → (s₁.heap.get? D = none ∧ ∀ p ∈ ts, s₁.heap.get? p.1 = none) → (∀ (b : Nat) o, b ≠ L → s₁.heap.get? b = some o → h'.get? b = some o) → Fr g L h' (fun z => if z = y then some (.ref D) else m z) → News g L h' ((D, listOf ys.toArray ep) :: (ts ++ news)) → Els ts ys es → Q .next s₂

theorem none_of_le {g h : Heap} {b : Nat} (k : Le g h) (e : h.get? b = none) : g.get? b = none := by
  cases q : g.get? b with
  | none => rfl
  | some o => rw [k _ _ q] at e; cases e
theorem ne_of_get {h : Heap} {a b : Nat} {o : Obj} (ea : h.get? a = none) (eb : h.get? b = some o) : a ≠ b := fun q => by rw [q, eb] at ea; cases ea

theorem lc_block {elt target iter : PySem.Expr} {ifs : List PySem.Expr} {scope : Scope} {cl : List (Str × Addr)} {pos : Pos} {env : Env} {xv : Value} {s₁ : Shared} {RR : Value → Addr → Result → Shared → Prop}
    {Fin : (g : Heap) → (L : Nat) → (m : Str → Option Value) → List (Addr × Obj) → (s₁ s₂ : Shared) → Nat → List El → Prop}
    (go : LcGo w A env scope cl target elt ifs Fin xv s₁)
    (hRR : ∀ (g : Heap) (L : Nat) (m : Str → Option Value) (news : List (Addr × Obj)) (D C : Nat) h' tk m' ys ts ep es, (s₁.heap.get? D = none ∧ ∀ p ∈ ts, s₁.heap.get? p.1 = none) → s₁.heap.get? C = none → D ≠ C → h'.Ns C m' → (∀ (b : Nat) o, b ≠ L → s₁.heap.get? b = some o → h'.get? b = some o) → Fr g L h' m → News g L h' ((D, listOf ys.toArray ep) :: (ts ++ news)) → (∀ p ∈ (D, listOf ys.toArray ep) :: (ts ++ news), p.1 ≠ C) → L ≠ C → g.get? C = none → Els ts ys es → (∀ s₂ D, Fin g L m news s₁ s₂ D es) → RR (.ref D) C (.ok .next) { s₁ with heap := h', toks := tk }) :
    wpAny (model Challenge.rw_re0038_01.row.prog w) A (pyIter xv) (fun it s₂ => wpAny (model Challenge.rw_re0038_01.row.prog w) A (newList []) (fun acc s₃ => wpAny (model Challenge.rw_re0038_01.row.prog w) A (newFunctionEnv scope env.globals cl [] env.qual none .none (some env)) (fun cenv s₄ =>
      codeAny (model Challenge.rw_re0038_01.row.prog w) A (.compStart (.ListComp elt [⟨target, iter, ifs, 0⟩] scope pos) 0 it acc { cenv with scope := relabel scope env }) (RR acc cenv.locals) s₄) E s₃) E s₂) E s₁ := by
  cases go with
  | @mk g L m news n P as clf Sh B p G F N src hsz blk tests elts fin =>
  refine src _ _ fun I h₂ fp St hI hle W hst hfp hIo hlet hfp2 => ?_
  have Bk := blk { s₁ with heap := h₂ } I hle hI
  have hIL : L ≠ I := by obtain ⟨o, es, ep, ho, _⟩ := F.ns; exact Ne.symm (ne_of_get hI ho)
  have hgI : g.get? I = none := none_of_le F.keep hI
  obtain ⟨oL, esL, epL, hoL, hdL, _⟩ := id F.ns
  have hLfp : L ∉ fp := fun hm => by
    rcases hfp2 L hm with q | ⟨_, o, its, k, ho, hd⟩
    · exact hIL q
    · rw [hoL] at ho; cases ho; rw [hdL] at hd; cases hd
  have hLn : h₂.Ns L m := F.ns.at' fun o e => hle L o e
  have gL : ∀ (b : Nat) o, g.get? b = some o → b ≠ L := fun b o e => Nat.ne_of_lt (Nat.lt_of_lt_of_le (Heap.lt_size e) F.above)
  have upF : ∀ h : Heap, (∀ (b : Nat) o, b ≠ I → b ≠ L → h₂.get? b = some o → h.get? b = some o) → h.Ns L m → Fr g L h m := fun h k hn => ⟨hn, fun b o e => k b o (fun q => by rw [q, hgI] at e; cases e) (gL b o e) (hle b o (F.keep b o e)), F.above⟩
  have upL : ∀ h : Heap, (∀ (b : Nat) o, b ≠ I → b ≠ L → h₂.get? b = some o → h.get? b = some o) → (∀ (b : Nat) o, b ≠ L → s₁.heap.get? b = some o → h.get? b = some o) := fun h k b o hl e => k b o (Ne.symm (ne_of_get hI e)) hl (hle b o e)
  have big : ∀ a : Nat, h₂.objs.size ≤ a → h₂.get? a = none := fun a ha => by
    cases e : h₂.get? a with
    | none => rfl
    | some o => exact absurd (Heap.lt_size e) (Nat.not_lt.mpr ha)
  have upN : ∀ h C own, h₂.objs.size ≤ C → Sh C own → (∀ q ∈ own, h.get? q.1 = some q.2) → (∀ (b : Nat) o, b ≠ I → b ≠ L → h₂.get? b = some o → h.get? b = some o) → News g L h (own ++ news) := by
    intro h C own hC hSh how k q hq
    rcases List.mem_append.mp hq with hq | hq
    · have hge : C ≤ q.1 := Bk.ge C q.1 ((Bk.ns C own hSh).1 ▸ List.mem_map_of_mem (f := (·.1)) hq)
      have e := big q.1 (Nat.le_trans hC hge)
      refine ⟨how q hq, ?_, none_of_le (fun b o e => hle b o (F.keep b o e)) e⟩
      obtain ⟨o, es, ep, ho, _⟩ := F.ns
      exact ne_of_get e (hle _ _ ho)
    · have := N q hq
      exact ⟨upL h k _ _ this.2.1 this.1, this.2⟩
  refine comp_block W hsz p G Bk hlet hIo hst hfp hLfp hLn ?_ ?_ ?_
  · intro C i own h tk E' hC hi hSh hB how hk hLh
    have F' := upF h hk hLh
    have N' := upN h C own hC hSh how hk
    obtain ⟨_, oC, mC, hCm, _⟩ := Bk.ns C own hSh
    have i₀ : Other g L h := ⟨(C, oC), N' _ (List.mem_append_left _ hCm)⟩
    refine wpAny_mono (wpAny_all i₀ fun q : Other g L h => tests C i own h tk E' q.1.1 q.1.2 hi hB F' (fun r hr => ?_) (upL h hk)) (fun ok s₄ hall => ?_) fun _ _ e => e
    · rcases List.mem_cons.mp hr with rfl | hr
      · exact q.2
      · exact N' r hr
    · exact ⟨(hall i₀).1, stay_all (s := { s₁ with heap := h, toks := tk }) i₀ F' fun q => (hall q).2⟩
  · intro C i own h tk E' hC hi hp hSh hB how hk hLh
    have F' := upF h hk hLh
    have N' := upN h C own hC hSh how hk
    obtain ⟨_, oC, mC, hCm, _⟩ := Bk.ns C own hSh
    have i₀ : Other g L h := ⟨(C, oC), N' _ (List.mem_append_left _ hCm)⟩
    refine wpAny_mono (wpAny_all i₀ fun q : Other g L h => elts C i own h tk E' q.1.1 q.1.2 hi hp hB F' (fun r hr => ?_) (upL h hk)) (fun ok s₄ hall => ?_) fun _ _ e => e
    · rcases List.mem_cons.mp hr with rfl | hr
      · exact q.2
      · exact N' r hr
    · exact ⟨stay_all (s := { s₁ with heap := h, toks := tk }) i₀ F' fun q => (hall q).1, is_all i₀ F' fun q => (hall q).2⟩
  · intro D C h' tk m' ys hD hC hDC hn hpl hF hk hLh
    dsimp only at hD hC hF hk ⊢
    obtain ⟨ts, hts, hes⟩ := Els.of_paired hF
    obtain ⟨ep, hpl⟩ := hpl
    have gN : Le g h₂ := fun b o e => hle b o (F.keep b o e)
    have F' := upF h' hk hLh
    have nL : ∀ b : Nat, h₂.get? b = none → b ≠ L := fun b e => ne_of_get e (hle _ _ hoL)
    have N' : News g L h' ((D, listOf ys.toList.toArray ep) :: (ts ++ news)) := by
      intro q hq
      rcases List.mem_cons.mp hq with rfl | hq
      · exact ⟨by simpa using hpl, nL D hD, none_of_le gN hD⟩
      · rcases List.mem_append.mp hq with hq | hq
        · have := hts q hq
          exact ⟨this.2, nL _ this.1.1, none_of_le gN this.1.1⟩
        · have := N q hq
          exact ⟨upL h' hk _ _ this.2.1 this.1, this.2⟩
    refine hRR g L m news D C h' tk m' ys.toList ts ep _ ⟨none_of_le hle hD, fun p hp => none_of_le hle (hts p hp).1.1⟩ (none_of_le hle hC) hDC hn (upL h' hk) F' N' ?_ (Ne.symm (nL C hC)) (none_of_le gN hC) hes fin
    intro q hq
    rcases List.mem_cons.mp hq with rfl | hq
    · exact hDC
    · rcases List.mem_append.mp hq with hq | hq
      · exact (hts q hq).1.2.1
      · exact Ne.symm (ne_of_get hC (hle _ _ (N q hq).1))

theorem lc_eval {elt target iter : PySem.Expr} {ifs : List PySem.Expr} {scope : Scope} {cl : List (Str × Addr)} {pos : Pos} {env : Env} {s : Shared} {Q : Value → Shared → Prop}
    (hclos : closureFor scope env = pure cl) (hkind : scope.kind = .function) (hnames : ∀ y ∈ scope.names, y.2 = .local → scope.names.lookup y.1 = some .local)
    (h : wpAny (model Challenge.rw_re0038_01.row.prog w) A (eval iter env) (fun xv s₁ => LcGo w A env scope cl target elt ifs (FinE Q) xv s₁) E s)
    (hs : ∀ x, foldedSetIterable iter env x = pure x := by intro _; rfl) :
    wpAny (model Challenge.rw_re0038_01.row.prog w) A (eval (.ListComp elt [⟨target, iter, ifs, 0⟩] scope pos) env) Q E s := by
  rw [eval_ListComp]
  refine wpAny_comprehension_free (use := none) rfl hs hclos hkind hnames (wpAny_mono h (fun xv s₁ h₁ => ?_) fun _ _ e => e)
  refine lc_block (RR := fun acc C => compPost (model Challenge.rw_re0038_01.row.prog w) A E none Q acc C) h₁ ?_
  intro g L m news D C h' tk m' ys ts ep es hD hC hDC hn hle F N off hLC hgC hes fin
  refine ⟨m', hn, fun h'' hs'' => ?_⟩
  have k : ∀ (b : Nat) o, b ≠ C → h'.get? b = some o → h''.get? b = some o := fun b o hb e => hs''.extBut b o hb e
  exact fin _ D h'' tk ys ts ep rfl hD (fun b o hb e => k b o (Ne.symm (ne_of_get hC e)) (hle b o hb e)) ⟨F.ns.at' fun o e => k _ o hLC e, fun b o e => k b o (fun q => by rw [q, hgC] at e; cases e) (F.keep b o e), F.above⟩
    (fun q hq => ⟨k _ _ (off q hq) (N q hq).1, (N q hq).2⟩) hes

theorem lc_assign {elt target iter : PySem.Expr} {ifs : List PySem.Expr} {y : Str} {py : Pos} {scope : Scope} {cl : List (Str × Addr)} {pos spos : Pos} {env : Env} {s : Shared} {Q : Flow → Shared → Prop}
    (hsw : swapsWith (.ListComp elt [⟨target, iter, ifs, 0⟩] scope pos) (some (.Name y py)) spos.line env = pure true)
    (hclos : closureFor scope env = pure cl) (hkind : scope.kind = .function) (hnames : ∀ y ∈ scope.names, y.2 = .local → scope.names.lookup y.1 = some .local)
    (hy : env.kindOf y = some .local) (hp : (env.scope.kind == .class || (env.scope.kind == .module && env.locals != env.globals)) = false)
    (h : wpAny (model Challenge.rw_re0038_01.row.prog w) A (eval iter env) (fun xv s₁ => LcGo w A env scope cl target elt ifs (fun g L m news s₁ s₂ D es => env.locals = L ∧ FinA y Q g L m news s₁ s₂ D es) xv s₁) E s)
    (hs : ∀ x, foldedSetIterable iter env x = pure x := by intro _; rfl) :
    wpAny (model Challenge.rw_re0038_01.row.prog w) A (exec (.Assign [.Name y py] (.ListComp elt [⟨target, iter, ifs, 0⟩] scope pos) spos) env) Q E s := by
  rw [exec_Assign_Name_used _ _ _ _ hsw]
  refine wpAny_bind (wpAny_standAt (wpAny_bind ?_))
  show wpAny _ A (do let _ ← comprehension (.ListComp elt [⟨target, iter, ifs, 0⟩] scope pos) scope env _ (newList []) false (eval iter env) (some (assign (.Name y py) env))) _ _ s
  refine wpAny_bind (wpAny_mono (wpAny_comprehension_free (use := some (assign (.Name y py) env)) (Q := fun _ s' => Q .next s') rfl hs hclos hkind hnames
    (wpAny_mono h (fun xv s₁ h₁ => ?_) fun _ _ e => e)) (fun _ s' hq => wpAny_pure (wpAny_pure hq)) fun _ _ e => e)
  refine lc_block (RR := fun acc C => compPost (model Challenge.rw_re0038_01.row.prog w) A E (some (assign (.Name y py) env)) (fun _ s' => Q .next s') acc C) h₁ ?_
  intro g L m news D C h' tk m' ys ts ep es hD hC hDC hn hle F N off hLC hgC hes fin
  have hL : env.locals = L := (fin s₁ 0).1
  show wpAny _ A (assign (.Name y py) env (.ref D)) _ _ _
  refine wpAny_assign_Name (wpAny_storeName_local hy (hL ▸ F.ns) (fun h₂ hn₂ hs₂ => ?_) hp)
  dsimp only at hs₂ ⊢
  rw [hL] at hn₂ hs₂
  refine ⟨m', hn.sameBut hs₂ (Ne.symm hLC), fun h₃ hs₃ => ?_⟩
  have k2 : ∀ (b : Nat) o, b ≠ L → h'.get? b = some o → h₂.get? b = some o := fun b o hb e => hs₂.extBut b o hb e
  have k3 : ∀ (b : Nat) o, b ≠ C → h₂.get? b = some o → h₃.get? b = some o := fun b o hb e => hs₃.extBut b o hb e
  have gL : ∀ (b : Nat) o, g.get? b = some o → b ≠ L := fun b o e => Nat.ne_of_lt (Nat.lt_of_lt_of_le (Heap.lt_size e) F.above)
  exact (fin _ D).2 h₃ _ ys ts ep rfl hD (fun b o hb e => k3 b o (Ne.symm (ne_of_get hC e)) (k2 b o hb (hle b o hb e)))
    ⟨hn₂.at' fun o e => k3 _ o hLC e, fun b o e => k3 b o (fun q => by rw [q, hgC] at e; cases e) (k2 b o (gL b o e) (F.keep b o e)), F.above⟩
    (fun q hq => ⟨k3 _ _ (off q hq) (k2 _ _ (N q hq).2.1 (N q hq).1), (N q hq).2⟩) hes
end
end Mine
end

-- part Comp3
section
open PySem PySem.W PySem.Calls PyProof.Rows
set_option maxRecDepth 100000
namespace Mine
section
variable {w : World} {A : Around}

/-- one own name of the block, holding the item -/
def ShN (C : Nat) (own : List (Addr × Obj)) : Prop := ∃ oC m, own = [(C, oC)] ∧ LCg.NsObj oC m
def BN (x : Str) (P : Nat → Value → Prop) (i C : Nat) (own : List (Addr × Obj)) : Prop := ∃ oC m v, own = [(C, oC)] ∧ LCg.NsObj oC m ∧ P i v ∧ m x = some v

theorem blk_new {env : Env} {scope : Scope} {cl : List (Str × Addr)} (hcell : ∀ y ∈ scope.names, y.2 ≠ .cell) (hkind : scope.kind = .function)
    (s : Shared) (Q : Env → Shared → Prop) (E : Value → Shared → Prop) (hQ : ∀ h' own, ShN s.heap.objs.size own → (∀ p ∈ own, h'.get? p.1 = some p.2) → Le s.heap h' →
      ∀ cenv : Env, { cenv with scope := relabel scope env } = compEnvC scope cl s.heap.objs.size env → cenv.locals = s.heap.objs.size → Q cenv { s with heap := h' }) :
    wpAny (model Challenge.rw_re0038_01.row.prog w) A (newFunctionEnv scope env.globals cl [] env.qual none .none (some env)) Q E s := by
  refine wpAny_newFunctionEnv hcell (by intro y hy; simp at hy) (fun h₁ hns₁ hsb₁ => ?_) hkind
  obtain ⟨o, ho, hn⟩ := LCg.ns_obj hns₁
  refine hQ h₁ [(s.heap.objs.size, o)] ⟨o, _, rfl, hn⟩ ?_ ?_ _ rfl rfl
  · intro p hp; rw [List.mem_singleton.mp hp]; exact ho
  · intro b o e; exact hsb₁.extBut b o (Nat.ne_of_lt (Heap.lt_size e)) (Heap.get?_push_of_some _ e)

theorem blkName {env : Env} {scope : Scope} {cl : List (Str × Addr)} {x : Str} {px : Pos} {s₂ : Shared} {I L : Nat} {P : Nat → Value → Prop}
    (hcell : ∀ y ∈ scope.names, y.2 ≠ .cell) (hkind : scope.kind = .function) (hx : scope.names.lookup x = some .local) :
    Blk w A env scope cl (.Name x px) s₂ I L P (fun C => [C]) (fun _ => cl) ShN (BN x P) where
  ge := fun C a ha => by rw [List.mem_singleton.mp ha]; exact Nat.le_refl _
  ns := by rintro C own ⟨oC, m, rfl, hn⟩; exact ⟨rfl, oC, m, .head _, hn⟩
  new := blk_new hcell hkind
  assign := by
    rintro C i v s own Q E hP hC ⟨oC, m, rfl, hn⟩ how hk hQ
    refine wpAny_assign_Name (wpAny_storeName_local (lookup_relabel_local hx) (hn.ns (how _ (.head _))) (fun h₂ hn₂ hs₂ => ?_) (by simp [compEnvC, relabel, hkind]))
    obtain ⟨o, ho, hno⟩ := LCg.ns_obj hn₂
    refine hQ h₂ _ [(C, o)] ⟨o, _, rfl, hno⟩ ⟨o, _, v, rfl, hno, hP, by simp⟩ ?_ ?_
    · intro p hp; rw [List.mem_singleton.mp hp]; exact ho
    · intro b o hb e
      have hb' : b ≠ C := by simpa using hb
      exact hs₂.extBut b o hb' e

def BP (x y : Str) (V : Nat → Value → Value → Prop) (i C : Nat) (own : List (Addr × Obj)) : Prop := ∃ oC m v₁ v₂, own = [(C, oC)] ∧ LCg.NsObj oC m ∧ V i v₁ v₂ ∧ m x = some v₁ ∧ m y = some v₂

theorem blkPair {env : Env} {scope : Scope} {cl : List (Str × Addr)} {x y : Str} {px py tp : Pos} {x1} {s₂ : Shared} {I L : Nat} {P : Nat → Value → Prop} {V : Nat → Value → Value → Prop}
    (hh : A.handled = none) (hcell : ∀ y ∈ scope.names, y.2 ≠ .cell) (hkind : scope.kind = .function) (hx : scope.names.lookup x = some .local) (hy : scope.names.lookup y = some .local) (hxy : x ≠ y)
    (hP : ∀ i v, P i v → ∃ (T : Nat) (v₁ v₂ : Value), v = .ref T ∧ T ≠ I ∧ T ≠ L ∧ IsTup s₂.heap T #[v₁, v₂] ∧ V i v₁ v₂) :
    Blk w A env scope cl (.Tuple [.Name x px, .Name y py] x1 tp) s₂ I L P (fun C => [C]) (fun _ => cl) ShN (BP x y V) where
  ge := fun C a ha => by rw [List.mem_singleton.mp ha]; exact Nat.le_refl _
  ns := by rintro C own ⟨oC, m, rfl, hn⟩; exact ⟨rfl, oC, m, .head _, hn⟩
  new := blk_new hcell hkind
  assign := by
    rintro C i v s own Q E hv hC ⟨oC, m, rfl, hn⟩ how hk hQ
    obtain ⟨T, v₁, v₂, rfl, hTI, hTL, ⟨oT, hoT, hT2⟩, hV⟩ := hP i v hv
    refine assign_Tuple_tuple hh (t := T) (items := #[v₁, v₂]) ⟨oT, hk T oT hTI hTL hoT, hT2⟩ rfl rfl fun h₅ he => ?_
    have he' : ∀ b o, s.heap.get? b = some o → h₅.get? b = some o := fun b o e => he b o (Nat.ne_of_lt (Heap.lt_size e)) e
    refine assignInOrder_cons (wpAny_assign_Name (wpAny_storeName_local (lookup_relabel_local hx) (hn.ns (he' _ _ (how _ (.head _)))) (fun h₆ hn₆ hs₆ => ?_) (by simp [compEnvC, relabel, hkind])))
    refine assignInOrder_cons (wpAny_assign_Name (wpAny_storeName_local (lookup_relabel_local hy) hn₆ (fun h₃ hn₃ hs₃ => ?_) (by simp [compEnvC, relabel, hkind])))
    refine assignInOrder_nil ?_
    obtain ⟨o, ho, hno⟩ := LCg.ns_obj hn₃
    refine hQ h₃ _ [(C, o)] ⟨o, _, rfl, hno⟩ ⟨o, _, v₁, v₂, rfl, hno, hV, ?_, by simp⟩ ?_ ?_
    · simp [hxy]
    · intro p hp; rw [List.mem_singleton.mp hp]; exact ho
    · intro b o hb e
      have hb' : b ≠ C := by simpa using hb
      exact hs₃.extBut b o hb' (hs₆.extBut b o hb' (he' b o e))

/-- one own name of the block, held in a cell -/
def ShK (C : Nat) (own : List (Addr × Obj)) : Prop := ∃ oC m oK v, own = [(C, oC), (C + 1, oK)] ∧ LCg.NsObj oC m ∧ oK.data = .cell v
def BK (P : Nat → Value → Prop) (i C : Nat) (own : List (Addr × Obj)) : Prop := ∃ oC m oK v, own = [(C, oC), (C + 1, oK)] ∧ LCg.NsObj oC m ∧ P i v ∧ oK.data = .cell (some v)

theorem blkCell {env : Env} {scope : Scope} {cl : List (Str × Addr)} {x : Str} {px : Pos} {s₂ : Shared} {I L : Nat} {P : Nat → Value → Prop}
    (hkind : scope.kind = .function) (hone : ∀ n, cellsFrom n scope.names cl = (x, n) :: cl) (hpush : ∀ h, pushCells h scope.names = h.push { cls := .type "cell", data := .cell none })
    (hx : (relabel scope env).names.lookup x = some .cell) :
    Blk w A env scope cl (.Name x px) s₂ I L P (fun C => [C, C + 1]) (fun C => (x, C + 1) :: cl) ShK (BK P) where
  ge := fun C a ha => by simp only [List.mem_cons, List.not_mem_nil, or_false] at ha; rcases ha with rfl | rfl <;> omega
  ns := by rintro C own ⟨oC, m, oK, v, rfl, hn, hK⟩; exact ⟨rfl, oC, m, .head _, hn⟩
  new := by
    intro s Q E hQ
    simp only [newFunctionEnv, Option.isSome_some, if_true]
    refine wpAny_bind (wpAny_alloc ?_)
    refine wpAny_bind (wpAny_layCells _ (fun name kind cells => by cases hkc : kind == NameKind.cell <;> simp) _ _ _ _ ?_)
    dsimp only
    rw [hpush, Heap.size_push, hone]
    refine wpAny_bind (wpAny_pure ?_)
    refine wpAny_pure (hQ _ [(s.heap.objs.size, { cls := .type "dict", data := .dict #[] }), (s.heap.objs.size + 1, { cls := .type "cell", data := .cell none })] ⟨_, fun _ => none, _, none, rfl, ⟨#[], 0, rfl, ?_, ?_⟩, rfl⟩ ?_ ?_ _ ?_ rfl)
    · intro e he; simp at he
    · intro _; rfl
    · intro p hp
      simp only [List.mem_cons, List.not_mem_nil, or_false] at hp
      rcases hp with rfl | rfl
      · exact Heap.get?_push_of_some _ (Heap.get?_push_size _ rfl)
      · have := Heap.get?_push_size (s.heap.push { cls := .type "dict", data := .dict #[] }) (o := { cls := .type "cell", data := .cell none }) rfl
        rw [Heap.size_push] at this
        exact this
    · intro b o e; exact Heap.get?_push_of_some _ (Heap.get?_push_of_some _ e)
    · rfl
  assign := by
    rintro C i v s own Q E hP hC ⟨oC, m, oK, v0, rfl, hn, hK⟩ how hk hQ
    have hkk : (compEnvC scope ((x, C + 1) :: cl) C env).kindOf x = some .cell := hx
    refine wpAny_assign_Name (wpAny_storeName_cell (c := C + 1) (by simp [compEnvC, relabel, hkind]) hkk (by simp [compEnvC]) ⟨oK, how _ (.tail _ (.head _)), hK⟩ (fun h₂ hc₂ hs₂ => ?_))
    obtain ⟨o, ho, hno⟩ := hc₂
    refine hQ h₂ _ [(C, oC), (C + 1, o)] ⟨oC, m, o, _, rfl, hn, hno⟩ ⟨oC, m, o, v, rfl, hn, hP, hno⟩ ?_ ?_
    · intro p hp
      simp only [List.mem_cons, List.not_mem_nil, or_false] at hp
      rcases hp with rfl | rfl
      · exact hs₂.extBut _ _ (show C ≠ C + 1 by omega) (how _ (.head _))
      · exact ho
    · intro b o hb e; exact hs₂.extBut b o (fun q => hb (by simp [q])) e
end
end Mine
end

-- part Comp4
section
open PySem PySem.W PySem.Calls PyProof.Rows
set_option maxRecDepth 100000
namespace Mine
section
variable {M : Model} {A : Around} {E : Value → Shared → Prop} {s : Shared} {K : Frag} {h₀ : Heap} {L : Addr} {m mg mb : Str → Option Value} {env : Env} {p : Program} {loose : List Str} {x : Str} {pos : Pos} {v : Value} {Q : Value → Shared → Prop}
/-- the name of a builtin, read where a def's own names end; for a block's environment too -/
theorem built_name (F : Fr h₀ L s.heap m) (X : K.In h₀) (T : TopRead p loose mg mb h₀) (no : nsIn K mainGlobals x = some none) (yes : bootBuiltins x = some v) (hn : x ≠ "__name__")
    (h : Q v s) (kg : env.globals = mainGlobals ∧ env.builtins = builtinsNs := by exact ⟨rfl, rfl⟩) (ks : env.scope.kind = .function ∧ env.kindOf x = some .globalImplicit := by exact ⟨rfl, rfl⟩) (hd : (x == ("__debug__" : Str)) = false := by decide) :
    wpAny M A (eval (.Name x pos) env) Q E s := by
  have T' := T.keeps F.keep
  refine Name_function_global ks.1 ks.2 (loadGlobal_builtin ?_ (mg_none_of X T.g no) ?_ ((T.builtins x hn).trans yes) h) hd
  · rw [kg.1]; exact T'.g
  · rw [kg.2]; exact T'.b
theorem glob_name (F : Fr h₀ L s.heap m) (X : K.In h₀) (T : TopRead p loose mg mb h₀) (e : nsIn K mainGlobals x = some (some v)) (h : Q v s)
    (k : env.globals = mainGlobals ∧ env.scope.kind = .function ∧ env.kindOf x = some .globalImplicit ∧ (x == ("__debug__" : Str)) = false := by exact ⟨rfl, rfl, rfl, by decide⟩) :
    wpAny M A (eval (.Name x pos) env) Q E s := nameG_K F X T e h k.1 k.2.1 k.2.2.1 k.2.2.2
end
end Mine
namespace Mine
theorem stay_of {g : Heap} {L b : Nat} {m : Str → Option Value} {o : Obj} {s s' : Shared} {ns : List (Addr × Obj)} (F : Fr g L s'.heap m) (N : News g L s'.heap ns) (hm : (b, o) ∈ ns) (hs : ∃ h' tk', s' = { s with heap := h', toks := tk' }) : Stay g L m b o s s' := ⟨hs, F, (N _ hm).1⟩
end Mine
namespace Mine
theorem Els.strs' {ts : List (Addr × Obj)} {α : Type} {G : α → Str} : ∀ {is : List α} {ys : List Value}, Els ts ys (is.map fun i => El.str (G i)) → StrsAre ys (is.map G)
  | [], _, .nil => .nil
  | _ :: _, _, .str h => .cons _ _ (Els.strs' h)
theorem Els.ints' {ts : List (Addr × Obj)} {α : Type} {G : α → Int} : ∀ {is : List α} {ys : List Value}, Els ts ys (is.map fun i => El.int (G i)) → IntsAre ys (is.map G)
  | [], _, .nil => .nil
  | _ :: _, _, .int h => .cons _ _ (Els.ints' h)
end Mine
end

-- part ForL
section
open PySem PySem.W PySem.Calls PyProof.Rows
set_option maxRecDepth 100000
namespace Mine
section
variable {w : World} {A : Around} {E : Value → Shared → Prop}

/-- the end of a turn of a for -/
def TurnEnd (g : Heap) (L : Nat) (J : (Str → Option Value) → List (Addr × Obj) → Prop) (I : Nat) (oI : Obj) (Q : Flow → Shared → Prop) (s : Shared) (f : Flow) (s₃ : Shared) : Prop :=
  match f with
  | .ret v => Q (.ret v) s₃
  | .brk => Q .next s₃
  | _ => ∃ h' tk' m' news', s₃ = { s with heap := h', toks := tk' } ∧ Fr g L h' m' ∧ News g L h' ((I, oI) :: news') ∧ (∀ p ∈ news', p.1 ≠ I) ∧ J m' news'

theorem TurnEnd.next {g : Heap} {L : Nat} {J : (Str → Option Value) → List (Addr × Obj) → Prop} {I : Nat} {oI : Obj} {Q : Flow → Shared → Prop} {s : Shared} {h' : Heap} {tk' : Nat} {m' : Str → Option Value} {news' : List (Addr × Obj)}
    (F : Fr g L h' m') (N : News g L h' ((I, oI) :: news')) (off : ∀ p ∈ news', p.1 ≠ I) (j : J m' news') : TurnEnd g L J I oI Q s .next { s with heap := h', toks := tk' } := ⟨h', tk', m', news', rfl, F, N, off, j⟩

theorem for_src {target : PySem.Expr} {body : List Stmt} {env : Env} {xv : Value} {s₁ : Shared} {n : Nat} {P : Nat → Value → Prop} {g : Heap} {L : Nat} {m : Str → Option Value} {news : List (Addr × Obj)} {Q : Flow → Shared → Prop}
    (src : Src w A target xv s₁ n P) (J : Nat → (Str → Option Value) → List (Addr × Obj) → Prop)
    (F : Fr g L s₁.heap m) (N : News g L s₁.heap news) (j0 : J 0 m news)
    (hsrc : ∀ (b : Nat) o, xv = .ref b → s₁.heap.get? b = some o → (∃ its k, o.data = .seq its k) → g.get? b = some o ∨ ∀ i m news, J i m news → (b, o) ∈ news)
    (turn : ∀ i v m news (h : Heap) tk I oI, i < n → P i v → J i m news → Fr g L h m → News g L h ((I, oI) :: news) → (∀ p ∈ news, p.1 ≠ I) →
      wpAny (model Challenge.rw_re0038_01.row.prog w) A (assign target env v) (fun _ s₂ => wpAny (model Challenge.rw_re0038_01.row.prog w) A (execs body env) (TurnEnd g L (J (i + 1)) I oI Q { s₁ with heap := h, toks := tk }) E s₂) E { s₁ with heap := h, toks := tk })
    (done : ∀ m news (h : Heap) tk, J n m news → Fr g L h m → News g L h news → Q .next { s₁ with heap := h, toks := tk })
    (hN : ∀ e s', E e s' → notedBy (model Challenge.rw_re0038_01.row.prog w) A env (fun e s' => cameBackBy (model Challenge.rw_re0038_01.row.prog w) A env E e s') e s' := by exact fun _ _ e => e.elim) :
    wpAny (model Challenge.rw_re0038_01.row.prog w) A (pyIter xv) (fun it s₂ =>
      codeAny (model Challenge.rw_re0038_01.row.prog w) A (.forLoop target it body [] env) (fun r s' => match r with | .ok f => Q f s' | .error e => cameBackBy (model Challenge.rw_re0038_01.row.prog w) A env E e s') s₂) E s₁ := by
  refine src _ _ fun I h₁ fp St hI hle W hst hfp hIo hlet hfp2 => ?_
  obtain ⟨oL, esL, epL, hoL, hdL, _⟩ := id F.ns
  have hIL : L ≠ I := Ne.symm (ne_of_get hI hoL)
  have hgI : g.get? I = none := none_of_le F.keep hI
  refine codeAny_forLoop_any (fun k s' => ∃ i h tk m news, k = n - i ∧ i ≤ n ∧ s' = { s₁ with heap := h, toks := tk } ∧ St i h ∧ J i m news ∧ Fr g L h m ∧ News g L h news ∧ (∀ p ∈ news, p.1 ≠ I)) ?turn n
    ⟨0, h₁, s₁.toks, m, news, rfl, Nat.zero_le _, rfl, hst, j0, Fr_le F hle, News_le N hle, fun p hp => Ne.symm (ne_of_get hI (N p hp).1)⟩
  rintro k s' ⟨i, h, tk, m, news, rfl, hi, rfl, st, j, F', N', off⟩
  by_cases hlt : i < n
  · refine W.item i _ _ _ hlt st fun v h₂ tk₂ hv st₂ hk₂ => ?_
    have k2 : ∀ (b : Nat) o, b ≠ I → h.get? b = some o → h₂.get? b = some o := fun b o hb e => hk₂ b o (by simpa using hb) e
    obtain ⟨oI, heI⟩ := hIo _ _ st₂
    have F₂ : Fr g L h₂ m := ⟨F'.ns.at' fun o e => k2 L o hIL e, fun b o e => k2 b o (fun q => by rw [q, hgI] at e; cases e) (F'.keep b o e), F'.above⟩
    have N₂ : News g L h₂ ((I, oI) :: news) := fun p hp => by
      rcases List.mem_cons.mp hp with rfl | hp
      · exact ⟨heI, Ne.symm hIL, hgI⟩
      · exact ⟨k2 _ _ (off p hp) (N' p hp).1, (N' p hp).2⟩
    refine hlet i v _ _ _ hv st₂ (wpAny_mono (turn i v m news h₂ tk₂ I oI hlt hv j F₂ N₂ off) (fun _ s₂ h₂' => wpAny_mono h₂' (fun f s₃ h₃ => ?_) fun _ _ e => hN _ _ e) fun _ _ e => hN _ _ e)
    have fin : (∃ h' tk' m' news', s₃ = { s₁ with heap := h', toks := tk' } ∧ Fr g L h' m' ∧ News g L h' ((I, oI) :: news') ∧ (∀ p ∈ news', p.1 ≠ I) ∧ J (i + 1) m' news') → ∃ k, k < n - i ∧ ∃ i h tk m news, k = n - i ∧ i ≤ n ∧ s₃ = { s₁ with heap := h, toks := tk } ∧ St i h ∧ J i m news ∧ Fr g L h m ∧ News g L h news ∧ (∀ p ∈ news, p.1 ≠ I) := by
      rintro ⟨h', tk', m', news', rfl, F₃, N₃, off₃, j₃⟩
      refine ⟨n - (i + 1), by omega, i + 1, h', tk', m', news', rfl, hlt, rfl, W.frame _ _ _ st₂ fun b hb o eb => ?_, j₃, F₃, fun p hp => N₃ p (.tail _ hp), off₃⟩
      rcases hfp2 b hb with rfl | ⟨hx, o', its, k, ho', hd'⟩
      · rw [heI] at eb; cases eb; exact (N₃ _ (.head _)).1
      · rcases hsrc b o' hx ho' ⟨its, k, hd'⟩ with q | q
        · rw [F₂.keep b o' q] at eb; cases eb; exact F₃.keep b _ q
        · rw [(N₂ _ (.tail _ (q i m news j))).1] at eb; cases eb; exact (N₃ _ (.tail _ (q _ _ _ j₃))).1
    cases f with
    | ret v => exact h₃
    | brk => exact h₃
    | next => exact fin h₃
    | cont => exact fin h₃
  · have hin : i = n := by omega
    subst hin
    refine W.done _ _ _ st fun h₂ tk₂ hk₂ => ?_
    have k2 : ∀ (b : Nat) o, b ≠ I → h.get? b = some o → h₂.get? b = some o := fun b o hb e => hk₂ b o (by simpa using hb) e
    have F₂ : Fr g L h₂ m := ⟨F'.ns.at' fun o e => k2 L o hIL e, fun b o e => k2 b o (fun q => by rw [q, hgI] at e; cases e) (F'.keep b o e), F'.above⟩
    have N₂ : News g L h₂ news := fun p hp => ⟨k2 _ _ (off p hp) (N' p hp).1, (N' p hp).2⟩
    exact wpAny_execs_nil (done m news h₂ tk₂ j F₂ N₂)
end
end Mine
namespace Mine
theorem Fr_same {g h : Heap} {L : Nat} {x : Str} {m : Str → Option Value} (F : Fr g L h m) : Fr g L h (fun z => if z = x then m z else m z) := by
  have e : (fun z => if z = x then m z else m z) = m := by funext z; split <;> rfl
  rw [e]; exact F
theorem Fr_upd {g h : Heap} {L : Nat} {x : Str} {v : Option Value} {u m : Str → Option Value} (F : Fr g L h (fun z => if z = x then v else if z = x then u z else m z)) : Fr g L h (fun z => if z = x then (fun _ => v) z else m z) := by
  have e : (fun z => if z = x then v else if z = x then u z else m z) = (fun z => if z = x then (fun _ => v) z else m z) := by funext z; split <;> rfl
  rw [← e]; exact F
theorem strs_get {vs : List Value} {xs : List Str} (h : StrsAre vs xs) : ∀ (i : Nat) v, vs[i]? = some v → ∃ x t, xs[i]? = some x ∧ v = .str x t := by
  induction h with
  | nil => intro i v e; simp at e
  | cons x t _ ih =>
    intro i v e
    cases i with
    | zero => exact ⟨x, t, rfl, by simpa using e.symm⟩
    | succ i => exact ih i v (by simpa using e)
end Mine
namespace Mine
section
variable {w : World} {A : Around} {E : Value → Shared → Prop}
def TurnEnd2 (g : Heap) (L : Nat) (J : (Str → Option Value) → List (Addr × Obj) → Prop) (I R : Nat) (pre : List (Addr × Obj)) (Q : Flow → Shared → Prop) (s : Shared) (f : Flow) (s₃ : Shared) : Prop :=
  match f with
  | .ret v => Q (.ret v) s₃
  | .brk => Q .next s₃
  | _ => ∃ h' tk' m' news', s₃ = { s with heap := h', toks := tk' } ∧ Fr g L h' m' ∧ News g L h' (pre ++ news') ∧ (∀ p ∈ news', p.1 ≠ I ∧ p.1 ≠ R) ∧ J m' news'
theorem TurnEnd2.next {g : Heap} {L : Nat} {J : (Str → Option Value) → List (Addr × Obj) → Prop} {I R : Nat} {pre : List (Addr × Obj)} {Q : Flow → Shared → Prop} {s : Shared} {h' : Heap} {tk' : Nat} {m' : Str → Option Value} {news₀ : List (Addr × Obj)} (news' : List (Addr × Obj))
    (F : Fr g L h' m') (N : News g L h' news₀) (sub : ∀ p ∈ pre ++ news', p ∈ news₀) (off : ∀ p ∈ news', p.1 ≠ I ∧ p.1 ≠ R) (j : J m' news') : TurnEnd2 g L J I R pre Q s .next { s with heap := h', toks := tk' } := ⟨h', tk', m', news', rfl, F, fun p hp => N p (sub p hp), off, j⟩

/-- a for over a list of the call's own -/
theorem for_made {target : PySem.Expr} {body : List Stmt} {env : Env} {R : Nat} {items : Array Value} {k : Nat} {s₁ : Shared} {g : Heap} {L : Nat} {m : Str → Option Value} {news₀ : List (Addr × Obj)} {Q : Flow → Shared → Prop}
    (news : List (Addr × Obj)) (J : Nat → (Str → Option Value) → List (Addr × Obj) → Prop) (hh : A.handled = none) (ht : ∀ it v, letOwnedTupleGo target it v = pure ())
    (F : Fr g L s₁.heap m) (N : News g L s₁.heap news₀) (hm : (R, { cls := .type "list", data := .seq items k }) ∈ news₀) (hsub : ∀ p ∈ news, p ∈ news₀ ∧ p.1 ≠ R) (j0 : J 0 m news)
    (turn : ∀ (R : Nat) i v m news (h : Heap) tk I oI, items[i]? = some v → J i m news → Fr g L h m → News g L h ((I, oI) :: (R, { cls := .type "list", data := .seq items k }) :: news) → (∀ p ∈ news, p.1 ≠ I ∧ p.1 ≠ R) → I ≠ R →
      wpAny (model Challenge.rw_re0038_01.row.prog w) A (assign target env v) (fun _ s₂ => wpAny (model Challenge.rw_re0038_01.row.prog w) A (execs body env) (TurnEnd2 g L (J (i + 1)) I R [(I, oI), (R, { cls := .type "list", data := .seq items k })] Q { s₁ with heap := h, toks := tk }) E s₂) E { s₁ with heap := h, toks := tk })
    (done : ∀ m news (h : Heap) tk, J items.size m news → Fr g L h m → News g L h news → Q .next { s₁ with heap := h, toks := tk })
    (hN : ∀ e s', E e s' → notedBy (model Challenge.rw_re0038_01.row.prog w) A env (fun e s' => cameBackBy (model Challenge.rw_re0038_01.row.prog w) A env E e s') e s' := by exact fun _ _ e => e.elim) :
    wpAny (model Challenge.rw_re0038_01.row.prog w) A (pyIter (.ref R)) (fun it s₂ =>
      codeAny (model Challenge.rw_re0038_01.row.prog w) A (.forLoop target it body [] env) (fun r s' => match r with | .ok f => Q f s' | .error e => cameBackBy (model Challenge.rw_re0038_01.row.prog w) A env E e s') s₂) E s₁ := by
  refine for_src (news := (R, { cls := .type "list", data := .seq items k }) :: news) (Src.list hh ⟨_, (N _ hm).1, rfl, _, rfl⟩ ht) (fun i m nw => ∃ news, nw = (R, { cls := .type "list", data := .seq items k }) :: news ∧ (∀ p ∈ news, p.1 ≠ R) ∧ J i m news) F ?_ ⟨news, rfl, fun p hp => (hsub p hp).2, j0⟩ ?_ ?_ ?_ hN
  · intro p hp
    rcases List.mem_cons.mp hp with rfl | hp
    · exact N _ hm
    · exact N p (hsub p hp).1
  · intro b o hb ho _
    cases hb
    rw [(N _ hm).1] at ho
    cases ho
    refine .inr ?_
    rintro i m nw ⟨news, rfl, _, _⟩
    exact .head _
  · rintro i v m nw h tk I oI hi hv ⟨news, rfl, hR, j⟩ F' N' off
    have hRI : R ≠ I := off _ (.head _)
    refine wpAny_mono (turn R i v m news h tk I oI hv j F' N' (fun p hp => ⟨off p (.tail _ hp), hR p hp⟩) (Ne.symm hRI)) (fun _ s₂ h₂ => wpAny_mono h₂ (fun f s₃ h₃ => ?_) fun _ _ e => e) fun _ _ e => e
    have fin : (∃ h' tk' m' news', s₃ = { s₁ with heap := h', toks := tk' } ∧ Fr g L h' m' ∧ News g L h' ([(I, oI), (R, { cls := .type "list", data := .seq items k })] ++ news') ∧ (∀ p ∈ news', p.1 ≠ I ∧ p.1 ≠ R) ∧ J (i + 1) m' news') →
        ∃ h' tk' m' news', s₃ = { s₁ with heap := h', toks := tk' } ∧ Fr g L h' m' ∧ News g L h' ((I, oI) :: news') ∧ (∀ p ∈ news', p.1 ≠ I) ∧ ∃ news, news' = (R, { cls := .type "list", data := .seq items k }) :: news ∧ (∀ p ∈ news, p.1 ≠ R) ∧ J (i + 1) m' news := by
      rintro ⟨h', tk', m', news', rfl, F₃, N₃, off₃, j₃⟩
      refine ⟨h', tk', m', _, rfl, F₃, N₃, ?_, news', rfl, fun p hp => (off₃ p hp).2, j₃⟩
      intro p hp
      rcases List.mem_cons.mp hp with rfl | hp
      · exact hRI
      · exact (off₃ p hp).1
    cases f with
    | ret v => exact h₃
    | brk => exact h₃
    | next => exact fin h₃
    | cont => exact fin h₃
  · rintro m nw h tk ⟨news, rfl, _, j⟩ F' N'
    exact done m news h tk j F' fun p hp => N' p (.tail _ hp)
end
end Mine
namespace Mine
theorem ints_get {vs : List Value} {ns : List Int} (h : IntsAre vs ns) : ∀ (i : Nat) v, vs[i]? = some v → ∃ x t, ns[i]? = some x ∧ v = .int x t := by
  induction h with
  | nil => intro i v e; simp at e
  | cons x t _ ih =>
    intro i v e
    cases i with
    | zero => exact ⟨x, t, rfl, by simpa using e.symm⟩
    | succ i => exact ih i v (by simpa using e)
theorem Fr_junk2 {g h : Heap} {L : Nat} {a b : Str} {m' m₀ : Str → Option Value} (F : Fr g L h m') (e : ∀ z, z ≠ a → z ≠ b → m' z = m₀ z) : Fr g L h (fun z => if z = a then m' z else if z = b then m' z else m₀ z) := by
  have q : (fun z => if z = a then m' z else if z = b then m' z else m₀ z) = m' := by
    funext z
    by_cases h1 : z = a
    · simp [h1]
    · by_cases h2 : z = b
      · simp [h2]
      · simp only [if_neg h1, if_neg h2]; exact (e z h1 h2).symm
  rw [q]; exact F
end Mine
namespace Mine
section
variable {prog : Program} {w : World} {A : Around} {E : Value → Shared → Prop} {h₀ : Heap} {L l : Addr} {m : Str → Option Value} {news : List (Addr × Obj)} {value slice : PySem.Expr} {vs : List Value} {ns : List Int} {Q : Value → Shared → Prop}
/-- a cut of a list of ints, from k on -/
theorem slice_from {h : Heap} {gens : Array GenState} {drawn} {tk : Nat} {os} {k : Int} {t : Tok} (F : Fr h₀ L h m) (N : News h₀ L h news) (hm : ∃ e, (l, listOf vs.toArray e) ∈ news) (hi : IntsAre vs ns) (h0 : 0 ≤ k) (hz : ns.length ≤ 1000)
    (hn : ∀ (D : Nat) ws h', Fr h₀ L h' m → News h₀ L h' ((D, listOf (List.toArray ws) 0) :: news) → (∀ p ∈ news, p.1 < D) → IntsAre ws (ns.drop k.toNat) → Q (.ref D) ⟨h', gens, drawn, tk, os⟩)
    (hs : ∀ r : Addr, subscripted slice false (.ref l) (.ref r) = operate [.ref r, .ref l] (getItem (.ref l) (.ref r)) := by with_unfolding_all exact fun _ => rfl) :
    wpAny (model prog w) A (subscriptTail value slice (.ref l) (.ref h.objs.size)) Q E ⟨h.push { cls := .type "slice", data := .fields #[.int k t, .none, .none] }, gens, drawn, tk, os⟩ := by
  obtain ⟨e, hm⟩ := hm
  have hl : h.IsList l vs.toArray := ⟨_, (N _ hm).1, rfl, _, rfl⟩
  refine kba_turn (value' := .Name (Str.ofString "x") default) (fun _ => rfl) ?_
  exact kmk_slice_ints (s := ⟨h, gens, drawn, tk, os⟩) F N hl (.int k t) .none hi (kmk_from hi h0) rfl (fun D ws h' F' N' l1 hI _ _ => hn D ws h' F' N' l1 hI) (hs _) (fun _ => rfl) (by rw [List.size_toArray, hi.length]; exact Nat.le_trans hz (by decide))
end
end Mine
namespace Mine
section
variable {M : Model} {A : Around} {E : Value → Shared → Prop} {s : Shared} {g : Heap} {L : Nat} {m : Str → Option Value} {news : List (Addr × Obj)} {env : Env}
/-- a name that is held in a cell is stored -/
theorem st_cell {x : Str} {v : Value} {c : Nat} {o : Obj} {xo : Option Value} {Q : Unit → Shared → Prop} (hk : env.scope.kind = .function) (hkk : env.kindOf x = some .cell) (hc : env.cells.lookup x = some c)
    (F : Fr g L s.heap m) (N : News g L s.heap news) (hm : (c, o) ∈ news) (ho : o.data = .cell xo)
    (hnext : ∀ h' o', o'.data = .cell (some v) → Fr g L h' m → (∀ p ∈ news, @Ne Nat p.1 c → h'.get? p.1 = some p.2 ∧ p.1 ≠ L ∧ g.get? p.1 = none) → News g L h' [(c, o')] → Q () { s with heap := h' }) : wpAny M A (storeName env x v) Q E s := by
  have z := N _ hm
  refine wpAny_storeName_cell hk hkk hc ⟨o, z.1, ho⟩ fun h' hc' hs' => ?_
  obtain ⟨o', h1, h2⟩ := hc'
  refine hnext h' o' h2 ⟨F.ns.at' fun o e => hs'.extBut L o (Ne.symm z.2.1) e, fun b o e => hs'.extBut b o (fun q => by rw [q, z.2.2] at e; cases e) (F.keep b o e), F.above⟩ (fun p hp hpc => ⟨hs'.extBut p.1 p.2 hpc (N p hp).1, (N p hp).2⟩) ?_
  intro p hp
  rw [List.mem_singleton.mp hp]
  exact ⟨h1, z.2⟩
/-- no entry stands at a cell's place -/
theorem off_cell {c : Nat} {o : Obj} {xo : Option Value} (N : News g L s.heap news) (hm : (c, o) ∈ news) (ho : o.data = .cell xo) {b : Nat} {k : Value} {x : Array Value} {n : Nat} (e : s.heap.get? b = some { cls := k, data := .seq x n }) : b ≠ c := by
  intro q
  have z := (N _ hm).1
  dsimp only at z
  rw [q, z] at e
  cases e
  cases ho
end
end Mine

namespace Mine
theorem news_swap {g h' : Heap} {L c : Nat} {o o' : Obj} (pre post : List (Addr × Obj)) (k : ∀ p ∈ pre ++ (c, o) :: post, @Ne Nat p.1 c → h'.get? p.1 = some p.2 ∧ p.1 ≠ L ∧ g.get? p.1 = none) (N : News g L h' [(c, o')])
    (hpre : ∀ p ∈ pre, @Ne Nat p.1 c) (hpost : ∀ p ∈ post, @Ne Nat p.1 c) : News g L h' (pre ++ (c, o') :: post) := by
  intro q hq
  rcases List.mem_append.mp hq with h | h
  · exact k q (List.mem_append_left _ h) (hpre q h)
  · rcases List.mem_cons.mp h with rfl | h
    · exact N _ (.head _)
    · exact k q (List.mem_append_right _ (.tail _ h)) (hpost q h)
def NC (L : Nat) (l : List (Addr × Obj)) : Prop := ∀ p ∈ l, @Ne Nat p.1 (L + 1) ∧ @Ne Nat p.1 (L + 1 + 1) ∧ @Ne Nat p.1 (L + 1 + 1 + 1) ∧ @Ne Nat p.1 (L + 1 + 1 + 1 + 1) ∧ @Ne Nat p.1 (L + 1 + 1 + 1 + 1 + 1)
theorem NC.append {L : Nat} {l r : List (Addr × Obj)} (a : NC L l) (b : NC L r) : NC L (l ++ r) := fun p hp => (List.mem_append.mp hp).elim (a p) (b p)
theorem NC.cons {L : Nat} {p : Addr × Obj} {r : List (Addr × Obj)} (a : @Ne Nat p.1 (L + 1) ∧ @Ne Nat p.1 (L + 1 + 1) ∧ @Ne Nat p.1 (L + 1 + 1 + 1) ∧ @Ne Nat p.1 (L + 1 + 1 + 1 + 1) ∧ @Ne Nat p.1 (L + 1 + 1 + 1 + 1 + 1)) (b : NC L r) : NC L (p :: r) := fun q hq => (List.mem_cons.mp hq).elim (fun e => e ▸ a) (b q)
/-- what is new in a heap where the cells stand is no cell -/
theorem NC.new {h : Heap} {L : Nat} {o1 o2 o3 o4 o5 : Obj} {b : Nat} (h1 : h.get? (L + 1) = some o1) (h2 : h.get? (L + 1 + 1) = some o2) (h3 : h.get? (L + 1 + 1 + 1) = some o3) (h4 : h.get? (L + 1 + 1 + 1 + 1) = some o4) (h5 : h.get? (L + 1 + 1 + 1 + 1 + 1) = some o5)
    (e : h.get? b = none) : @Ne Nat b (L + 1) ∧ @Ne Nat b (L + 1 + 1) ∧ @Ne Nat b (L + 1 + 1 + 1) ∧ @Ne Nat b (L + 1 + 1 + 1 + 1) ∧ @Ne Nat b (L + 1 + 1 + 1 + 1 + 1) :=
  ⟨ne_of_get e h1, ne_of_get e h2, ne_of_get e h3, ne_of_get e h4, ne_of_get e h5⟩
end Mine

namespace Mine
theorem allLt_mem {d : Nat} : ∀ {l : List (Addr × Obj)}, AllLt d l → ∀ p ∈ l, @LT.lt Nat _ p.1 d
  | [], _, _, h => nomatch h
  | _ :: _, x, p, h => (List.mem_cons.mp h).elim (fun e => e ▸ x.1) (allLt_mem x.2 p)
end Mine

namespace Mine
theorem els_get' {ts : List (Addr × Obj)} : ∀ {cs : List (Int × Int)} {ys : List Value}, Els ts ys (cs.map fun q => .pair q.1 q.2) → ∀ (i : Nat) v, ys[i]? = some v → ∃ q T t u n, cs[i]? = some q ∧ v = .ref T ∧ (T, tup q.1 t q.2 u n) ∈ ts
  | [], _, .nil => by intro i v e; simp at e
  | q :: cs, _, .pair (T := T) (t := t) (u := u) (n := n) hm h => by
    intro i v e
    cases i with
    | zero => exact ⟨q, T, t, u, n, rfl, by simpa using e.symm, hm⟩
    | succ i =>
      obtain ⟨q', T', t', u', n', a, b, c⟩ := els_get' h i v (by simpa using e)
      exact ⟨q', T', t', u', n', by simpa using a, b, c⟩
end Mine

namespace Mine
theorem not_cell {h : Heap} {b c : Nat} {o : Obj} {x : Option Value} {k : Value} {y : Array Value} {n : Nat} (e : h.get? c = some o) (d : o.data = .cell x) (e2 : h.get? b = some { cls := k, data := .seq y n }) : @Ne Nat b c := by
  intro q
  rw [q, e] at e2
  cases e2
  cases d
end Mine
end

-- part Due
section
open PySem PySem.W PySem.Calls PyProof.Rows
set_option maxRecDepth 100000
set_option maxHeartbeats 8000000
namespace Mine
local macro_rules | `(tactic| walk_at "eval Name") => `(tactic| (k_here; (with_reducible show wpAny _ _ (eval (Expr.Name _ _) (compEnvC _ _ _ _)) _ _ _); k_dflt (first
  | refine LCgL.ld_own (by k_asm) (by k_mem) (by assumption) (by assumption) ?_
  | refine glob_name (by k_asm) (by k_asm) (by k_asm) (by k_is) ?_
  | refine built_name (by k_asm) (by k_asm) (by k_asm) (by k_is) (by boot_by_name) (by decide) ?_)))
local macro_rules | `(tactic| ktr_unf) => `(tactic| repeat' (first | (k_unfold; (try dsimp only)) | ((fail_if_success (with_reducible show wpAny _ _ (eval (Expr.ListComp _ _ _ _) _) _ _ _)); first | walk1 | (dsimp only; walk1)) | fail "no step"))

def dueStr (n sz : Int) : Str := (if n.fmod 2 = 0 then Str.ofString ".." else Str.ofString "a") ++ Txt.mul (Str.ofString "b") (sz - 1) ++ Str.ofString "\r\n"
local macro_rules | `(tactic| walk_at "call builtin:min") => `(tactic| (k_here; (with_reducible show wpAny _ _ (call (Value.builtin _) [Value.int _ _, Value.int _ _]) _ _ _); k_dflt (refine' min_two_N ?hh ?F ?N ?_); (case hh => first | rfl | assumption); (case F => k_asm); (case N => k_asm); intro h' tk' F' N'))
theorem dueStr_len (n : Int) {sz : Int} (h : 1 ≤ sz ∧ sz ≤ 4) : (dueStr n sz).length ≤ 7 := by
  unfold dueStr
  rcases (by omega : sz = 1 ∨ sz = 2 ∨ sz = 3 ∨ sz = 4) with rfl | rfl | rfl | rfl <;> split <;> decide +kernel
theorem sum_le7 (l : List Str) (h : ∀ x ∈ l, x.length ≤ 7) : (l.map (·.length)).sum ≤ 7 * l.length := by
  induction l with
  | nil => exact Nat.zero_le _
  | cons x l ih =>
    have := h x (.head _)
    have := ih fun y hy => h y (.tail _ hy)
    simp only [List.map_cons, List.sum_cons, List.length_cons]
    omega
theorem due_len (ns : List Int) (a b c : Int) (ha : 1 ≤ a ∧ a ≤ 4) (hb : 1 ≤ b ∧ b ≤ 4) (hc : 1 ≤ c ∧ c ≤ 4) : (((List.filter (fun _ => true) (List.range 7)).map fun i => dueStr (ns.getD i 0) ([a, b, c].getD (min i 2) 0)).map (·.length)).sum + ((List.filter (fun _ => true) (List.range 7)).map fun i => dueStr (ns.getD i 0) ([a, b, c].getD (min i 2) 0)).length * (Str.ofString "").length ≤ 16777216 := by
  have h1 := sum_le7 ((List.filter (fun _ => true) (List.range 7)).map fun i => dueStr (ns.getD i 0) ([a, b, c].getD (min i 2) 0)) fun x hx => by
    obtain ⟨i, _, rfl⟩ := List.mem_map.mp hx
    refine dueStr_len _ ?_
    rcases (by omega : min i 2 = 0 ∨ min i 2 = 1 ∨ min i 2 = 2) with q | q | q <;> rw [q] <;> first | exact ha | exact hb | exact hc
  have h2 : (Str.ofString "").length = 0 := rfl
  have h3 : ((List.filter (fun _ => true) (List.range 7)).map fun i => dueStr (ns.getD i 0) ([a, b, c].getD (min i 2) 0)).length = 7 := by rw [List.length_map]; rfl
  rw [h3] at h1 ⊢
  omega
def dueAll (ns : List Int) (a b c : Int) : Str := Txt.join (Str.ofString "") ((List.range 7).map fun i => dueStr (ns.getD i 0) ([a, b, c].getD (min i 2) 0))
theorem due_C {w : World} {p : Program} {loose : List Str} {mg mb : Str → Option Value} {A : Around} {s : Shared} {Q E : Value → Shared → Prop}
    {Ls Ln : Addr} {ta tb tc : Tok} {a b c : Int} {vn : List Value} {ns : List Int} {e1 e2 : Nat}
    (X : (hd.heap_39 w.params).In s.heap) (T : TopRead p loose mg mb s.heap) (hh : A.handled = none)
    (hs : s.heap.get? Ls = some (listOf #[.int a ta, .int b tb, .int c tc] e1)) (hn : s.heap.get? Ln = some (listOf vn.toArray e2)) (hi : IntsAre vn ns) (hlen : ns.length = 7)
    (ha : 1 ≤ a ∧ a ≤ 4) (hb : 1 ≤ b ∧ b ≤ 4) (hc : 1 ≤ c ∧ c ≤ 4)
    (hdp : A.depth + 2 < recursionLimit) (hu : A.units + 16 < cLine)
    (hret : ∀ (h' : Heap) (tk : Nat) (t : Tok), Le s.heap h' → Q (.str (dueAll ns a b c) t) { s with heap := h', toks := tk }) :
    wpAny (model Challenge.rw_re0038_01.row.prog w) A (call (.ref 94) [.ref Ls, .ref Ln]) Q E s := by
  revert X
  k_fill
  intro X
  refine wpAny_call ?_
  refine' enterC (binds := [(Str.ofString "sizes", .ref Ls), (Str.ofString "numbers", .ref Ln)]) (news := []) X T.nolimit ?n ?k6 ?k7 ?k8 ?k9 ?kB ?kD ?_ ?c2 ?c3 ?c4
  case k6 => k_is
  case k7 => k_is
  case k8 => omega
  case k9 => exact kp_binds X (fun _ => by kernel_rfl)
  case kB => exact rfl
  case kD => decide +kernel
  case c2 => exact rfl
  case c3 => exact rfl
  case c4 => exact rfl
  case n => exact fun _ h => nomatch h
  intro g L h₁ tk cells hg F N Y hlt
  k_cells Y
  simp only [List.cons_append, List.nil_append] at N
  replace X := X.keeps (fun b o e => hg b o e (by simp))
  replace T := T.keeps (fun b o e => hg b o e (by simp))
  have hn' : g.IsList Ln vn.toArray := ⟨_, hg _ _ hn (by simp), rfl, _, rfl⟩
  have hs' : g.IsList Ls #[.int a ta, .int b tb, .int c tc] := ⟨_, hg _ _ hs (by simp), rfl, _, rfl⟩
  have hsi : IntsAre [.int a ta, .int b tb, .int c tc] [a, b, c] := .cons _ _ (.cons _ _ (.cons _ _ .nil))
  dsimp only
  ktr_unf
  refine' lc_eval (cl := ?cl) ?hcl rfl ?hnm ?_ (fun _ => rfl)
  case hcl => exact rfl
  case hnm => decide
  ktr_unf
  rename IsRange _ _ _ _ _ _ _ _ => R1
  rename Fr _ _ _ _ => F1
  rename News _ _ _ _ => N1
  refine LcGo.mk (fun _ => true) (fun i => .str (dueStr (ns.getD i 0) ([a, b, c].getD (min i 2) 0))) F1 N1 (Src.range (n := 7) hh R1 rfl (by decide) (fun _ _ => rfl)) (by decide) (fun s₂ I hle hI => blkName (by decide) rfl rfl) ?tests ?elts ?fin
  case tests =>
    intro C i own h tk E' b o hi hB F2 N2 hle
    exact wpAny_pure ⟨rfl, ⟨_, _, rfl⟩, F2, (N2 _ (.head _)).1⟩
  case elts =>
    rintro C i own h tk E' bb oo hi _ ⟨oC, m, v, rfl, hC, ⟨t, rfl⟩, hx⟩ F2 N2 hle
    clear F1 N1 R1
    simp only [List.cons_append, List.nil_append] at N2
    ktr_unf
    all_goals (
      rename_i kcsE _
      have hsz : 1 ≤ [a, b, c].getD (if 2 < (i : Int) then (2 : Int) else (i : Int)).toNat 0 ∧ [a, b, c].getD (if 2 < (i : Int) then (2 : Int) else (i : Int)).toNat 0 ≤ 4 := by
        rcases (by omega : i = 0 ∨ i = 1 ∨ i = 2 ∨ i = 3 ∨ i = 4 ∨ i = 5 ∨ i = 6) with rfl | rfl | rfl | rfl | rfl | rfl | rfl <;> first | exact ha | exact hb | exact hc
      have esz : [a, b, c].getD (min i 2) 0 = [a, b, c].getD (if 2 < (i : Int) then (2 : Int) else (i : Int)).toNat 0 := by
        rcases (by omega : i = 0 ∨ i = 1 ∨ i = 2 ∨ i = 3 ∨ i = 4 ∨ i = 5 ∨ i = 6) with rfl | rfl | rfl | rfl | rfl | rfl | rfl <;> rfl
      rw [esz]
      clear esz
      generalize [a, b, c].getD (if 2 < (i : Int) then (2 : Int) else (i : Int)).toNat 0 = sz at hsz ⊢
      ktr_unf
    )
    all_goals first
      | exact stay_of (by k_asm) (by assumption) (by k_mem) ⟨_, _, rfl⟩
      | (rename (_ : Int) = _ => kE
         refine ⟨_, congrArg (Value.str · _) ?_⟩
         rw [Int.toNat_natCast] at kE
         unfold dueStr
         first | rw [if_pos kE] | rw [if_neg (by rw [kE]; decide)])
  case fin =>
    intro s₂ D h' tk ys ts ep es hD hk F2 N2 hE
    subst es
    clear F1 N1 R1
    have hst := Els.strs' hE
    have N3 : News g L h' [(D, W.listOf ys.toArray ep)] := fun q hq => N2 q (by rw [List.mem_singleton.mp hq]; exact .head _)
    clear N2
    ktr_unf
    refine join_list ⟨_, (N3 _ (.head _)).1, rfl, _, rfl⟩ hst ?_ fun t' k => ?_
    · exact due_len ns a b c ha hb hc
    · dsimp only
      exact hret h' _ _ (fun b o e => F2.keep b o (hg b o e (by simp)))
end Mine
end

-- part Pla
section
open PySem PySem.W PySem.Calls PyProof.Rows
set_option maxRecDepth 100000
set_option maxHeartbeats 8000000
namespace Mine
local macro_rules | `(tactic| ktr_unf) => `(tactic| repeat' (first | (k_unfold; (try dsimp only)) | ((fail_if_success (with_reducible show wpAny _ _ (exec (Stmt.For _ _ _ _ _) _) _ _ _)); first | walk1 | (dsimp only; walk1)) | fail "no step"))

def plc (ps : List Str) : List Int := ps.foldl (fun acc r => acc ++ [acc.getLastD 0 + r.length + 2]) [0]

theorem strs_dropLast {vs : List Value} {xs : List Str} (h : StrsAre vs xs) : StrsAre vs.dropLast xs.dropLast := by
  induction h with
  | nil => exact .nil
  | cons x t h ih =>
    cases h with
    | nil => exact .nil
    | cons y u h => exact .cons _ _ ih
theorem plc_ne (l : List Str) : plc l ≠ [] := by
  unfold plc
  suffices h : ∀ (l : List Str) (a : List Int), a ≠ [] → l.foldl (fun acc r => acc ++ [acc.getLastD 0 + (r.length : Int) + 2]) a ≠ [] from h l [0] (fun e => nomatch e)
  intro l
  induction l with
  | nil => intro a h; exact h
  | cons r l ih => intro a h; exact ih _ (by simp)
theorem plc_snoc (l : List Str) (r : Str) : plc (l ++ [r]) = plc l ++ [(plc l).getLastD 0 + r.length + 2] := by
  unfold plc
  rw [List.foldl_append]
  rfl
theorem plc_len (l : List Str) : (plc l).length = l.length + 1 := by
  unfold plc
  suffices h : ∀ (l : List Str) (a : List Int), (l.foldl (fun acc r => acc ++ [acc.getLastD 0 + (r.length : Int) + 2]) a).length = l.length + a.length from h l [0]
  intro l
  induction l with
  | nil => intro a; simp
  | cons r l ih => intro a; rw [List.foldl_cons, ih]; simp; omega
theorem ints_last {vs : List Value} {ns : List Int} (h : IntsAre vs ns) (hn : ns ≠ []) : ∃ t, vs[vs.length - 1]? = some (.int (ns.getLastD 0) t) := by
  have hl := h.length
  obtain ⟨t, ht⟩ := h.get (vs.length - 1) (ns.getLastD 0) (by
    rw [hl, ← List.getLast?_eq_getElem?]
    cases ns with
    | nil => exact absurd rfl hn
    | cons a l => rw [List.getLast?_eq_some_getLast (by simp), List.getLastD_eq_getLast?, List.getLast?_eq_some_getLast (by simp)]; rfl)
  exact ⟨t, ht⟩
theorem places_C {w : World} {p : Program} {loose : List Str} {mg mb : Str → Option Value} {A : Around} {s : Shared} {Q E : Value → Shared → Prop}
    {x : Str} {t : Tok}
    (X : (hd.heap_39 w.params).In s.heap) (T : TopRead p loose mg mb s.heap) (hh : A.handled = none) (hx : x.length ≤ 1000) (hxs : (Txt.split x (Str.ofString "\r\n")).length ≤ 1000)
    (hdp : A.depth + 2 < recursionLimit) (hu : A.units + 16 < cLine)
    (hret : ∀ (h' : Heap) (tk : Nat) (D : Addr) (vs : List Value) (ep : Nat), Le s.heap h' → s.heap.get? D = none → h'.get? D = some (listOf vs.toArray ep) → IntsAre vs (plc (Txt.split x (Str.ofString "\r\n")).dropLast) → Q (.ref D) { s with heap := h', toks := tk }) :
    wpAny (model Challenge.rw_re0038_01.row.prog w) A (call (.ref 101) [.str x t]) Q E s := by
  revert X
  k_fill
  intro X
  refine wpAny_call ?_
  refine' enterN (binds := [(Str.ofString "sent", .str x t)]) (news := []) X T.nolimit ?n ?k6 ?k7 ?k8 ?k9 ?kB ?_ ?c2 ?c3 ?c4 ?c5
  case k6 => k_is
  case k7 => k_is
  case k8 => omega
  case k9 => exact kp_binds X (fun _ => by kernel_rfl)
  case kB => exact locs rfl
  case c2 => exact rfl
  case c3 => exact rfl
  case c4 => exact rfl
  case c5 => decide
  case n => exact fun _ h => nomatch h
  intro g L h₁ hg F N hlt
  replace X := X.keeps (fun b o e => hg b o e (by simp))
  replace T := T.keeps (fun b o e => hg b o e (by simp))
  dsimp only
  ktr_unf
  refine wpAny_For ?_
  ktr_unf
  rename Fr _ _ _ _ => F1
  rename News _ _ _ _ => N1
  rename List.map _ _ = Txt.split _ _ => hsp
  rename StrsAre _ _ => hst
  rename ∀ (a : Str), a ∈ List.map _ _ → a.length ≤ x.length => hle
  rename Heap.IsList _ _ _ => hL1
  clear hL1
  dsimp only at N1 F1 ⊢
  rw [kms_pick_eq] at N1
  rename_i P _ _ _ _ _ l _ _ _ N0 h2
  have hP0 := Heap.lt_size (N0 _ (.tail _ (.head _))).1
  have ePick : kms_pick (strValues l).toArray.toList none (some (-1)) = (strValues l).dropLast := by
    unfold kms_pick kms_lo kms_hi
    simp [List.dropLast_eq_take]
  rw [ePick] at N1
  have hst2 : StrsAre (strValues l).dropLast (Txt.split x (Str.ofString "\r\n")).dropLast := by
    rw [← hsp]
    exact strs_dropLast hst
  have hle2 : ∀ r ∈ (Txt.split x (Str.ofString "\r\n")).dropLast, r.length ≤ 1000 := fun r hr => Nat.le_trans (hle r (hsp ▸ List.dropLast_subset _ hr)) hx
  have hrs : (Txt.split x (Str.ofString "\r\n")).dropLast.length ≤ 1000 := Nat.le_trans (by simp) hxs
  generalize (strValues l).dropLast = vr at N1 hst2
  generalize (Txt.split x (Str.ofString "\r\n")).dropLast = rs at hst2 hle2 hret hrs
  refine for_made [(P, W.listOf #[.int 0 (s.toks + [(Str.ofString "sent", Value.str x t)].length)] 0)]
    (fun i m news => ∃ (u : Str → Option Value) (vs : List Value) (ep : Nat), m = (fun z => if z = Str.ofString "row" then u z else if z = Str.ofString "places" then some (.ref P) else List.lookup z [(Str.ofString "sent", Value.str x t)].reverse) ∧ news = [(P, W.listOf vs.toArray ep)] ∧ IntsAre vs (plc (rs.take i)))
    hh (fun _ _ => rfl) (Fr_same F1) N1 (.head _) (fun q hq => ?sub) ⟨_, [_], _, rfl, rfl, .cons _ _ .nil⟩ ?turn ?done
  case sub => rw [List.mem_singleton.mp hq]; exact ⟨.tail _ (.tail _ (.head _)), Nat.ne_of_lt (Nat.lt_succ_of_lt hP0)⟩
  case turn =>
    clear F1 N1 N0
    rintro R i v m news h tk I oI hv ⟨u, vs, ep, rfl, rfl, hvs⟩ F N off hIR
    have hPI : P ≠ I := (off _ (.head _)).1
    have hPR : P ≠ R := (off _ (.head _)).2
    obtain ⟨r, tr, hr, rfl⟩ := strs_get hst2 i v (by simpa using hv)
    have hrl := hle2 r (List.mem_of_getElem? hr)
    ktr_unf
    rename Fr _ _ _ _ => F2
    rename News _ _ _ _ => N2
    have hne : plc (rs.take i) ≠ [] := plc_ne _
    obtain ⟨tv, hlast⟩ := ints_last hvs hne
    have hP : Heap.IsList _ P vs.toArray := ⟨_, (N2 (P, W.listOf vs.toArray ep) (by repeat (first | exact List.Mem.head _ | apply List.Mem.tail))).1, rfl, _, rfl⟩
    have hvl := hvs.length
    have hvp : 0 < vs.length := by rw [hvl]; exact List.length_pos_iff.mpr hne
    refine tail_any hP.typeIs slot_list_getitem.lookup (wpAny_getItem_list_neg (x := .int ((plc (rs.take i)).getLastD 0) tv) hP (by decide) ?_ (by decide) ?_ ?_) (by with_unfolding_all rfl)
    · simp; omega
    · have e : (-1 + (vs.toArray.size : Int)).toNat = vs.length - 1 := by simp; omega
      rw [e]; simpa using hlast
    have hi : i < rs.length := (List.getElem?_eq_some_iff.mp hr).1
    have hvb : vs.length ≤ 1001 := by rw [hvl, plc_len, List.length_take]; omega
    ktr_unf
    rename Fr _ _ _ _ => F3
    rename News _ _ _ _ => N3
    refine' append_K F3 N3 (Upd.tail (Ne.symm hPI) (Upd.tail (Ne.symm hPR) (Upd.head (List.forall_mem_nil _)))) ?_ ?z
    case z => simp only [sizeLine_eq]; simp; omega
    clear F3 N3
    intro h' F3 N3
    ktr_unf
    rw [List.push_toArray] at N3
    have N4 : News g L h' ([(I, oI), (R, { cls := .type "list", data := .seq vr.toArray })] ++ [(P, _)]) := N3
    refine TurnEnd2.next _ (Fr_upd F3) N4 (fun q hq => hq) (fun q hq => by rw [List.mem_singleton.mp hq]; exact ⟨hPI, hPR⟩) ⟨_, _, _, rfl, rfl, ?_⟩
    · rw [List.take_add_one, hr, Option.toList_some, plc_snoc]
      exact hvs.append (.cons _ _ .nil)
  case done =>
    clear F1 N1 N0
    rintro m news h tk ⟨u, vs, ep, rfl, rfl, hvs⟩ F N
    ktr_unf
    have hP := N _ (.head _)
    have hsz : vr.toArray.size = rs.length := by simp [hst2.length]
    rw [hsz, List.take_length] at hvs
    refine hret _ _ P vs ep (fun b o e => F.keep b o (hg b o e (by simp))) ?_ hP.1 hvs
    cases e : s.heap.get? P with
    | none => rfl
    | some o => have := hg _ _ e (by simp); rw [this] at hP; cases hP.2.2
end Mine
end

-- part Rank
section
open PySem PySem.W PySem.Calls PyProof.Rows
set_option maxRecDepth 100000
set_option maxHeartbeats 8000000
namespace Mine
local macro_rules | `(tactic| ktr_unf) => `(tactic| repeat' (first | (k_unfold; (try dsimp only)) | ((fail_if_success (with_reducible show wpAny _ _ (exec (Stmt.For _ _ _ _ _) _) _ _ _)); (fail_if_success (with_reducible show wpAny _ _ (call (Value.ref 58) _ _) _ _ _)); (fail_if_success (with_reducible show wpAny _ _ (call (Value.ref 40) _ _) _ _ _)); (fail_if_success (with_reducible show wpAny _ _ (eval (Expr.ListComp _ _ _ _) _) _ _ _)); first | walk1 | (dsimp only; walk1)) | fail "no step"))
local macro_rules | `(tactic| walk_at "eval Name") => `(tactic| (k_here; (with_reducible show wpAny _ _ (eval (Expr.Name _ _) (compEnvC _ _ _ _)) _ _ _); k_dflt (first
  | refine LCgL.ld_own (by k_asm) (by k_mem) (by assumption) (by assumption) ?_
  | refine glob_name (by k_asm) (by k_asm) (by k_asm) (by k_is) ?_
  | refine built_name (by k_asm) (by k_asm) (by k_asm) (by k_is) (by boot_by_name) (by decide) ?_)))

def keep1 (ks : List Int) (c : Int) : List Int := if (ks.drop (spotL ks c)).take 1 = [c] then ks else insR ks c

theorem bisL_le (ns : List Int) (x : Int) : ∀ (k lo hi : Nat), hi - lo ≤ k → lo ≤ hi → bisL ns x lo hi ≤ hi ∧ lo ≤ bisL ns x lo hi := by
  intro k
  induction k with
  | zero => intro lo hi h1 h2; rw [bisL_end (by omega)]; omega
  | succ k ih =>
    intro lo hi h1 h2
    by_cases h : lo < hi
    · by_cases hx : ns.getD ((lo + hi) / 2) 0 < x
      · rw [bisL_right h hx]; have := ih ((lo + hi) / 2 + 1) hi (by omega) (by omega); omega
      · rw [bisL_left h hx]; have := ih lo ((lo + hi) / 2) (by omega) (by omega); omega
    · rw [bisL_end h]; omega
theorem spotL_le (ns : List Int) (x : Int) : spotL ns x ≤ ns.length := (bisL_le ns x _ 0 ns.length (Nat.le_refl _) (Nat.zero_le _)).1
theorem insR_len (ks : List Int) (c : Int) : (insR ks c).length = ks.length + 1 := by
  have := spotR_le ks c
  unfold insR
  rw [List.length_append, List.length_cons, List.length_take, List.length_drop]
  omega
theorem keep1_len (ks : List Int) (c : Int) : (keep1 ks c).length ≤ ks.length + 1 := by
  unfold keep1
  split
  · omega
  · rw [insR_len]; omega
theorem keep_len (ns ks : List Int) : (ns.foldl keep1 ks).length ≤ ks.length + ns.length := by
  induction ns generalizing ks with
  | nil => simp
  | cons c r ih =>
    have := ih (keep1 ks c)
    have := keep1_len ks c
    rw [List.foldl_cons, List.length_cons]
    omega
theorem slice1 (ks : List Int) {sp : Nat} (h : sp ≤ ks.length) : List.take (min ((sp : Int) + 1).toNat ks.length - sp) (List.drop sp ks) = (ks.drop sp).take 1 := by
  by_cases hq : sp < ks.length
  · have e : min ((sp : Int) + 1).toNat ks.length - sp = 1 := by omega
    rw [e]
  · have e : ks.drop sp = [] := List.drop_eq_nil_of_le (by omega)
    rw [e]; simp
theorem map_range_getD {α : Type} (f : Int → α) (ns : List Int) : (List.range ns.length).map (fun i => f (ns.getD i 0)) = ns.map f := by
  apply List.ext_getElem
  · simp
  · intro i h1 h2
    simp at h1
    simp [List.getElem?_eq_getElem h1]
theorem ranks_C {w : World} {p : Program} {loose : List Str} {mg mb : Str → Option Value} {A : Around} {s : Shared} {Q E : Value → Shared → Prop}
    {Lc : Addr} {vc : List Value} {ns : List Int} {e0 : Nat}
    (X : (hd.heap_39 w.params).In s.heap) (T : TopRead p loose mg mb s.heap) (hh : A.handled = none)
    (hl : s.heap.get? Lc = some (listOf vc.toArray e0)) (hi : IntsAre vc ns) (hlen : ns.length ≤ 6)
    (hdp : A.depth + 4 < recursionLimit) (hu : A.units + 128 < cLine)
    (hret : ∀ (h' : Heap) (tk : Nat) (D T' : Addr) (vs : List Value) (ep n : Nat) (t : Tok), Le s.heap h' → s.heap.get? D = none → s.heap.get? T' = none → D ≠ T' →
      h'.get? D = some (listOf vs.toArray ep) → IntsAre vs (ns.map fun c => (spotL (ns.foldl keep1 []) c : Int)) →
      h'.get? T' = some { cls := .type "tuple", data := .seq #[.ref D, .int ((ns.foldl keep1 []).length) t] n } → Q (.ref T') { s with heap := h', toks := tk }) :
    wpAny (model Challenge.rw_re0038_01.row.prog w) A (call (.ref 106) [.ref Lc]) Q E s := by
  revert X
  k_fill
  intro X
  refine wpAny_call ?_
  refine' enterC (binds := [(Str.ofString "counts", .ref Lc)]) (news := []) X T.nolimit ?n ?k6 ?k7 ?k8 ?k9 ?kB ?kD ?_ ?c2 ?c3 ?c4
  case k6 => k_is
  case k7 => k_is
  case k8 => omega
  case k9 => exact kp_binds X (fun _ => by kernel_rfl)
  case kB => exact rfl
  case kD => decide +kernel
  case c2 => exact rfl
  case c3 => exact rfl
  case c4 => exact rfl
  case n => exact fun _ h => nomatch h
  intro g L h₁ tk cells hg F N Y hlt
  k_cells Y
  simp only [List.cons_append, List.nil_append] at N
  replace X := X.keeps (fun b o e => hg b o e (by simp))
  replace T := T.keeps (fun b o e => hg b o e (by simp))
  have hl' : g.IsList Lc vc.toArray := ⟨_, hg _ _ hl (by simp), rfl, _, rfl⟩
  dsimp only
  ktr_unf
  refine wpAny_For ?_
  ktr_unf
  rename Fr _ _ _ _ => F1
  rename News _ _ _ _ => N1
  rename L + 1 < _ => hKL
  rename_i K _ _ oc hoc0
  have F2 : Fr g L _ (fun z => if z = Str.ofString "counts" then some (.ref Lc) else none) := F1
  clear F1
  refine for_src (Src.list hh (hl'.at fun o e => F2.keep _ o e) (fun _ _ => rfl))
    (fun i m news => ∃ (u : Str → Option Value) (vk : List Value) (ep : Nat) (oc : Obj), m = (fun z => if z = Str.ofString "count" then u z else if z = Str.ofString "spot" then u z else if z = Str.ofString "counts" then some (.ref Lc) else none) ∧ news = [(K, W.listOf vk.toArray ep), (L + 1, oc)] ∧ oc.data = .cell (some (.ref K)) ∧ IntsAre vk ((ns.take i).foldl keep1 []))
    (Fr_junk2 F2 (fun z _ _ => rfl)) N1 ⟨_, [], _, _, rfl, rfl, hoc0, .nil⟩ ?src ?turn ?done
  case src =>
    intro b o hb ho _
    cases hb
    obtain ⟨o', ho', _⟩ := hl'
    rw [F2.keep _ _ ho'] at ho
    cases ho
    exact .inl ho'
  case turn =>
    clear F2 N1
    rintro i v m news h tk I oI hlt hv ⟨u, vk, ep, oc, rfl, rfl, hoc, hvk⟩ F N off
    obtain ⟨c, t, hc, rfl⟩ := ints_get hi i v (by simpa using hv)
    have hil : i < ns.length := (List.getElem?_eq_some_iff.mp hc).1
    have hkl := keep_len (ns.take i) []
    rw [List.length_take] at hkl
    have hvl := hvk.length
    have hKI : K ≠ I := off _ (.head _)
    ktr_unf
    rename Fr _ _ _ _ => F3
    rename News _ _ _ _ => N3
    generalize hks : (ns.take i).foldl keep1 [] = ks at hvk hkl hvl
    simp only [List.length_nil, Nat.zero_add] at hkl
    refine bisect_left_C (vs := vk) (n := ep) (ns := ks) (t0 := 311) (.inl ⟨rfl, rfl⟩) (X.keeps F3.keep) (T.keeps F3.keep) hh (N3 _ (.tail _ (.head _))).1 hvk (by omega) (by simp only [depth_deeper]; omega) (by simp only [units_deeper]; omega) ?_
    intro t2 h2 tk2 k2
    dsimp only at k2
    have F4 := Fr_le F3 k2
    have N4 := News_le N3 k2
    clear F3 N3
    have hsp : bisL ks c 0 ks.length = spotL ks c := rfl
    rw [hsp]
    have hsl := spotL_le ks c
    generalize hsq : spotL ks c = sp at hsl
    dsimp only
    ktr_unf
    · rename Fr _ _ _ _ => F3
      rename News _ _ _ _ => N3
      rename List.take _ _ = [c] => hq
      rw [Int.toNat_natCast, slice1 _ hsl] at hq
      refine TurnEnd.next (news' := [(K, W.listOf vk.toArray ep), (L + 1, oc)]) (Fr_junk2 F3 (fun z h1 h2 => by simp only [if_neg h1, if_neg h2])) (fun q hq => N3 q (.tail _ (.tail _ hq))) off ⟨_, vk, ep, oc, rfl, rfl, hoc, ?_⟩
      rw [List.take_add_one, hc, Option.toList_some, List.foldl_append, hks]
      have e : keep1 ks c = ks := by unfold keep1; rw [hsq, if_pos hq]
      rw [List.foldl_cons, List.foldl_nil, e]
      exact hvk
    · rename Fr _ _ _ _ => F3
      rename News _ _ _ _ => N3
      rename ¬ List.take _ _ = [c] => hq
      rw [Int.toNat_natCast, slice1 _ hsl] at hq
      refine insort_right_C (vs := vk) (n := ep) (ns := ks) (X.keeps F3.keep) (T.keeps F3.keep) hh (N3 (K, W.listOf vk.toArray ep) (by k_mem)).1 hvk (by omega) (by simp only [depth_deeper]; omega) (by simp only [units_deeper]; omega) ?_
      intro h5 tk5 n5 k5 hK5 hi5
      dsimp only at k5 hK5
      have hKz := N3 (K, W.listOf vk.toArray ep) (by k_mem)
      have F5 : Fr g L h5 _ := ⟨F3.ns.at' fun o e => k5 L o (Ne.symm hKz.2.1) e, fun b o e => k5 b o (fun q => by rw [q, hKz.2.2] at e; cases e) (F3.keep b o e), F3.above⟩
      have N5 : News g L h5 [(I, oI), (K, W.listOf (kl_ins vk (spotR ks c : Nat) (.int c t)).toArray n5), (L + 1, oc)] := by
        intro q hq
        simp only [List.mem_cons, List.not_mem_nil, or_false] at hq
        rcases hq with rfl | rfl | rfl
        · have z := N3 (I, oI) (by k_mem); exact ⟨k5 _ _ (Ne.symm hKI) z.1, z.2⟩
        · exact ⟨hK5, hKz.2⟩
        · have z := N3 (L + 1, oc) (by k_mem); exact ⟨k5 _ _ (Nat.ne_of_lt hKL) z.1, z.2⟩
      clear F3 N3
      dsimp only
      ktr_unf
      refine TurnEnd.next (news' := [(K, W.listOf (kl_ins vk (spotR ks c : Nat) (.int c t)).toArray n5), (L + 1, oc)]) (Fr_junk2 F5 (fun z h1 h2 => by simp only [if_neg h1, if_neg h2])) N5 ?_ ⟨_, _, n5, oc, rfl, rfl, hoc, ?_⟩
      · intro q hq
        simp only [List.mem_cons, List.not_mem_nil, or_false] at hq
        rcases hq with rfl | rfl
        · exact hKI
        · exact off _ (.tail _ (.head _))
      rw [List.take_add_one, hc, Option.toList_some, List.foldl_append, hks]
      have e : keep1 ks c = insR ks c := by unfold keep1; rw [hsq, if_neg hq]
      rw [List.foldl_cons, List.foldl_nil, e]
      exact hi5
  case done =>
    clear F2 N1
    rintro m news h tk ⟨u, vk, ep, oc, rfl, rfl, hoc, hvk⟩ F N
    have hsz : vc.toArray.size = ns.length := by simp [hi.length]
    rw [hsz, List.take_length] at hvk
    have hkl := keep_len ns []
    have hvl := hvk.length
    generalize hks : ns.foldl keep1 [] = ks at hvk hkl hvl hret
    simp only [List.length_nil, Nat.zero_add] at hkl
    ktr_unf
    refine' lc_eval (cl := ?cl) ?hcl rfl ?hnm ?_ (fun _ => rfl)
    case hcl => exact rfl
    case hnm => decide
    ktr_unf
    refine LcGo.mk (fun _ => true) (fun i => .int (spotL ks (ns.getD i 0))) F N (Src.list hh (hl'.at fun o e => F.keep _ o e) (fun _ _ => rfl)) (by rw [hsz]; exact Nat.le_trans hlen (by decide)) (fun s₂ I hle hI => blkName (by decide) rfl rfl) ?tests ?elts ?fin
    case tests =>
      intro C i own h tk E' b o hi hB F2 N2 hle
      exact wpAny_pure ⟨rfl, ⟨_, _, rfl⟩, F2, (N2 _ (.head _)).1⟩
    case elts =>
      rintro C i own h tk E' bb oo hlt _ ⟨oC, m, v, rfl, hC, hv, hx⟩ F2 N2 hle
      clear F N
      obtain ⟨c, t, hc, rfl⟩ := ints_get hi i v (by simpa using hv)
      simp only [List.cons_append, List.nil_append] at N2
      ktr_unf
      refine bisect_left_C (vs := vk) (n := ep) (ns := ks) (t0 := 311) (.inl ⟨rfl, rfl⟩) (X.keeps F2.keep) (T.keeps F2.keep) hh (N2 (K, W.listOf vk.toArray ep) (by k_mem)).1 hvk (by omega) (by simp only [depth_deeper]; omega) (by simp only [units_deeper]; omega) ?_
      intro t2 h2 tk2 k2
      dsimp only at k2
      have F4 := Fr_le F2 k2
      have N4 := News_le N2 k2
      clear F2 N2
      refine ⟨stay_of F4 N4 (.head _) ⟨_, _, rfl⟩, t2, ?_⟩
      rw [List.getD_eq_getElem?_getD, hc]
      rfl
    case fin =>
      intro s₂ D h' tk ys ts ep2 es hD hk F2 N2 hE
      subst es
      clear F N
      have hst := Els.ints' hE
      have N3 : News g L h' [(D, W.listOf ys.toArray ep2), (K, W.listOf vk.toArray ep), (L + 1, oc)] := fun q hq => N2 q (by
        refine mem_sub hq ?_
        repeat' (first | exact List.Subset.refl _ | exact List.nil_subset _ | refine cons_sub (by repeat (first | exact List.Mem.head _ | apply List.Mem.tail | apply List.mem_append_right)) ?_ | apply skip_sub))
      clear N2 hE
      dsimp only
      ktr_unf
      rename Fr _ _ _ _ => F4
      rename News _ _ _ _ => N4
      rename _ ∧ _ => l4
      have gN : ∀ b : Nat, g.get? b = none → s.heap.get? b = none := fun b e => by
        cases q : s.heap.get? b with
        | none => rfl
        | some o => rw [hg _ _ q (by simp)] at e; cases e
      have zT := N4 _ (.head _)
      have zD := N4 _ (.tail _ (.head _))
      refine hret _ _ D _ ys ep2 _ _ (fun b o e => F4.keep b o (hg b o e (by simp))) (gN _ zD.2.2) (gN _ zT.2.2) (Nat.ne_of_lt l4.1) zD.1 ?_ zT.1
      rw [List.filter_eq_self.mpr (fun _ _ => rfl), hsz, map_range_getD (fun c => (spotL ks c : Int))] at hst
      exact hst
end Mine
end

-- part Crw0
section
open PySem PySem.W PySem.Calls PyProof.Rows
set_option maxRecDepth 100000
namespace Mine
structure SpansAt (h : Heap) (Ls : Nat) (sp : List (Int × Int)) : Prop where
  list : ∃ items e, h.get? Ls = some (listOf items e) ∧ items.size = sp.length ∧ ∀ (i : Nat) q, sp[i]? = some q → ∃ (T : Nat) (t u : Tok) (n : Nat), items[i]? = some (.ref T) ∧ h.get? T = some (tup q.1 t q.2 u n)

theorem SpansAt.keeps {h h' : Heap} {Ls : Nat} {sp : List (Int × Int)} (S : SpansAt h Ls sp) (k : ∀ b o, (∃ x n, o.data = .seq x n) → h.get? b = some o → h'.get? b = some o) : SpansAt h' Ls sp := by
  obtain ⟨items, e, h1, h2, h3⟩ := S.list
  refine ⟨items, e, k _ _ ⟨_, _, rfl⟩ h1, h2, fun i q hq => ?_⟩
  obtain ⟨T, t, u, n, a, b⟩ := h3 i q hq
  exact ⟨T, t, u, n, a, k _ _ ⟨_, _, rfl⟩ b⟩

section
variable {prog : Program} {w : World} {A : Around} {E : Value → Shared → Prop} {s : Shared} {h₀ : Heap} {L : Addr} {m : Str → Option Value} {value slice : PySem.Expr}
theorem span_item {Ls : Nat} {sp : List (Int × Int)} {k : Nat} {tok : Tok} {q : Int × Int} {Q : Value → Shared → Prop} (S : SpansAt h₀ Ls sp) (F : Fr h₀ L s.heap m) (hk : sp[k]? = some q)
    (h : ∀ (T : Nat) (t u : Tok) (n : Nat), h₀.get? T = some (tup q.1 t q.2 u n) → Q (.ref T) s)
    (hs : ∀ u : Tok, subscripted slice false (.ref Ls) (.int (k : Int) u) = operate [.ref Ls, .int (k : Int) u] (getItem (.ref Ls) (.int (k : Int) u)) := by with_unfolding_all exact fun _ => rfl) (hb : k < 2 ^ 60) :
    wpAny (model prog w) A (subscriptTail value slice (.ref Ls) (.int (k : Int) tok)) Q E s := by
  obtain ⟨items, e, h1, h2, h3⟩ := S.list
  obtain ⟨T, t, u, n, ha, hT⟩ := h3 k q hk
  have hl : s.heap.IsList Ls items := ⟨_, F.keep _ _ h1, rfl, _, rfl⟩
  exact tail_any hl.typeIs slot_list_getitem.lookup (wpAny_getItem_list hl (by omega) (by omega) (by simpa using ha) (h T t u n hT)) (hs _)

theorem tup_item {T : Nat} {a b : Int} {t u : Tok} {n : Nat} {k : Int} {x : Value} {tok : Tok} {Q : Value → Shared → Prop} (hT : h₀.get? T = some (tup a t b u n)) (F : Fr h₀ L s.heap m) (hx : (k = 0 ∧ x = .int a t) ∨ (k = 1 ∧ x = .int b u)) (h : Q x s)
    (hs : subscripted slice false (.ref T) (.int k tok) = operate [.ref T, .int k tok] (getItem (.ref T) (.int k tok)) := by with_unfolding_all rfl) :
    wpAny (model prog w) A (subscriptTail value slice (.ref T) (.int k tok)) Q E s := by
  have ht : IsTup s.heap T (List.toArray [.int a t, .int b u]) := ⟨_, F.keep _ _ hT, rfl, _, rfl⟩
  rcases hx with ⟨rfl, rfl⟩ | ⟨rfl, rfl⟩
  · exact item_tupleT (j := 0) ht (by decide) (by decide) (by rfl) rfl h hs
  · exact item_tupleT (j := 1) ht (by decide) (by decide) (by rfl) rfl h hs

theorem tests_one {c : PySem.Expr} {env : Env} {Q : Bool → Shared → Prop} (h : wpAny (model prog w) A (isTrue c env (eval c env)) Q E s) : wpAny (model prog w) A (Tests [c] env) Q E s := by
  unfold Tests
  rw [List.forIn_cons]
  refine wpAny_bind (if_pos rfl ▸ ?_)
  show wpAny _ A (do let ok ← isTrue c env (eval c env); pure (ForInStep.yield ok)) _ _ _
  refine wpAny_bind (wpAny_mono h (fun r s' h' => ?_) fun _ _ e => e)
  refine wpAny_pure ?_
  show wpAny _ A (forIn [] r _) _ _ _
  rw [List.forIn_nil]
  exact wpAny_pure h'
end
end Mine
namespace Mine
theorem els_get {ts : List (Addr × Obj)} : ∀ {cs : List (Nat × Nat)} {ys : List Value}, Els ts ys (cs.map fun q => .pair (q.1 : Int) (q.2 : Int)) → ∀ (i : Nat) v, ys[i]? = some v → ∃ q T t u n, cs[i]? = some q ∧ v = .ref T ∧ (T, tup (q.1 : Int) t (q.2 : Int) u n) ∈ ts
  | [], _, .nil => by intro i v e; simp at e
  | q :: cs, _, .pair (T := T) (t := t) (u := u) (n := n) hm h => by
    intro i v e
    cases i with
    | zero => exact ⟨q, T, t, u, n, rfl, by simpa using e.symm, hm⟩
    | succ i =>
      obtain ⟨q', T', t', u', n', a, b, c⟩ := els_get h i v (by simpa using e)
      exact ⟨q', T', t', u', n', by simpa using a, b, c⟩
theorem Els.length {ts : List (Addr × Obj)} {ys : List Value} {es : List El} (h : Els ts ys es) : ys.length = es.length := by
  induction h with
  | nil => rfl
  | int _ ih => simp [ih]
  | str _ ih => simp [ih]
  | pair _ _ ih => simp [ih]
theorem Els.append {ts : List (Addr × Obj)} {ys zs : List Value} {es fs : List El} (h : Els ts ys es) (h2 : Els ts zs fs) : Els ts (ys ++ zs) (es ++ fs) := by
  induction h with
  | nil => exact h2
  | int _ ih => exact .int ih
  | str _ ih => exact .str ih
  | pair hm _ ih => exact .pair hm ih
theorem range_filter_map {α β : Type} (d : α) (p : α → Bool) (f : α → β) (cs : List α) : ((List.range cs.length).filter fun i => p (cs.getD i d)).map (fun i => f (cs.getD i d)) = (cs.filter p).map f := by
  have h : (List.range cs.length).map (fun i => cs.getD i d) = cs := by
    apply List.ext_getElem
    · simp
    · intro i h1 h2
      simp at h1
      simp [List.getElem?_eq_getElem h1]
  have : (cs.filter p).map f = ((((List.range cs.length).map (fun i => cs.getD i d)).filter p).map f) := by rw [h]
  rw [this, List.filter_map, List.map_map]
  rfl
end Mine
namespace Mine
theorem bitAnd_cast (a b : Nat) : Builtin.bitAnd (a : Int) (b : Int) = ((a &&& b : Nat) : Int) := rfl
theorem bitNot_cast (a : Nat) : decide (0 ≤ Builtin.bitNot (a : Int)) = false ∧ Builtin.bitNot (Builtin.bitNot (a : Int)) = a := by
  unfold Builtin.bitNot
  refine ⟨decide_eq_false (by omega), by omega⟩
theorem bitOr_cast (a b : Nat) : Builtin.bitOr (a : Int) (b : Int) = ((a ||| b : Nat) : Int) := by
  unfold Builtin.bitOr Builtin.bitAnd
  rw [(bitNot_cast a).1, (bitNot_cast b).1]
  dsimp only
  rw [(bitNot_cast a).2, (bitNot_cast b).2, (bitNot_cast _).2]
  rfl
def bit (c i : Nat) : Bool := (c >>> i) &&& 1 == 1
theorem bit_cast (c i : Nat) : (Builtin.bitAnd ((c : Int).fdiv (2 ^ ((i : Int)).toNat)) 1 == 1) = bit c i := by
  have e : (c : Int).fdiv (2 ^ ((i : Int)).toNat) = ((c >>> i : Nat) : Int) := by
    rw [Int.toNat_natCast, Int.fdiv_eq_ediv_of_nonneg _ (by exact_mod_cast Nat.zero_le (2 ^ i)), Nat.shiftRight_eq_div_pow, Int.natCast_ediv, Int.natCast_pow]
    rfl
  rw [e]
  have e2 : Builtin.bitAnd ((c >>> i : Nat) : Int) 1 = (((c >>> i) &&& 1 : Nat) : Int) := bitAnd_cast _ 1
  rw [e2]
  unfold bit
  cases q : ((c >>> i) &&& 1 == 1) with
  | true => rw [beq_iff_eq] at q ⊢; rw [q]; rfl
  | false =>
    rw [beq_eq_false_iff_ne] at q ⊢
    intro h
    exact q (by exact_mod_cast h)
theorem or_cast (c i : Nat) : Builtin.bitOr (c : Int) (1 * 2 ^ ((i : Int)).toNat) = ((c ||| 2 ^ i : Nat) : Int) := by
  have e : (1 : Int) * 2 ^ ((i : Int)).toNat = ((2 ^ i : Nat) : Int) := by rw [Int.one_mul, Int.toNat_natCast, Int.natCast_pow]; rfl
  rw [e]; exact bitOr_cast _ _
theorem and_cast (c : Nat) (x : Int) (h : 0 ≤ x) : Builtin.bitAnd (c : Int) x = ((c &&& x.toNat : Nat) : Int) := by
  obtain ⟨y, rfl⟩ : ∃ y : Nat, x = (y : Int) := ⟨x.toNat, (Int.toNat_of_nonneg h).symm⟩
  rw [bitAnd_cast, Int.toNat_natCast]
end Mine
end

-- part Lam
section
open PySem PySem.W PySem.Calls PyProof.Rows
set_option maxRecDepth 100000
set_option maxHeartbeats 8000000
namespace Mine
/-- a lambda of one argument, held in a cell, entered -/
theorem enterLam {w : World} {A : Around} {s : Shared} {R : Result → Shared → Prop} {news : List (Addr × Obj)} {name qual x : Str} {params : Arguments} {body : PySem.Expr} {scope : Scope} {clos : List (Str × Addr)} {pm ctv v : Value} {c' f : Addr} {args : Args}
    (hlim : s.heap.NoLimit) (N : ∀ p ∈ news, s.heap.get? p.1 = some p.2) (ho : s.heap.get? f = some (kla_obj name qual params body scope clos pm c' ctv)) (hcd : s.heap.CodeRec (.ref c') qual) (hroom : A.depth < recursionLimit)
    (hbind : bindArgs (kla_fn name qual params body scope clos pm (.ref c') ctv) args = pure [(x, v)])
    (hone : ∀ n, cellsFrom n scope.names clos = (x, n) :: clos) (hpush : ∀ h, pushCells h scope.names = h.push { cls := .type "cell", data := .cell none }) (hx : scope.names.lookup x = some .cell)
    (h : ∀ (g : Heap) (L : Nat) (h₁ : Heap) tk oK, (∀ b o, s.heap.get? b = some o → b ∉ news.map (·.1) → g.get? b = some o) → Fr g L h₁ (fun _ => none) → oK.data = .cell (some v) → News g L h₁ ((L + 1, oK) :: news) →
      wpAny (model Challenge.rw_re0038_01.row.prog w) (A.deeper (envX qual scope L f (.ref c') ((x, L + 1) :: clos))) (eval body (envX qual scope L f (.ref c') ((x, L + 1) :: clos))) (fun v s' => R (.ok (.ret v)) s') (fun _ _ => False) { s with heap := h₁, toks := tk })
    (hco : scope.isCoroutine = false := by rfl) (hgen : scope.isGenerator = false := by rfl) (hk : scope.kind = .function := by rfl) : codeAny (model Challenge.rw_re0038_01.row.prog w) A (.call (.ref f) args) R s := by
  refine kla_callFunE hroom ho rfl hco hgen rfl hcd ?_
  rw [hbind]
  refine wpAny_pure ?_
  simp only [newFunctionEnv, Option.isSome_none, Bool.false_eq_true, if_false]
  refine wpAny_bind (wpAny_alloc ?_)
  refine wpAny_bind (wpAny_layCells _ (fun name kind cells => by cases hkc : kind == NameKind.cell <;> simp) _ _ _ _ ?_)
  dsimp only
  rw [hpush, Heap.size_push, hone]
  have hC0 := Heap.get?_push_size (s.heap.push { cls := .type "frame", data := .dict #[] }) (o := { cls := .type "cell", data := .cell none }) rfl
  rw [Heap.size_push] at hC0
  refine wpAny_bind ?_
  rw [List.forIn_cons]
  refine wpAny_bind (wpAny_bind (wpAny_storeName_cell (c := s.heap.objs.size + 1) hk hx (by simp) ⟨_, hC0, rfl⟩ (fun h₂ hc₂ hs₂ => ?_)))
  refine wpAny_pure ?_
  show wpAny _ _ (forIn [] PUnit.unit _) _ _ _
  rw [List.forIn_nil]
  refine wpAny_pure (wpAny_pure ?_)
  obtain ⟨oK, hK, hKd⟩ := hc₂
  dsimp only at hs₂ ⊢
  have stays : Le s.heap h₂ := fun b o e => hs₂.extBut b o (Nat.ne_of_lt (Nat.lt_succ_of_lt (Heap.lt_size e))) (Heap.get?_push_of_some _ (Heap.get?_push_of_some _ e))
  have hL : h₂.get? s.heap.objs.size = some { cls := .type "frame", data := .dict #[] } := hs₂.extBut _ _ (Nat.ne_of_lt (Nat.lt_succ_self _)) (Heap.get?_push_of_some _ (Heap.get?_push_size _ rfl))
  refine ⟨hlim.keeps stays, kla_codeExpr (wpAny_mono (h (hideAll s.heap (news.map (·.1))) s.heap.objs.size h₂ _ oK (fun b o e n => hideAll_get _ e n) ⟨⟨_, #[], _, hL, rfl, ?_, ?_⟩, fun b o e => stays b o (of_hideAll _ e), Nat.le_of_eq (hideAll_size _ _)⟩ hKd ?_) (fun _ _ y => y) fun _ _ y => y.elim)⟩
  · intro e he; simp at he
  · intro _; rfl
  · intro q hq
    rcases List.mem_cons.mp hq with rfl | hq
    · refine ⟨hK, Nat.ne_of_gt (Nat.lt_succ_self _), ?_⟩
      cases e : (hideAll s.heap (news.map (·.1))).get? (s.heap.objs.size + 1) with
      | none => rfl
      | some o =>
        have := Heap.lt_size e
        rw [hideAll_size] at this
        exact absurd this (Nat.not_lt.mpr (Nat.le_succ _))
    · exact ⟨stays _ _ (N q hq), Nat.ne_of_lt (Heap.lt_size (N q hq)), hideAll_none _ (List.mem_map_of_mem hq)⟩
end Mine
namespace Mine
local macro_rules | `(tactic| ktr_unf) => `(tactic| repeat' (first | (k_unfold; (try dsimp only)) | ((fail_if_success (with_reducible show wpAny _ _ (eval (Expr.ListComp _ _ _ _) _) _ _ _)); (fail_if_success (with_reducible show wpAny _ _ (call (Value.builtin "max") _ _) _ _ _)); first | walk1 | (dsimp only; walk1)) | fail "no step"))
local macro_rules | `(tactic| walk_at "eval Name") => `(tactic| (k_here; (with_reducible show wpAny _ _ (eval (Expr.Name _ _) (compEnvC _ _ _ _)) _ _ _); k_dflt (first
  | refine LCgL.ld_own (by k_asm) (by k_mem) (by assumption) (by assumption) ?_
  | refine glob_name (by k_asm) (by k_asm) (by k_asm) (by k_is) ?_
  | refine built_name (by k_asm) (by k_asm) (by k_asm) (by k_is) (by boot_by_name) (by decide) ?_)))
local macro_rules | `(tactic| walk_at "subscriptTail") => `(tactic| (k_here; (with_reducible show wpAny _ _ (subscriptTail _ _ (Value.ref _) (Value.int _ _)) _ _ _); k_dflt (first
  | (refine span_item (by assumption) (by k_asm) (by assumption) ?_ (hb := by omega); intro T' t' u' n' hT')
  | (refine tup_item (by assumption) (by k_asm) (by first | exact .inl ⟨rfl, rfl⟩ | exact .inr ⟨rfl, rfl⟩) ?_))))

def cDef : Stmt := Challenge.pw_re0038_01.main.body.getD 18 (.Pass default)
def cBody : List Stmt := bodyOf cDef
def lamOf : Stmt → PySem.Expr
  | .Return (some (.Call _ _ [⟨_, e, _⟩] _)) _ => e
  | _ => .Name "" default
def lamParams : PySem.Expr → Arguments
  | .Lambda p _ _ _ => p
  | _ => { posonlyargs := [], args := [], vararg := none, kwonlyargs := [], kw_defaults := [], kwarg := none, defaults := [] }
def lamBody : PySem.Expr → PySem.Expr
  | .Lambda _ b _ _ => b
  | e => e
def lamScope : PySem.Expr → Scope
  | .Lambda _ _ s _ => s
  | _ => { kind := .function, names := [], isGenerator := false, isCoroutine := false, more := [] }
def cLam : PySem.Expr := lamOf (cBody.getD 4 (.Pass default))
theorem cLam_ok : ∃ p b s x, cLam = .Lambda p b s x := ⟨_, _, _, _, rfl⟩
def lamQual : Str := Str.ofString "_law_crowds" ++ ".<locals>." ++ "<lambda>"
def startsOf (sp : List (Int × Int)) (c : Nat) : List Int := ((List.range 6).filter (bit c)).map fun i => (sp.getD i (0, 0)).1
def keyOf (sp : List (Int × Int)) (c : Nat) : Int := (startsOf sp c).foldl (fun σ a => if σ < a then a else σ) ((startsOf sp c).headD 0)
theorem keyOf_is {sp : List (Int × Int)} {c : Nat} {M : Int} (h1 : M ∈ startsOf sp c) (h2 : ∀ a ∈ startsOf sp c, a ≤ M) : M = keyOf sp c := by
  unfold keyOf
  have hz : (startsOf sp c).headD 0 ∈ startsOf sp c := by
    cases q : startsOf sp c with
    | nil => rw [q] at h1; simp at h1
    | cons a l => exact .head _
  obtain ⟨a, b, d⟩ := fold_max (startsOf sp c) ((startsOf sp c).headD 0)
  have e1 := d M h1
  have e2 : (startsOf sp c).foldl (fun σ a => if σ < a then a else σ) ((startsOf sp c).headD 0) ≤ M := by
    rcases a with a | a
    · rw [a]; exact h2 _ hz
    · exact h2 _ a
  exact Int.le_antisymm e1 e2

theorem lam_C {w : World} {p : Program} {loose : List Str} {mg mb : Str → Option Value} {A : Around} {s : Shared} {Q E : Value → Shared → Prop}
    {f c' cs : Nat} {os : Obj} {Ls : Nat} {sp : List (Int × Int)} {c : Nat} {t : Tok} {pm ctv : Value}
    (X : (hd.heap_39 w.params).In s.heap) (T : TopRead p loose mg mb s.heap) (hh : A.handled = none) (S : SpansAt s.heap Ls sp) (hlen : sp.length = 6)
    (hf : s.heap.get? f = some (kla_obj "<lambda>" lamQual (lamParams cLam) (lamBody cLam) (lamScope cLam) [(Str.ofString "spans", cs)] pm c' ctv))
    (hcode : s.heap.CodeRec (.ref c') lamQual) (hcell : s.heap.get? cs = some os) (ds : os.data = .cell (some (.ref Ls))) (hc : ∃ i, i < 6 ∧ bit c i = true)
    (hdp : A.depth + 1 < recursionLimit) (hu : A.units + 64 < cLine) (hcs : 117 ≤ cs)
    (hret : ∀ (h' : Heap) (tk : Nat) (t' : Tok), Le s.heap h' → Q (.int (keyOf sp c) t') { s with heap := h', toks := tk }) :
    wpAny (model Challenge.rw_re0038_01.row.prog w) A (call (.ref f) [.int (c : Int) t]) Q E s := by
  revert X
  k_fill
  intro X
  refine wpAny_call ?_
  refine enterLam (x := Str.ofString "crowd") (v := .int (c : Int) t) (news := [(cs, os)]) T.nolimit (by simp [hcell]) hf hcode (by omega) rfl (fun _ => rfl) (fun _ => rfl) rfl ?_
  intro g L h₁ tk oK hg F dK N
  have hx : ∀ b ∈ [(cs, os)].map (·.1), b = cs := by simp
  have low : ∀ (b : Nat) o, b < 117 → s.heap.get? b = some o → g.get? b = some o := fun b o hb e => hg b o e (fun hm => by have h := hx b hm; have h' : (b : Nat) = cs := h; omega)
  replace X := In_low X low
  replace T := Top_low T low
  replace S : SpansAt g Ls sp := S.keeps fun b o hq e => hg b o e (by
    intro hm
    have := hx b hm
    subst this
    rw [hcell] at e
    cases e
    obtain ⟨x, n, hq⟩ := hq
    rw [ds] at hq
    cases hq)
  show wpAny _ _ (eval (.Call _ _ _ _) _) _ _ _
  ktr_unf
  refine' lc_eval (cl := ?cl) ?hcl rfl ?hnm ?_ (fun _ => rfl)
  case hcl => exact rfl
  case hnm => decide
  ktr_unf
  rename IsRange _ _ _ _ _ _ _ _ => R1
  rename Fr _ _ _ _ => F1
  rename News _ _ _ _ => N1
  refine LcGo.mk (fun i => bit c i) (fun i => .int (sp.getD i (0, 0)).1) F1 N1 (Src.range (n := 6) hh R1 rfl (by decide) (fun _ _ => rfl)) (by decide) (fun s₂ I hle hI => blkName (by decide) rfl rfl) ?tests ?elts ?fin
  case tests =>
    rintro C j own h2 tk2 E2 b o hj ⟨oC, m2, v2, rfl, hC2, ⟨t2, rfl⟩, hx2⟩ F3 N3 hle3
    clear F1 N1 R1
    simp only [List.cons_append, List.nil_append] at N3
    refine tests_one ?_
    ktr_unf
    · rw [bit_cast]
    · exact stay_of (by k_asm) (by assumption) (by k_mem) ⟨_, _, rfl⟩
  case elts =>
    rintro C j own h2 tk2 E2 b o hj _ ⟨oC, m2, v2, rfl, hC2, ⟨t2, rfl⟩, hx2⟩ F3 N3 hle3
    clear F1 N1 R1
    simp only [List.cons_append, List.nil_append] at N3
    obtain ⟨qj, hqj⟩ : ∃ q, sp[j]? = some q := ⟨_, List.getElem?_eq_getElem (by omega)⟩
    ktr_unf
    · exact stay_of (by k_asm) (by assumption) (by k_mem) ⟨_, _, rfl⟩
    · rw [List.getD_eq_getElem?_getD, hqj]
      exact ⟨_, rfl⟩
  case fin =>
    intro s₂ D h2 tk2 ys ts ep es hD hk F3 N3 hE
    subst es
    clear F1 N1 R1
    have hst := Els.ints' hE
    have N4 : News g L h2 [(D, W.listOf ys.toArray ep), (cs, os)] := fun q hq => N3 q (by
      refine mem_sub hq ?_
      repeat' (first | exact List.Subset.refl _ | exact List.nil_subset _ | refine cons_sub (by repeat (first | exact List.Mem.head _ | apply List.Mem.tail | apply List.mem_append_right)) ?_ | apply skip_sub))
    clear N3 hE
    dsimp only
    ktr_unf
    refine max_list_N hh F3 N4 ⟨_, (N4 _ (.head _)).1, rfl, _, rfl⟩ hst ?_ ?_
    · rw [List.length_map]
      obtain ⟨i, h1, h2⟩ := hc
      exact List.length_pos_of_mem (List.mem_filter.mpr ⟨List.mem_range.mpr h1, h2⟩)
    · intro h5 M t5 tk5 F5 N5 m1 m2
      rw [keyOf_is (sp := sp) (c := c) m1 m2]
      refine hret h5 _ _ fun b o e => ?_
      by_cases hb : b = cs
      · subst hb
        rw [hcell] at e
        cases e
        exact (N5 _ (.tail _ (.head _))).1
      · exact F5.keep b o (hg b o e fun hm => hb (hx b hm))
end Mine
end

-- part Crw2
section
open PySem PySem.W PySem.Calls PyProof.Rows
set_option maxRecDepth 100000
set_option maxHeartbeats 8000000
namespace Mine
local macro_rules | `(tactic| ktr_unf) => `(tactic| repeat' (first | (k_unfold; (try dsimp only)) | ((fail_if_success (with_reducible show wpAny _ _ (exec (Stmt.For _ _ _ _ _) _) _ _ _)); (fail_if_success (with_reducible show wpAny _ _ (eval (Expr.ListComp _ _ _ _) _) _ _ _)); (fail_if_success (with_reducible show wpAny _ _ (binaryOp Operator.Add (Value.ref _) (Value.ref _)) _ _ _)); (fail_if_success (with_reducible show wpAny _ _ (eval (Expr.Lambda _ _ _ _) _) _ _ _)); (fail_if_success (with_reducible show wpAny _ _ (exec (Stmt.Assign [Expr.Name _ _] (Expr.ListComp _ _ _ _) _) _) _ _ _)); first | walk1 | (dsimp only; walk1)) | fail "no step"))
local macro_rules | `(tactic| walk_at "eval Name") => `(tactic| (k_here; (with_reducible show wpAny _ _ (eval (Expr.Name _ _) (compEnvC _ _ _ _)) _ _ _); k_dflt (first
  | refine LCgL.ld_own (by k_asm) (by k_mem) (by assumption) (by assumption) ?_
  | refine glob_name (by k_asm) (by k_asm) (by k_asm) (by k_is) ?_
  | refine built_name (by k_asm) (by k_asm) (by k_asm) (by k_is) (by boot_by_name) (by decide) ?_)))

def cEnv (L : Addr) : Env := envOfC (Str.ofString "_law_crowds") (scopeOf cDef) L 111 (.ref 110)
def cFor : Stmt := cBody.getD 2 (.Pass default)
theorem cfbody : ∃ a, forBody cFor = [a] := ⟨_, rfl⟩

/-- what a turn of the loop adds -/
def grow (ms : List Int) (i : Nat) (cs : List (Nat × Nat)) : List (Nat × Nat) := (cs.filter fun q => bit q.2 i).map fun q => (q.1 ||| 2 ^ i, q.2 &&& (ms.getD i 0).toNat)

theorem crowds_turn {w : World} {p : Program} {loose : List Str} {mg mb : Str → Option Value} {A : Around} {s : Shared} {E : Value → Shared → Prop} {Q : Flow → Shared → Prop}
    {g : Heap} {L K M I : Nat} {om oo os oI : Obj} {vals vm : List Value} {ms : List Int} {ep em i : Nat} {t : Tok} {Ls : Addr} {cs : List (Nat × Nat)} {ts : List (Addr × Obj)} {ob : Obj}
    (X : (hd.heap_39 w.params).In g) (T : TopRead p loose mg mb g) (hh : A.handled = none)
    (F : Fr g L s.heap (fun z => if z = Str.ofString "crowds" then some (.ref K) else none))
    (N : News g L s.heap ([(K, listOf vals.toArray ep), (M, listOf vm.toArray em), (L + 1 + 1 + 1, om), (L + 1 + 1, oo), (L + 1, os), (108, ob), (I, oI)] ++ ts))
    (hM : IntsAre vm ms) (hms : ms.length = 6) (hmb : ∀ x ∈ ms, 0 ≤ x ∧ x < 64) (hi : i < 6)
    (dm : om.data = .cell (some (.ref M))) (do' : oo.data = .cell (some (.int (i : Int) t))) (ds : os.data = .cell (some (.ref Ls)))
    (hE : Els ts vals (cs.map fun q => .pair (q.1 : Int) (q.2 : Int))) (hcs : ∀ q ∈ cs, q.1 < 64 ∧ q.2 < 64) (hcl : cs.length ≤ 64)
    (hu : A.units + 128 < cLine)
    (hnext : ∀ (h' : Heap) (tk K' : Nat) (vals' : List Value) (ts' : List (Addr × Obj)), Fr g L h' (fun z => if z = Str.ofString "crowds" then some (Value.ref K') else none) →
      News g L h' ([(K', { cls := .type "list", data := .seq vals'.toArray 0 }), (M, listOf vm.toArray em), (L + 1 + 1 + 1, om), (L + 1 + 1, oo), (L + 1, os), (108, ob), (I, oI)] ++ ts') → Els ts' vals' ((cs ++ grow ms i cs).map fun q => .pair (q.1 : Int) (q.2 : Int)) → K' ≠ I → (∀ p ∈ ts', p ∈ ts ∨ s.heap.get? p.1 = none) →
      Q .next { s with heap := h', toks := tk }) :
    wpAny (model Challenge.rw_re0038_01.row.prog w) A (execs (forBody cFor) (cEnv L)) Q E s := by
  revert X
  k_fill
  intro X
  dsimp only [cEnv]
  show wpAny _ _ (execs (_ :: _) _) _ _ _
  have N1 : News g L s.heap [(K, listOf vals.toArray ep), (M, listOf vm.toArray em), (L + 1 + 1 + 1, om), (L + 1 + 1, oo), (L + 1, os), (108, ob), (I, oI)] := fun q hq => N q (List.mem_append_left _ hq)
  have Nts : News g L s.heap ts := fun q hq => N q (List.mem_append_right _ hq)
  clear N
  ktr_unf
  refine' lc_eval (cl := ?cl) ?hcl rfl ?hnm ?_ (fun _ => rfl)
  case hcl => exact rfl
  case hnm => decide
  ktr_unf
  have hlv : vals.length = cs.length := by rw [hE.length, List.length_map]
  have hK : (_ : Heap).IsList K vals.toArray := ⟨_, (N1 _ (.head _)).1, rfl, _, rfl⟩
  refine LcGo.mk (fun j => bit (cs.getD j (0, 0)).2 i) (fun j => .pair (((cs.getD j (0, 0)).1 ||| 2 ^ i : Nat) : Int) (((cs.getD j (0, 0)).2 &&& (ms.getD i 0).toNat : Nat) : Int)) F N1
    (Src.pairs hh hK (fun j v hv => by obtain ⟨_, T, _, _, _, _, rfl, _⟩ := els_get hE j v (by simpa using hv); exact ⟨T, rfl⟩)) (by rw [List.size_toArray, hlv]; exact Nat.le_trans hcl (by decide))
    (fun s₂ I2 hle hI => blkPair (V := fun j v1 v2 => ∃ q t u, cs[j]? = some q ∧ v1 = .int ((q.1 : Nat) : Int) t ∧ v2 = .int ((q.2 : Nat) : Int) u) hh (by decide) rfl rfl rfl (by decide) (fun j v hv => by
      obtain ⟨q, T, t, u, n, h1, rfl, hm⟩ := els_get hE j v (by simpa using hv)
      have z := Nts _ hm
      exact ⟨T, _, _, rfl, Ne.symm (ne_of_get hI z.1), z.2.1, ⟨_, hle _ _ z.1, rfl, _, rfl⟩, q, t, u, h1, rfl, rfl⟩)) ?tests ?elts ?fin
  case tests =>
    rintro C j own h tk E' b o hj ⟨oC, m, v1, v2, rfl, hC, ⟨q, t1, t2, hq, rfl, rfl⟩, hx, hy⟩ F2 N2 hle
    clear F N1 hK
    simp only [List.cons_append, List.nil_append] at N2
    obtain ⟨hq1, hq2⟩ := hcs q (List.mem_of_getElem? hq)
    refine tests_one ?_
    ktr_unf
    · rw [bit_cast, List.getD_eq_getElem?_getD, hq]; rfl
    · exact stay_of (by k_asm) (by assumption) (by k_mem) ⟨_, _, rfl⟩
  case elts =>
    rintro C j own h tk E' b o hj hp ⟨oC, m, v1, v2, rfl, hC, ⟨q, t1, t2, hq, rfl, rfl⟩, hx, hy⟩ F2 N2 hle
    clear F N1 hK
    simp only [List.cons_append, List.nil_append] at N2
    obtain ⟨hq1, hq2⟩ := hcs q (List.mem_of_getElem? hq)
    ktr_unf
    · exact stay_of (by k_asm) (by assumption) (by k_mem) ⟨_, _, rfl⟩
    · rename News _ _ _ _ => N3
      rename _ ∧ _ => lD
      have z := N3 _ (.head _)
      have hmi : 0 ≤ ms.getD i 0 := by
        rw [List.getD_eq_getElem?_getD]
        cases e : ms[i]? with
        | none => exact Int.le_refl _
        | some x => exact (hmb x (List.mem_of_getElem? e)).1
      rw [or_cast, Int.toNat_natCast, and_cast _ _ hmi] at z
      rw [List.getD_eq_getElem?_getD, hq]
      exact ⟨_, _, _, _, rfl, ⟨Nat.ne_of_gt lD.1, z.2⟩, z.1⟩
  case fin =>
    intro s₂ D h' tk ys ts2 ep2 es hD hk F2 N2 hE2
    subst es
    dsimp only
    have N3 : News g L h' ([(D, listOf ys.toArray ep2), (K, listOf vals.toArray ep), (M, listOf vm.toArray em), (L + 1 + 1 + 1, om), (L + 1 + 1, oo), (L + 1, os), (108, ob), (I, oI)] ++ (ts2 ++ ts)) := by
      intro q hq
      rcases List.mem_append.mp hq with hq | hq
      · rcases List.mem_cons.mp hq with rfl | hq
        · exact N2 _ (.head _)
        · exact N2 _ (.tail _ (List.mem_append_right _ hq))
      · rcases List.mem_append.mp hq with hq | hq
        · exact N2 _ (.tail _ (List.mem_append_left _ hq))
        · have z := Nts q hq; exact ⟨hk _ _ z.2.1 z.1, z.2⟩
    have hI' : I < h'.objs.size := Heap.lt_size (N3 (I, oI) (by repeat (first | exact List.Mem.head _ | apply List.Mem.tail | apply List.mem_append_right))).1
    clear N1 N2 Nts F hK
    rw [List.size_toArray, hlv, range_filter_map (0, 0) (fun q => bit q.2 i) (fun q => El.pair ((q.1 ||| 2 ^ i : Nat) : Int) ((q.2 &&& (ms.getD i 0).toNat : Nat) : Int))] at hE2
    have hE3 : Els (ts2 ++ ts) (vals ++ ys) ((cs ++ grow ms i cs).map fun q => .pair (q.1 : Int) (q.2 : Int)) := by
      rw [List.map_append]
      refine Els.append (hE.mono fun p hp => List.mem_append_right _ hp) (Els.mono ?_ fun p hp => List.mem_append_left _ hp)
      unfold grow
      rw [List.map_map]
      exact hE2
    have hly : ys.length ≤ 64 := by
      rw [hE2.length, List.length_map]
      exact Nat.le_trans (List.length_filter_le _ _) hcl
    refine add_lists (hsz := by rw [hlv, sizeLine_eq]; omega) F2 N3 ⟨_, (N3 (K, listOf vals.toArray ep) (by repeat (first | exact List.Mem.head _ | apply List.Mem.tail | apply List.mem_append_right))).1, rfl, _, rfl⟩ ⟨_, (N3 (D, listOf ys.toArray ep2) (by repeat (first | exact List.Mem.head _ | apply List.Mem.tail | apply List.mem_append_right))).1, rfl, _, rfl⟩ ?_
    intro h5 F5 N5
    clear F2 N3
    ktr_unf
    rename Fr _ _ _ _ => F6
    rename News _ _ _ _ => N6
    have eF : (fun y => if y = Str.ofString "crowds" then some (Value.ref h'.objs.size) else if y = Str.ofString "crowds" then some (Value.ref K) else none) = (fun z => if z = Str.ofString "crowds" then some (Value.ref h'.objs.size) else (none : Option Value)) := by funext z; split <;> rfl
    rw [eF] at F6
    refine hnext _ _ h'.objs.size (vals ++ ys) (ts2 ++ ts) F6 ?_ hE3 (Nat.ne_of_gt hI') ?_
    · intro q hq
      rcases List.mem_append.mp hq with hq | hq
      · rcases List.mem_cons.mp hq with rfl | hq
        · exact N6 _ (.head _)
        · exact N6 _ (.tail _ (List.mem_append_left _ (.tail _ (.tail _ hq))))
      · exact N6 _ (.tail _ (List.mem_append_right _ hq))
    · intro q hq
      rcases List.mem_append.mp hq with hq | hq
      · exact .inr (hD.2 q hq)
      · exact .inl hq
end Mine
end

-- part Crw3
section
open PySem PySem.W PySem.Calls PyProof.Rows
set_option maxRecDepth 100000
set_option maxHeartbeats 8000000
namespace Mine
local macro_rules | `(tactic| ktr_unf) => `(tactic| repeat' (first | (k_unfold; (try dsimp only)) | ((fail_if_success (with_reducible show wpAny _ _ (eval (Expr.ListComp _ _ _ _) _) _ _ _)); (fail_if_success (with_reducible show wpAny _ _ (eval (Expr.Lambda _ _ _ _) _) _ _ _)); (fail_if_success (with_reducible show wpAny _ _ (call (Value.builtin "sorted") _ _) _ _ _)); (fail_if_success (with_reducible show wpAny _ _ (exec (Stmt.Assign [Expr.Name _ _] (Expr.ListComp _ _ _ _) _) _) _ _ _)); first | walk1 | (dsimp only; walk1)) | fail "no step"))
local macro_rules | `(tactic| walk_at "eval Name") => `(tactic| (k_here; (with_reducible show wpAny _ _ (eval (Expr.Name _ _) (compEnvC _ _ _ _)) _ _ _); k_dflt (first
  | refine LCgL.ld_own (by k_asm) (by k_mem) (by assumption) (by assumption) ?_
  | refine glob_name (by k_asm) (by k_asm) (by k_asm) (by k_is) ?_
  | refine built_name (by k_asm) (by k_asm) (by k_asm) (by k_is) (by boot_by_name) (by decide) ?_)))

theorem sorted_keyed {w : World} {p : Program} {loose : List Str} {mg mb : Str → Option Value} {A : Around} {s : Shared} {Q E : Value → Shared → Prop}
    {g : Heap} {L f c' D : Nat} {os oc ot : Obj} {m : Str → Option Value} {ys : List Value} {ep : Nat} {Ls : Nat} {sp : List (Int × Int)} {cz : List Nat} {pm ctv : Value} {tq : Tok} {vca : Array Value}
    (X : (hd.heap_39 w.params).In g) (T : TopRead p loose mg mb g) (hh : A.handled = none) (S : SpansAt g Ls sp) (hlen : sp.length = 6)
    (F : Fr g L s.heap m) (N : News g L s.heap [(f, kla_obj "<lambda>" lamQual (lamParams cLam) (lamBody cLam) (lamScope cLam) [(Str.ofString "spans", L + 1)] pm c' ctv), (c', oc), (D, listOf ys.toArray ep), (L + 1, os), (108, ot)])
    (hdc : oc.data = .fields vca) (hvc : vca[1]? = some (.str lamQual tq)) (ds : os.data = .cell (some (.ref Ls))) (hL : 117 ≤ L)
    (hst : IntsAre ys (cz.map fun c => ((c : Nat) : Int))) (hz : cz.length < 64) (hbit : ∀ c ∈ cz, ∃ i, i < 6 ∧ bit c i = true)
    (hdp : A.depth + 4 < recursionLimit) (hu : A.units + 128 < cLine)
    (hret : ∀ (h' : Heap) (tk D : Nat) (vs : List Value) (ns : List Int) (e : Nat), Fr g L h' m → News g L h' [(D, listOf vs.toArray e), (108, ot)] → IntsAre vs ns →
      ns.Perm (cz.map fun c => ((c : Nat) : Int)) → ns.Pairwise (fun x y => keyOf sp x.toNat ≤ keyOf sp y.toNat) → Q (.ref D) { s with heap := h', toks := tk }) :
    wpAny (model Challenge.rw_re0038_01.row.prog w) A (call (.builtin "sorted") [.ref D] [(Str.ofString "key", .ref f)]) Q E s := by
  have zD := N (D, listOf ys.toArray ep) (by repeat (first | exact List.Mem.head _ | apply List.Mem.tail | apply List.mem_append_right))
  refine ksk_letter (b := false) (ns := cz.map fun c => ((c : Nat) : Int)) (fun n => keyOf sp n.toNat) F N ⟨_, zD.1, rfl, _, rfl⟩ hst (by rw [List.length_map]; exact hz) (ksk_s1 _ _) (fun x => ksk_l1 _ _) (fun x => ksk_t1 _ _) ?turn ?done
  case turn =>
    intro n t h tk own hn F2 N2
    obtain ⟨c, hc, rfl⟩ := List.mem_map.mp hn
    have n2 : ∀ q, q ∈ [(f, kla_obj "<lambda>" lamQual (lamParams cLam) (lamBody cLam) (lamScope cLam) [(Str.ofString "spans", L + 1)] pm c' ctv), (c', oc), (D, listOf ys.toArray ep), (L + 1, os), (108, ot)] → h.get? q.1 = some q.2 := fun q hq => (N2 q (List.mem_append_left _ hq)).1
    refine lam_C (A := A.in1.in1) (S := S.keeps fun b o _ e => F2.keep b o e) (X.keeps F2.keep) (T.keeps F2.keep) hh hlen (n2 _ (.head _)) ⟨c', oc, vca, tq, rfl, n2 _ (.tail _ (.head _)), hdc, hvc⟩ (n2 (L + 1, os) (by repeat (first | exact List.Mem.head _ | apply List.Mem.tail | apply List.mem_append_right))) ds (hbit c hc) ?_ ?_ (by omega) ?_
    · show A.depth + 1 < _; omega
    · show A.units + 1 + 1 + 64 < _; omega
    · intro h' tk' t' k
      rw [Int.toNat_natCast]
      exact KskEnd.intro (Fr_le F2 k) (News_le N2 k) fun q hq => hq
  case done =>
    intro D2 vs ns c h' tk F2 N2 _ hi _ hp hs _
    refine hret h' tk D2 vs ns c F2 (fun q hq => N2 q ?_) hi hp (hs.imp fun hxy => by simpa using hxy)
    refine mem_sub hq ?_
    repeat' (first | exact List.Subset.refl _ | exact List.nil_subset _ | refine cons_sub (by repeat (first | exact List.Mem.head _ | apply List.Mem.tail | apply List.mem_append_right)) ?_ | apply skip_sub)

def whole (cs : List (Nat × Nat)) : List Nat := (cs.filter fun q => decide (q.1 = q.2)).map fun q => q.1

theorem crowds_end {w : World} {p : Program} {loose : List Str} {mg mb : Str → Option Value} {A : Around} {s : Shared} {Q : Flow → Shared → Prop}
    {g : Heap} {L K M : Nat} {om oo os : Obj} {vals vm : List Value} {ep em : Nat} {Ls : Nat} {sp : List (Int × Int)} {cs : List (Nat × Nat)} {ts : List (Addr × Obj)}
    (X : (hd.heap_39 w.params).In g) (T : TopRead p loose mg mb g) (hh : A.handled = none) (C : CodeHd g 110 108) (B : BMain g mg) (S : SpansAt g Ls sp) (hlen : sp.length = 6)
    (F : Fr g L s.heap (fun z => if z = Str.ofString "crowds" then some (Value.ref K) else none))
    (N : News g L s.heap ([(K, listOf vals.toArray ep), (M, listOf vm.toArray em), (L + 1 + 1 + 1, om), (L + 1 + 1, oo), (L + 1, os), (108, tabObj #[])] ++ ts))
    (ds : os.data = .cell (some (.ref Ls))) (hL : 117 ≤ L)
    (hE : Els ts vals (cs.map fun q => .pair (q.1 : Int) (q.2 : Int))) (hcl : cs.length ≤ 64) (hz : (whole cs).length < 64) (hbit : ∀ q ∈ cs, q.1 = q.2 → ∃ i, i < 6 ∧ bit q.1 i = true)
    (hdp : A.depth + 4 < recursionLimit) (hu : A.units + 128 < cLine)
    (hret : ∀ (h' : Heap) (tk D : Nat) (vs : List Value) (ns : List Int) (e c' : Nat) (m : Str → Option Value), Fr g L h' m → News g L h' [(D, listOf vs.toArray e), (108, tabObj #[rawInt 98, rawInt 29, .ref c'])] → IntsAre vs ns →
      ns.Perm ((whole cs).map fun c => ((c : Nat) : Int)) → ns.Pairwise (fun x y => keyOf sp x.toNat ≤ keyOf sp y.toNat) → Q (.ret (.ref D)) { s with heap := h', toks := tk }) :
    wpAny (model Challenge.rw_re0038_01.row.prog w) A (execs (cBody.drop 3) (cEnv L)) Q (fun _ _ => False) s := by
  revert X
  k_fill
  intro X
  dsimp only [cEnv]
  show wpAny _ _ (execs (_ :: _ :: _) _) _ _ _
  have N1 : News g L s.heap [(K, listOf vals.toArray ep), (M, listOf vm.toArray em), (L + 1 + 1 + 1, om), (L + 1 + 1, oo), (L + 1, os), (108, tabObj #[])] := fun q hq => N q (List.mem_append_left _ hq)
  have Nts : News g L s.heap ts := fun q hq => N q (List.mem_append_right _ hq)
  clear N
  ktr_unf
  refine' lc_assign (cl := ?cl) ?hsw ?hcl rfl ?hnm ?hy ?hp ?_ (fun _ => rfl)
  case hcl => exact rfl
  case hsw => exact rfl
  case hnm => decide
  case hy => exact rfl
  case hp => exact rfl
  ktr_unf
  have hlv : vals.length = cs.length := by rw [hE.length, List.length_map]
  have hK : (_ : Heap).IsList K vals.toArray := ⟨_, (N1 _ (.head _)).1, rfl, _, rfl⟩
  refine LcGo.mk (fun j => decide ((cs.getD j (0, 0)).1 = (cs.getD j (0, 0)).2)) (fun j => .int (((cs.getD j (0, 0)).1 : Nat) : Int)) F N1
    (Src.pairs hh hK (fun j v hv => by obtain ⟨_, T, _, _, _, _, rfl, _⟩ := els_get hE j v (by simpa using hv); exact ⟨T, rfl⟩)) (by rw [List.size_toArray, hlv]; exact Nat.le_trans hcl (by decide))
    (fun s₂ I2 hle hI => blkPair (V := fun j v1 v2 => ∃ q t u, cs[j]? = some q ∧ v1 = .int ((q.1 : Nat) : Int) t ∧ v2 = .int ((q.2 : Nat) : Int) u) hh (by decide) rfl rfl rfl (by decide) (fun j v hv => by
      obtain ⟨q, T, t, u, n, h1, rfl, hm⟩ := els_get hE j v (by simpa using hv)
      have z := Nts _ hm
      exact ⟨T, _, _, rfl, Ne.symm (ne_of_get hI z.1), z.2.1, ⟨_, hle _ _ z.1, rfl, _, rfl⟩, q, t, u, h1, rfl, rfl⟩)) ?tests ?elts ?fin
  case tests =>
    rintro C j own h tk E' b o hj ⟨oC, m, v1, v2, rfl, hC, ⟨q, t1, t2, hq, rfl, rfl⟩, hx, hy⟩ F2 N2 hle
    clear F N1 hK
    simp only [List.cons_append, List.nil_append] at N2
    refine tests_one ?_
    ktr_unf
    · rw [List.getD_eq_getElem?_getD, hq]
      show ((q.1 : Int) == (q.2 : Int)) = decide (q.1 = q.2)
      by_cases h : q.1 = q.2
      · simp [h]
      · rw [decide_eq_false h, beq_eq_false_iff_ne]; omega
    · exact stay_of (by k_asm) (by assumption) (by k_mem) ⟨_, _, rfl⟩
  case elts =>
    rintro C j own h tk E' b o hj hp ⟨oC, m, v1, v2, rfl, hC, ⟨q, t1, t2, hq, rfl, rfl⟩, hx, hy⟩ F2 N2 hle
    clear F N1 hK
    simp only [List.cons_append, List.nil_append] at N2
    ktr_unf
    · exact stay_of (by k_asm) (by assumption) (by k_mem) ⟨_, _, rfl⟩
    · rw [List.getD_eq_getElem?_getD, hq]; exact ⟨_, rfl⟩
  case fin =>
    intro s₂ D
    refine ⟨rfl, ?_⟩
    intro h' tk ys ts2 ep2 es hD hk F2 N2 hE2
    subst es
    dsimp only
    have hst := Els.ints' hE2
    rw [List.size_toArray, hlv, range_filter_map (0, 0) (fun q : Nat × Nat => decide (q.1 = q.2)) (fun q => ((q.1 : Nat) : Int))] at hst
    have N3 : News g L h' [(D, listOf ys.toArray ep2), (L + 1, os), (108, tabObj #[])] := by
      intro q hq
      refine N2 q ?_
      refine mem_sub hq ?_
      repeat' (first | exact List.Subset.refl _ | exact List.nil_subset _ | refine cons_sub (by repeat (first | exact List.Mem.head _ | apply List.Mem.tail | apply List.mem_append_right)) ?_ | apply skip_sub)
    clear N1 N2 Nts F hK hE2 hE
    ktr_unf
    refine kla_eval rfl ?_
    have z108 := N3 (108, tabObj #[]) (by repeat (first | exact List.Mem.head _ | apply List.Mem.tail | apply List.mem_append_right))
    have hgs := T.g.keeps F2.keep
    obtain ⟨bm, ob, b1, b2, b3, b4, b5, b6⟩ := B
    have hgP : mainGlobals ≠ 108 := by decide
    have hbP : bm ≠ 108 := fun q => by rw [q, z108.2.2] at b3; cases b3
    have hbG : bm ≠ mainGlobals := fun q => by
      obtain ⟨o, es, ep, e, hd, _⟩ := T.g
      rw [q, e] at b3; cases b3; rw [hd] at b6; cases b6
    refine kla_makeFunction (mg := mg) (clos := [(Str.ofString "spans", L + 1)]) (c := 110) (P := 108) (ps := #[]) rfl rfl hgs rfl (C.keeps F2.keep) z108.1 trivial rfl hgP ⟨bm, ob, b1, b2, hbG, hbP, F2.keep _ _ b3, b4, b5, b6⟩ fun c' ctv h3 tk3 hx hge hlt hrec htb => ?_
    obtain ⟨c₂, oc, vsc, tq, e2, hoc, hdc, hvc⟩ := hrec
    cases e2
    have hLs : L < h'.objs.size := F2.ns.lt
    have hLc : L < c' := Nat.lt_of_lt_of_le hLs hge
    have fresh : ∀ b : Nat, L < b → g.get? b = none := fun b hb => Heap.get?_none_of_le (Nat.le_trans F2.above (Nat.le_of_lt hb))
    have zD := N3 (D, listOf ys.toArray ep2) (by repeat (first | exact List.Mem.head _ | apply List.Mem.tail | apply List.mem_append_right))
    have zs := N3 (L + 1, os) (by repeat (first | exact List.Mem.head _ | apply List.Mem.tail | apply List.mem_append_right))
    have hD108 : D ≠ 108 := fun q => by have e := zD.1; rw [q] at e; dsimp only at e; rw [z108.1] at e; cases e
    ktr_unf
    have up : ∀ (o' : Obj) (b : Nat) o, b ≠ 108 → h'.get? b = some o → (h3.push o').get? b = some o := fun o' b o hb e => Heap.get?_push_of_some _ (hx b o hb e)
    have hL108 : L ≠ 108 := by omega
    refine sorted_keyed (ys := ys) (ep := ep2) (os := os) (oc := oc) (ot := tabObj #[rawInt 98, rawInt 29, .ref c']) (pm := (mg "__name__").getD .none) (ctv := ctv) (D := D) (c' := c') (f := h3.objs.size) (m := fun z => if z = Str.ofString "whole" then some (Value.ref D) else if z = Str.ofString "crowds" then some (Value.ref K) else none)
      (cz := ((cs.filter fun q => decide (q.1 = q.2))).map fun q => q.1) X T hh S hlen
      ⟨F2.ns.at' fun o e => up _ L o hL108 e, fun b o e => up _ b o (fun q => by rw [q, z108.2.2] at e; cases e) (F2.keep b o e), F2.above⟩ ?N hdc hvc ds hL ?hst ?hz ?hbit hdp hu ?hr
    case N =>
      intro q hq
      simp only [List.mem_cons, List.not_mem_nil, or_false] at hq
      rcases hq with rfl | rfl | rfl | rfl | rfl
      · exact ⟨Heap.get?_push_size _ rfl, Nat.ne_of_gt (Nat.lt_trans hLc hlt), fresh _ (Nat.lt_trans hLc hlt)⟩
      · exact ⟨Heap.get?_push_of_some _ hoc, Nat.ne_of_gt hLc, fresh _ hLc⟩
      · exact ⟨up _ _ _ hD108 zD.1, zD.2⟩
      · exact ⟨up _ _ _ (show L + 1 ≠ 108 by omega) zs.1, zs.2⟩
      · exact ⟨Heap.get?_push_of_some _ htb, z108.2⟩
    case hst => rw [List.map_map]; exact hst
    case hz => exact hz
    case hbit =>
      intro c hc
      obtain ⟨q, hq, rfl⟩ := List.mem_map.mp hc
      obtain ⟨h1, h2⟩ := List.mem_filter.mp hq
      exact hbit q h1 (of_decide_eq_true h2)
    case hr =>
      intro h5 tk5 D5 vs5 ns5 e5 F5 N5 i5 p5 w5
      exact hret h5 tk5 D5 vs5 ns5 e5 c' _ F5 N5 i5 p5 w5
end Mine
end

-- part Crw4
section
open PySem PySem.W PySem.Calls PyProof.Rows
set_option maxRecDepth 100000
namespace Mine
def adj (sp : List (Int × Int)) (i j : Nat) : Bool := decide ((sp.getD i (0, 0)).1 ≤ (sp.getD j (0, 0)).2) && decide ((sp.getD j (0, 0)).1 ≤ (sp.getD i (0, 0)).2)
def meetOf (sp : List (Int × Int)) (i : Nat) : Int := (((List.range 6).filter (adj sp i)).map fun j => ((2 ^ j : Nat) : Int)).sum
theorem adj_eq {sp : List (Int × Int)} {i j : Nat} {qi qj : Int × Int} (hi : sp[i]? = some qi) (hj : sp[j]? = some qj) : adj sp i j = (decide (qi.1 ≤ qj.2) && decide (qj.1 ≤ qi.2)) := by
  unfold adj
  rw [List.getD_eq_getElem?_getD, List.getD_eq_getElem?_getD, hi, hj]
  rfl
def crowdsN (ms : List Int) : Nat → List (Nat × Nat)
  | 0 => [(0, 63)]
  | i + 1 => crowdsN ms i ++ grow ms i (crowdsN ms i)

theorem sum_filter (p : Nat → Bool) (f : Nat → Int) (hf : ∀ j, 0 ≤ f j) (l : List Nat) : 0 ≤ ((l.filter p).map f).sum ∧ ((l.filter p).map f).sum ≤ (l.map f).sum := by
  induction l with
  | nil => exact ⟨Int.le_refl _, Int.le_refl _⟩
  | cons a l ih =>
    have := hf a
    rw [List.filter_cons]
    split
    · simp only [List.map_cons, List.sum_cons]; omega
    · simp only [List.map_cons, List.sum_cons]; omega
theorem meetOf_bd (sp : List (Int × Int)) (i : Nat) : 0 ≤ meetOf sp i ∧ meetOf sp i < 64 := by
  have h := sum_filter (adj sp i) (fun j => ((2 ^ j : Nat) : Int)) (fun j => Int.natCast_nonneg _) (List.range 6)
  have e : ((List.range 6).map fun j => ((2 ^ j : Nat) : Int)).sum = 63 := by decide
  unfold meetOf
  omega

theorem crowdsN_len (ms : List Int) : ∀ i, (crowdsN ms i).length ≤ 2 ^ i
  | 0 => Nat.le_refl _
  | i + 1 => by
    have := crowdsN_len ms i
    have h2 : (grow ms i (crowdsN ms i)).length ≤ (crowdsN ms i).length := by unfold grow; rw [List.length_map]; exact List.length_filter_le _ _
    unfold crowdsN
    rw [List.length_append, Nat.pow_succ]
    omega
theorem crowdsN_bd (ms : List Int) : ∀ i, i ≤ 6 → ∀ q ∈ crowdsN ms i, q.1 < 64 ∧ q.2 < 64
  | 0, _, q, hq => by rw [List.mem_singleton.mp hq]; decide
  | i + 1, hi, q, hq => by
    unfold crowdsN at hq
    rcases List.mem_append.mp hq with hq | hq
    · exact crowdsN_bd ms i (by omega) q hq
    · unfold grow at hq
      obtain ⟨q', hq', rfl⟩ := List.mem_map.mp hq
      obtain ⟨h1, h2⟩ := crowdsN_bd ms i (by omega) q' (List.mem_filter.mp hq').1
      refine ⟨?_, Nat.lt_of_le_of_lt Nat.and_le_left h2⟩
      have h6 : i < 6 := by omega
      exact Nat.or_lt_two_pow (n := 6) h1 (Nat.pow_lt_pow_right (by decide) h6)
theorem bit_eq (c i : Nat) : bit c i = c.testBit i := by
  unfold bit
  rw [Nat.and_one_is_mod, Nat.testBit_eq_decide_div_mod_eq, Nat.shiftRight_eq_div_pow]
  rfl
theorem bit_or (c i : Nat) : bit (c ||| 2 ^ i) i = true := by
  rw [bit_eq, Nat.testBit_or, Nat.testBit_two_pow_self, Bool.or_true]
theorem crowdsN_bit (ms : List Int) : ∀ i, i ≤ 6 → ∀ q ∈ crowdsN ms i, q = (0, 63) ∨ ∃ j, j < 6 ∧ bit q.1 j = true
  | 0, _, q, hq => .inl (List.mem_singleton.mp hq)
  | i + 1, hi, q, hq => by
    unfold crowdsN at hq
    rcases List.mem_append.mp hq with hq | hq
    · exact crowdsN_bit ms i (by omega) q hq
    · unfold grow at hq
      obtain ⟨q', hq', rfl⟩ := List.mem_map.mp hq
      exact .inr ⟨i, by omega, bit_or _ _⟩
theorem crowdsN_head (ms : List Int) : ∀ i, ∃ r, crowdsN ms i = (0, 63) :: r
  | 0 => ⟨[], rfl⟩
  | i + 1 => by
    obtain ⟨r, h⟩ := crowdsN_head ms i
    unfold crowdsN
    rw [h]
    exact ⟨_, rfl⟩
theorem whole_len (ms : List Int) : (whole (crowdsN ms 6)).length < 64 := by
  obtain ⟨r, h⟩ := crowdsN_head ms 6
  have hl := crowdsN_len ms 6
  rw [h] at hl ⊢
  unfold whole
  rw [List.length_map, List.filter_cons, if_neg (by decide)]
  have := List.length_filter_le (fun q : Nat × Nat => decide (q.1 = q.2)) r
  rw [List.length_cons] at hl
  omega
end Mine
end

-- part Crw
section
open PySem PySem.W PySem.Calls PyProof.Rows
set_option maxRecDepth 100000
set_option maxHeartbeats 8000000
namespace Mine
local macro_rules | `(tactic| ktr_unf) => `(tactic| repeat' (first | (k_unfold; (try dsimp only)) | ((fail_if_success (with_reducible show wpAny _ _ (exec (Stmt.For _ _ _ _ _) _) _ _ _)); (fail_if_success (with_reducible show wpAny _ _ (eval (Expr.ListComp _ _ _ _) _) _ _ _)); (fail_if_success (with_reducible show wpAny _ _ (eval (Expr.Lambda _ _ _ _) _) _ _ _)); (fail_if_success (with_reducible show wpAny _ _ (exec (Stmt.Assign [Expr.Name _ _] (Expr.ListComp _ _ _ _) _) _) _ _ _)); first | walk1 | (dsimp only; walk1)) | fail "no step"))
local macro_rules | `(tactic| walk_at "eval Name") => `(tactic| (k_here; (with_reducible show wpAny _ _ (eval (Expr.Name _ _) (compEnvC _ _ _ _)) _ _ _); k_dflt (first
  | refine LCgL.ld_own (by k_asm) (by k_mem) (by assumption) (by assumption) ?_
  | refine glob_name (by k_asm) (by k_asm) (by k_asm) (by k_is) ?_
  | refine built_name (by k_asm) (by k_asm) (by k_asm) (by k_is) (by boot_by_name) (by decide) ?_)))

local macro_rules | `(tactic| walk_at "subscriptTail") => `(tactic| (k_here; (with_reducible show wpAny _ _ (subscriptTail _ _ (Value.ref _) (Value.int _ _)) _ _ _); k_dflt (first
  | (refine span_item (by assumption) (by k_asm) (by assumption) ?_ (hb := by omega); intro T' t' u' n' hT')
  | (refine tup_item (by assumption) (by k_asm) (by first | exact .inl ⟨rfl, rfl⟩ | exact .inr ⟨rfl, rfl⟩) ?_))))

theorem pow64 {i : Nat} (h : i ≤ 6) : 2 ^ i ≤ 64 := Nat.pow_le_pow_right (n := 2) (by decide) h
theorem ne1 (L : Nat) : L + 1 ≠ L + 1 + 1 := by omega
theorem ne2 (L : Nat) : L ≠ L + 1 + 1 := by omega
theorem ne3 (L : Nat) : L + 1 + 1 + 1 ≠ L + 1 + 1 := by omega
theorem ne108 (L : Nat) (h : 117 ≤ L) : 108 ≠ L + 1 + 1 := by omega
theorem crowds_C {w : World} {p : Program} {loose : List Str} {mg mb : Str → Option Value} {A : Around} {s : Shared} {Q E : Value → Shared → Prop}
    {Ls : Addr} {sp : List (Int × Int)}
    (X : (hd.heap_39 w.params).In s.heap) (T : TopRead p loose mg mb s.heap) (hh : A.handled = none) (h108 : s.heap.get? 108 = some (tabObj #[]))
    (hS : SpansAt s.heap Ls sp) (hlen : sp.length = 6)
    (hC : CodeHd s.heap 110 108) (hB : BMain s.heap mg)
    (hdp : A.depth + 5 < recursionLimit) (hu : A.units + 140 < cLine)
    (hret : ∀ (h' : Heap) (tk D : Nat) (vs : List Value) (ns : List Int) (e c' : Nat), (∀ (b : Nat) o, b ≠ 108 → s.heap.get? b = some o → h'.get? b = some o) → s.heap.get? D = none → h'.get? D = some (listOf vs.toArray e) → h'.get? 108 = some (tabObj #[rawInt 98, rawInt 29, .ref c']) →
      IntsAre vs ns → ns.Perm ((whole (crowdsN ((List.range 6).map (meetOf sp)) 6)).map fun c => ((c : Nat) : Int)) → ns.Pairwise (fun x y => keyOf sp x.toNat ≤ keyOf sp y.toNat) → Q (.ref D) { s with heap := h', toks := tk }) :
    wpAny (model Challenge.rw_re0038_01.row.prog w) A (call (.ref 111) [.ref Ls]) Q E s := by
  revert X
  k_fill
  intro X
  refine wpAny_call ?_
  refine' enterC (binds := [(Str.ofString "spans", .ref Ls)]) (news := [(108, tabObj #[])]) X T.nolimit ?n ?k6 ?k7 ?k8 ?k9 ?kB ?kD ?_ ?c2 ?c3 ?c4
  case k6 => k_is
  case k7 => k_is
  case k8 => omega
  case k9 => exact kp_binds X (fun _ => by kernel_rfl)
  case kB => exact rfl
  case kD => decide +kernel
  case c2 => exact rfl
  case c3 => exact rfl
  case c4 => exact rfl
  case n => simp [h108]
  intro g L h₁ tk cells hg F N Y hlt
  k_cells Y
  rename_i om oo os dm do' ds
  simp only [List.cons_append, List.nil_append] at N
  dsimp only
  ktr_unf
  have hx108 : ∀ b ∈ [((108 : Addr), tabObj #[])].map (·.1), b = 108 := by simp
  replace hS : SpansAt g Ls sp := hS.keeps fun b o hq e => hg b o e (by
    intro hm
    have := hx108 b hm
    subst this
    rw [h108] at e
    cases e
    obtain ⟨x, n, hq⟩ := hq
    cases hq)
  replace X : (hd.heap_39 w.params).In g := In_hide X (fun b hb => .inr (hx108 b hb)) hg
  have n110 : (110 : Nat) ≠ 108 := by decide
  replace hC : CodeHd g 110 108 := by
    obtain ⟨o, vs, file, tf, flags, tg, inF, text, tt, e, r⟩ := hC
    exact ⟨o, vs, file, tf, flags, tg, inF, text, tt, hg _ _ e (fun hm => n110 (hx108 _ hm)), r⟩
  replace hB : BMain g mg := by
    obtain ⟨bm, ob, b1, b2, b3, b4, b5, b6⟩ := hB
    refine ⟨bm, ob, b1, b2, hg _ _ b3 (fun hm => ?_), b4, b5, b6⟩
    have := hx108 _ hm
    subst this
    rw [h108] at b3
    cases b3
    cases b4
  have hL117 : 117 ≤ L := by
    obtain ⟨o, ho⟩ := Option.isSome_iff_exists.mp (show ((hd.heap_39 w.params).lookup 116).isSome = true by kernel_rfl)
    exact Nat.le_trans (Heap.lt_size (X _ _ ho)) F.above
  replace T := Top_hide T (fun b hb => .inr (hx108 b hb)) hg
  refine wpAny_Assign_Name ?_
  refine' lc_eval (cl := ?cl) ?hcl rfl ?hnm ?_ (fun _ => rfl)
  case hcl => exact rfl
  case hnm => decide
  ktr_unf
  rename IsRange _ _ _ _ _ _ _ _ => R1
  rename Fr _ _ _ _ => F1
  rename News _ _ _ _ => N1
  refine LcGo.mk (fun _ => true) (fun i => .int (meetOf sp i)) F1 N1 (Src.range (n := 6) hh R1 rfl (by decide) (fun _ _ => rfl)) (by decide) (fun s₂ I hle hI => blkCell rfl (fun _ => rfl) (fun _ => rfl) rfl) ?tests ?elts ?fin
  case tests =>
    intro C i own h tk E' b o hi hB F2 N2 hle
    exact wpAny_pure ⟨rfl, ⟨_, _, rfl⟩, F2, (N2 _ (.head _)).1⟩
  case elts =>
    rintro C i own h tk E' bb oo hi _ ⟨oC, m, oK, v, rfl, hC, ⟨t, rfl⟩, hK⟩ F2 N2 hle
    clear F1 N1 R1
    simp only [List.cons_append, List.nil_append] at N2
    ktr_unf
    refine' lc_eval (cl := ?cl2) ?hcl rfl ?hnm ?_ (fun _ => rfl)
    case hcl => exact rfl
    case hnm => decide
    ktr_unf
    rename IsRange _ _ _ _ _ _ _ _ => R1
    rename Fr _ _ _ _ => F1
    rename News _ _ _ _ => N1
    refine LcGo.mk (fun j => adj sp i j) (fun j => .int ((2 ^ j : Nat) : Int)) F1 N1 (Src.range (n := 6) hh R1 rfl (by decide) (fun _ _ => rfl)) (by decide) (fun s₂ I hle hI => blkName (by decide) rfl rfl) ?tests2 ?elts2 ?fin2
    case tests2 =>
      rintro C2 j own2 h2 tk2 E2 b2 o2 hj ⟨oC2, m2, v2, rfl, hC2, ⟨t2, rfl⟩, hx2⟩ F3 N3 hle3
      clear F1 N1 R1
      simp only [List.cons_append, List.nil_append] at N3
      obtain ⟨qi, hqi⟩ : ∃ q, sp[i]? = some q := ⟨_, List.getElem?_eq_getElem (by omega)⟩
      obtain ⟨qj, hqj⟩ : ∃ q, sp[j]? = some q := ⟨_, List.getElem?_eq_getElem (by omega)⟩
      refine tests_one ?_
      ktr_unf
      all_goals first
        | exact stay_of (by k_asm) (by assumption) (by k_mem) ⟨_, _, rfl⟩
        | (rw [adj_eq hqi hqj]; simp [*])
    case elts2 =>
      rintro C2 j own2 h2 tk2 E2 b2 o2 hj _ ⟨oC2, m2, v2, rfl, hC2, ⟨t2, rfl⟩, hx2⟩ F3 N3 hle3
      clear F1 N1 R1
      simp only [List.cons_append, List.nil_append] at N3
      ktr_unf
      · exact stay_of (by k_asm) (by assumption) (by k_mem) ⟨_, _, rfl⟩
      · exact ⟨_, congrArg (Value.int · _) (by rw [Int.one_mul, Int.toNat_natCast]; exact (Int.natCast_pow 2 j).symm)⟩
    case fin2 =>
      intro s₂ D h2 tk2 ys ts ep es hD hk F3 N3 hE
      subst es
      clear F1 N1 R1
      have hst := Els.ints' hE
      have N4 : News g L h2 [(D, W.listOf ys.toArray ep), (bb, oo), (C, oC), (C + 1, oK)] := fun q hq => N3 q (by
        refine mem_sub hq ?_
        repeat' (first | exact List.Subset.refl _ | exact List.nil_subset _ | refine cons_sub (by repeat (first | exact List.Mem.head _ | apply List.Mem.tail | apply List.mem_append_right)) ?_ | apply skip_sub))
      clear N3 hE
      dsimp only
      ktr_unf
      rename Heap.IsList _ _ _ => hL
      refine LSm.sum_ints F3 N4 hh hL hst ?_
      intro h5 tk5 t5 F5 N5
      exact ⟨stay_of F5 N5 (by simp) ⟨_, _, rfl⟩, t5, rfl⟩
  case fin =>
    intro s₂ D h2 tk2 ys ts ep es hD hk F3 N3 hE
    subst es
    clear F1 N1 R1
    have hst := Els.ints' hE
    have N4 : News g L h2 [(D, W.listOf ys.toArray ep), (L + 1 + 1 + 1, om), (L + 1 + 1, oo), (L + 1, os), (108, tabObj #[])] := fun q hq => N3 q (by
      refine mem_sub hq ?_
      repeat' (first | exact List.Subset.refl _ | exact List.nil_subset _ | refine cons_sub (by repeat (first | exact List.Mem.head _ | apply List.Mem.tail | apply List.mem_append_right)) ?_ | apply skip_sub))
    clear N3 hE
    dsimp only
    ktr_unf
    refine wpAny_For ?_
    ktr_unf
    rename IsRange _ _ _ _ _ _ _ _ => R1
    rename Fr _ _ _ _ => F5
    rename News _ _ _ _ => N5
    rename Obj.data _ = Data.cell (some (Value.ref D)) => dm'
    rename_i om' tkA T0 _ _ K0 _ _ _ _ _ _ _ _ _ _ _
    dsimp only at N5 F5 R1 ⊢
    have eF : (fun y => if y = Str.ofString "crowds" then some (Value.ref K0) else bindL (envOfC (Str.ofString "_law_crowds") (scopeOf cDef) L 111 (Value.ref 110)).kindOf [(Str.ofString "spans", Value.ref Ls)] (fun _ => none) y) = (fun z => if z = Str.ofString "crowds" then some (Value.ref K0) else (none : Option Value)) := rfl
    have F6 : Fr g L _ (fun z => if z = Str.ofString "crowds" then some (Value.ref K0) else (none : Option Value)) := F5
    clear F5
    have hms : (((List.range 6).map (meetOf sp)).length) = 6 := by rw [List.length_map]; rfl
    have N7 : News g L _ ([(K0, { cls := .type "list", data := .seq (List.toArray [Value.ref T0]) 0 }), (D, W.listOf ys.toArray ep), (L + 1 + 1 + 1, om'), (L + 1 + 1, oo), (L + 1, os), (108, tabObj #[])] ++ [(T0, tup 0 tkA 63 (tkA + 1) 0)]) := fun q hq => N5 q (by
      refine mem_sub hq ?_
      repeat' (first | exact List.Subset.refl _ | exact List.nil_subset _ | refine cons_sub (by repeat (first | exact List.Mem.head _ | apply List.Mem.tail | apply List.mem_append_right)) ?_ | apply skip_sub))
    clear N5
    have hT0 : ∀ p ∈ [(T0, tup 0 tkA 63 (tkA + 1) 0)], p.1 ≠ L + 1 + 1 := by
      intro p hp hq
      have z1 := (N7 (L + 1 + 1, oo) (by repeat (first | exact List.Mem.head _ | apply List.Mem.tail | apply List.mem_append_right))).1
      have z2 := (N7 p (List.mem_append_right _ hp)).1
      rw [List.mem_singleton.mp hp] at hq z2
      rw [hq] at z2
      dsimp only at z1 z2
      rw [z1] at z2
      cases z2
      cases do'
    refine for_src (Src.range (n := 6) hh R1 rfl (by decide) (fun _ _ => rfl))
      (fun i m news => ∃ (K : Nat) (vals : List Value) (o1 : Obj) (x1 : Option Value) (ts : List (Addr × Obj)), m = (fun z => if z = Str.ofString "crowds" then some (Value.ref K) else none) ∧ o1.data = .cell x1 ∧ (∀ p ∈ ts, p.1 ≠ L + 1 + 1) ∧
        news = [(K, { cls := .type "list", data := .seq vals.toArray 0 }), (D, W.listOf ys.toArray ep), (L + 1 + 1 + 1, om'), (L + 1 + 1, o1), (L + 1, os), (108, tabObj #[])] ++ ts ∧ Els ts vals ((crowdsN ((List.range 6).map (meetOf sp)) i).map fun q => .pair (q.1 : Int) (q.2 : Int)))
      F6 N7 ⟨K0, [.ref T0], oo, _, [(T0, tup 0 tkA 63 (tkA + 1) 0)], rfl, do', hT0, rfl, .pair (.head _) .nil⟩ ?src ?turn ?done
    case src =>
      intro b o hb ho hq
      cases hb
      obtain ⟨its, k, hd⟩ := hq
      unfold IsRange at R1
      rw [R1] at ho
      cases ho
      cases hd
    case turn =>
      clear N7 F6 R1
      rintro i v m news h tk I oI hi ⟨t, rfl⟩ ⟨K, vals, o1, x1, ts, rfl, d1, hts, rfl, hE⟩ F N off
      have zo := N (L + 1 + 1, o1) (by repeat (first | exact List.Mem.head _ | apply List.Mem.tail | apply List.mem_append_right))
      have hIo : L + 1 + 1 ≠ I := off (L + 1 + 1, o1) (by repeat (first | exact List.Mem.head _ | apply List.Mem.tail | apply List.mem_append_right))
      refine wpAny_assign_Name (wpAny_storeName_cell (c := L + 1 + 1) rfl rfl rfl ⟨o1, zo.1, d1⟩ (fun h2 hc2 hs2 => ?_))
      obtain ⟨o2, ho2, d2⟩ := hc2
      have k2 : ∀ (b : Nat) o, b ≠ L + 1 + 1 → h.get? b = some o → h2.get? b = some o := fun b o hb e => hs2.extBut b o hb e
      have F2 : Fr g L h2 _ := ⟨F.ns.at' fun o e => k2 L o (ne2 L) e, fun b o e => k2 b o (fun q => by rw [q, zo.2.2] at e; cases e) (F.keep b o e), F.above⟩
      have seqne : ∀ (b : Nat) (x : Array Value) (c : Value) (n : Nat), h.get? b = some { cls := c, data := .seq x n } → b ≠ L + 1 + 1 := by
        intro b x c n e q
        have z := zo.1
        dsimp only at z
        rw [q, z] at e
        cases e
        cases d1
      have zK := N (K, { cls := .type "list", data := .seq vals.toArray 0 }) (by repeat (first | exact List.Mem.head _ | apply List.Mem.tail | apply List.mem_append_right))
      have zD := N (D, W.listOf ys.toArray ep) (by repeat (first | exact List.Mem.head _ | apply List.Mem.tail | apply List.mem_append_right))
      have N2 : News g L h2 ([(K, listOf vals.toArray 0), (D, listOf ys.toArray ep), (L + 1 + 1 + 1, om'), (L + 1 + 1, o2), (L + 1, os), (108, tabObj #[]), (I, oI)] ++ ts) := by
        intro q hq
        rcases List.mem_append.mp hq with hq | hq
        · simp only [List.mem_cons, List.not_mem_nil, or_false] at hq
          rcases hq with rfl | rfl | rfl | rfl | rfl | rfl | rfl
          · exact ⟨k2 _ _ (seqne _ _ _ _ zK.1) zK.1, zK.2⟩
          · exact ⟨k2 _ _ (seqne _ _ _ _ zD.1) zD.1, zD.2⟩
          · have z := N (L + 1 + 1 + 1, om') (by repeat (first | exact List.Mem.head _ | apply List.Mem.tail | apply List.mem_append_right)); exact ⟨k2 _ _ (ne3 L) z.1, z.2⟩
          · exact ⟨ho2, zo.2⟩
          · have z := N (L + 1, os) (by repeat (first | exact List.Mem.head _ | apply List.Mem.tail | apply List.mem_append_right)); exact ⟨k2 _ _ (ne1 L) z.1, z.2⟩
          · have z := N (108, tabObj #[]) (by repeat (first | exact List.Mem.head _ | apply List.Mem.tail | apply List.mem_append_right)); exact ⟨k2 _ _ (ne108 L hL117) z.1, z.2⟩
          · have z := N (I, oI) (.head _); exact ⟨k2 _ _ (Ne.symm hIo) z.1, z.2⟩
        · have z := N q (.tail _ (List.mem_append_right _ hq)); exact ⟨k2 _ _ (hts q hq) z.1, z.2⟩
      refine crowds_turn (ms := (List.range 6).map (meetOf sp)) (cs := crowdsN ((List.range 6).map (meetOf sp)) i) X T hh F2 N2 hst hms ?_ hi dm' d2 ds hE (crowdsN_bd _ i (by omega)) ?_ (by simp only [units_deeper]; omega) ?_
      · intro x hx
        obtain ⟨j, _, rfl⟩ := List.mem_map.mp hx
        exact meetOf_bd sp j
      · exact Nat.le_trans (crowdsN_len _ i) (pow64 (by omega))
      · intro h' tk' K' vals' ts' F' N' hE' hK' hts'
        refine TurnEnd.next (news' := [(K', { cls := .type "list", data := .seq vals'.toArray 0 }), (D, listOf ys.toArray ep), (L + 1 + 1 + 1, om'), (L + 1 + 1, o2), (L + 1, os), (108, tabObj #[])] ++ ts') F' ?_ ?_ ⟨K', vals', o2, _, ts', rfl, d2, ?_, rfl, hE'⟩
        · intro q hq
          refine N' q ?_
          rcases List.mem_cons.mp hq with rfl | hq
          · simp
          · rcases List.mem_append.mp hq with hq | hq
            · refine List.mem_append_left _ ?_
              refine mem_sub hq ?_
              repeat' (first | exact List.Subset.refl _ | exact List.nil_subset _ | refine cons_sub (by repeat (first | exact List.Mem.head _ | apply List.Mem.tail | apply List.mem_append_right)) ?_ | apply skip_sub)
            · exact List.mem_append_right _ hq
        · intro q hq
          rcases List.mem_append.mp hq with hq | hq
          · simp only [List.mem_cons, List.not_mem_nil, or_false] at hq
            rcases hq with rfl | rfl | rfl | rfl | rfl | rfl
            · exact hK'
            · exact off (D, listOf ys.toArray ep) (by repeat (first | exact List.Mem.head _ | apply List.Mem.tail | apply List.mem_append_right))
            · exact off (L + 1 + 1 + 1, om') (by repeat (first | exact List.Mem.head _ | apply List.Mem.tail | apply List.mem_append_right))
            · exact hIo
            · exact off (L + 1, os) (by repeat (first | exact List.Mem.head _ | apply List.Mem.tail | apply List.mem_append_right))
            · exact off (108, tabObj #[]) (by repeat (first | exact List.Mem.head _ | apply List.Mem.tail | apply List.mem_append_right))
          · rcases hts' q hq with hq | hq
            · exact off q (List.mem_append_right _ hq)
            · exact ne_of_get hq (N2 (I, oI) (by repeat (first | exact List.Mem.head _ | apply List.Mem.tail | apply List.mem_append_right))).1
        · intro q hq
          rcases hts' q hq with hq | hq
          · exact hts q hq
          · exact ne_of_get hq ho2
    case done =>
      clear N7 F6 R1
      rintro m news h tk ⟨K, vals, o1, x1, ts, rfl, d1, hts, rfl, hE⟩ F N
      refine crowds_end (sp := sp) (cs := crowdsN ((List.range 6).map (meetOf sp)) 6) X T hh hC hB hS hlen F N ds hL117 hE ?_ (whole_len _) ?_ (by simp only [depth_deeper]; omega) (by simp only [units_deeper]; omega) ?_
      · exact crowdsN_len _ 6
      · intro q hq he
        rcases crowdsN_bit _ 6 (Nat.le_refl _) q hq with rfl | h1
        · cases he
        · exact h1
      · intro h' tk' D' vs ns e c' m' F' N' i1 i2 i3
        have z1 := N' _ (.head _)
        have z2 := N' _ (.tail _ (.head _))
        have keep : ∀ (b : Nat) o, b ≠ 108 → s.heap.get? b = some o → g.get? b = some o := fun b o hb e => hg b o e (fun hm => hb (hx108 b hm))
        have hD108 : D' ≠ 108 := fun q => by have e1 := z1.1; have e2 := z2.1; rw [q] at e1; dsimp only at e1 e2; rw [e2] at e1; cases e1
        refine hret h' tk' D' vs ns e c' (fun b o hb e => F'.keep b o (keep b o hb e)) ?_ z1.1 z2.1 i1 i2 i3
        cases q : s.heap.get? D' with
        | none => rfl
        | some o => have := z1.2.2; rw [keep D' o hD108 q] at this; cases this
end Mine
end

-- part LawB
section
open PySem PySem.W PySem.Calls PyProof.Rows
set_option maxRecDepth 100000
set_option maxHeartbeats 8000000
namespace Mine
local macro_rules | `(tactic| ktr_unf) => `(tactic| repeat' (first | (k_unfold; (try dsimp only)) | ((fail_if_success (with_reducible show wpAny _ _ (subscriptTail _ (Expr.Slice (some (Expr.Call _ _ _ _)) none none _) _ _) _ _ _)); (fail_if_success (with_reducible show wpAny _ _ (eval (Expr.ListComp _ _ _ _) _) _ _ _)); first | walk1 | (dsimp only; walk1)) | fail "no step"))
local macro_rules | `(tactic| walk_at "eval Name") => `(tactic| (k_here; (with_reducible show wpAny _ _ (eval (Expr.Name _ _) (compEnvC _ _ _ _)) _ _ _); k_dflt (first
  | refine LCgL.ld_own (by k_asm) (by k_mem) (by assumption) (by assumption) ?_
  | refine glob_name (by k_asm) (by k_asm) (by k_asm) (by k_is) ?_
  | refine built_name (by k_asm) (by k_asm) (by k_asm) (by k_is) (by boot_by_name) (by decide) ?_)))
local macro_rules | `(tactic| walk_at "call builtin:min") => `(tactic| (k_here; (with_reducible show wpAny _ _ (call (Value.builtin _) [Value.int _ _, Value.int _ _]) _ _ _); k_dflt (refine' min_two_N ?hh ?F ?N ?_); (case hh => first | rfl | assumption); (case F => k_asm); (case N => k_asm); intro h' tk' F' N'))
def lDef : Stmt := Challenge.pw_re0038_01.main.body.getD 19 (.Pass default)
def lBody : List Stmt := bodyOf lDef
def lEnv (L fa : Addr) (cd : Value) : Env := envOfC (Str.ofString "law") (scopeOf lDef) L fa cd

theorem law_remarks {w : World} {p : Program} {loose : List Str} {mg mb : Str → Option Value} {A : Around} {s : Shared} {Q : Flow → Shared → Prop}
    {g : Heap} {L D : Nat} {fa : Addr} {cd : Value} {o1 o2 o3 o4 o5 ot : Obj} {ys : List Value} {ep : Nat} {dr : List Int} {m : Str → Option Value}
    (X : (hd.heap_39 w.params).In g) (T : TopRead p loose mg mb g) (hh : A.handled = none)
    (F : Fr g L s.heap (fun z => if z = Str.ofString "draws" then some (.ref D) else m z))
    (N : News g L s.heap [(D, listOf ys.toArray ep), (L + 1 + 1 + 1 + 1 + 1, o5), (L + 1 + 1 + 1 + 1, o4), (L + 1 + 1 + 1, o3), (L + 1 + 1, o2), (L + 1, o1), (108, ot)])
    (hst : IntsAre ys dr) (hdl : dr.length ≤ 16)
    (hnext : ∀ (h' : Heap) (tk D2 : Nat) (v2 : List Value), Fr g L h' (fun z => if z = Str.ofString "remarks" then some (.ref D2) else if z = Str.ofString "draws" then some (.ref D) else m z) →
      News g L h' [(D2, listOf v2.toArray 0), (D, listOf ys.toArray ep), (L + 1 + 1 + 1 + 1 + 1, o5), (L + 1 + 1 + 1 + 1, o4), (L + 1 + 1 + 1, o3), (L + 1 + 1, o2), (L + 1, o1), (108, ot)] →
      IntsAre v2 (dr.take 6 ++ [7, 15, 2, 17, 16, 12].drop (dr.take 6).length) → Q .next { s with heap := h', toks := tk }) :
    wpAny (model Challenge.rw_re0038_01.row.prog w) A (exec (lBody.getD 1 (.Pass default)) (lEnv L fa cd)) Q (fun _ _ => False) s := by
  revert X
  k_fill
  intro X
  dsimp only [lEnv]
  show wpAny _ _ (exec (.Assign _ _ _) _) _ _ _
  ktr_unf
  rename News _ _ _ _ => N2
  rename Fr _ _ _ _ => F2
  refine slice_from (ns := [7, 15, 2, 17, 16, 12]) F2 N2 ⟨0, .tail _ (.head _)⟩ (.cons _ _ (.cons _ _ (.cons _ _ (.cons _ _ (.cons _ _ (.cons _ _ .nil)))))) (Int.natCast_nonneg _) (by decide) ?_
  clear N2 F2
  intro D2 ws h2 F2 N2 l2 hI2
  rw [Int.toNat_natCast] at hI2
  dsimp only
  ktr_unf
  rename Fr _ _ _ _ => F4
  rename News _ _ _ _ => N4
  rename IntsAre _ (_ ++ _) => hI4
  exact hnext _ _ _ _ F4 (fun q hq => N4 q (by
    refine mem_sub hq ?_
    repeat' (first | exact List.Subset.refl _ | exact List.nil_subset _ | refine cons_sub (by repeat (first | exact List.Mem.head _ | apply List.Mem.tail)) ?_ | apply skip_sub))) hI4

theorem law_numbers {w : World} {p : Program} {loose : List Str} {mg mb : Str → Option Value} {A : Around} {s : Shared} {Q : Flow → Shared → Prop}
    {g : Heap} {L D R : Nat} {fa : Addr} {cd : Value} {o1 o2 o3 o4 o5 ot : Obj} {ys vr : List Value} {ep er : Nat} {dr : List Int} {m : Str → Option Value}
    (X : (hd.heap_39 w.params).In g) (T : TopRead p loose mg mb g) (hh : A.handled = none)
    (F : Fr g L s.heap (fun z => if z = Str.ofString "remarks" then some (.ref R) else if z = Str.ofString "draws" then some (.ref D) else m z))
    (N : News g L s.heap [(R, listOf vr.toArray er), (D, listOf ys.toArray ep), (L + 1 + 1 + 1 + 1 + 1, o5), (L + 1 + 1 + 1 + 1, o4), (L + 1 + 1 + 1, o3), (L + 1 + 1, o2), (L + 1, o1), (108, ot)])
    (hst : IntsAre ys dr) (hdl : dr.length ≤ 16)
    (hnext : ∀ (h' : Heap) (tk D2 : Nat) (v2 : List Value), Fr g L h' (fun z => if z = Str.ofString "numbers" then some (.ref D2) else if z = Str.ofString "remarks" then some (.ref R) else if z = Str.ofString "draws" then some (.ref D) else m z) →
      News g L h' [(D2, listOf v2.toArray 0), (R, listOf vr.toArray er), (D, listOf ys.toArray ep), (L + 1 + 1 + 1 + 1 + 1, o5), (L + 1 + 1 + 1 + 1, o4), (L + 1 + 1 + 1, o3), (L + 1 + 1, o2), (L + 1, o1), (108, ot)] →
      IntsAre v2 ((List.take (min 13 dr.length - 6) (List.drop 6 dr)) ++ [0, 3, 4, 2, 1, 5, 0].drop (List.take (min 13 dr.length - 6) (List.drop 6 dr)).length) → Q .next { s with heap := h', toks := tk }) :
    wpAny (model Challenge.rw_re0038_01.row.prog w) A (exec (lBody.getD 2 (.Pass default)) (lEnv L fa cd)) Q (fun _ _ => False) s := by
  revert X
  k_fill
  intro X
  dsimp only [lEnv]
  show wpAny _ _ (exec (.Assign _ _ _) _) _ _ _
  ktr_unf
  rename News _ _ _ _ => N2
  rename Fr _ _ _ _ => F2
  refine slice_from (ns := [0, 3, 4, 2, 1, 5, 0]) F2 N2 ⟨0, .tail _ (.head _)⟩ (.cons _ _ (.cons _ _ (.cons _ _ (.cons _ _ (.cons _ _ (.cons _ _ (.cons _ _ .nil))))))) (Int.natCast_nonneg _) (by decide) ?_
  clear N2 F2
  intro D2 ws h2 F2 N2 l2 hI2
  rw [Int.toNat_natCast] at hI2
  dsimp only
  ktr_unf
  rename Fr _ _ _ _ => F4
  rename News _ _ _ _ => N4
  rename IntsAre _ (_ ++ _) => hI4
  exact hnext _ _ _ _ F4 (fun q hq => N4 q (by
    refine mem_sub hq ?_
    repeat' (first | exact List.Subset.refl _ | exact List.nil_subset _ | refine cons_sub (by repeat (first | exact List.Mem.head _ | apply List.Mem.tail)) ?_ | apply skip_sub))) hI4

end Mine
end

-- part LawC
section
open PySem PySem.W PySem.Calls PyProof.Rows
set_option maxRecDepth 100000
set_option maxHeartbeats 8000000
namespace Mine
local macro_rules | `(tactic| ktr_unf) => `(tactic| repeat' (first | (k_unfold; (try dsimp only)) | ((fail_if_success (with_reducible show wpAny _ _ (subscriptTail _ (Expr.Slice (some (Expr.Call _ _ _ _)) none none _) _ _) _ _ _)); (fail_if_success (with_reducible show wpAny _ _ (eval (Expr.ListComp _ _ _ _) _) _ _ _)); first | walk1 | (dsimp only; walk1)) | fail "no step"))
local macro_rules | `(tactic| walk_at "eval Name") => `(tactic| (k_here; (with_reducible show wpAny _ _ (eval (Expr.Name _ _) (compEnvC _ _ _ _)) _ _ _); k_dflt (first
  | refine LCgL.ld_own (by k_asm) (by k_mem) (by assumption) (by assumption) ?_
  | refine glob_name (by k_asm) (by k_asm) (by k_asm) (by k_is) ?_
  | refine built_name (by k_asm) (by k_asm) (by k_asm) (by k_is) (by boot_by_name) (by decide) ?_)))
local macro_rules | `(tactic| walk_at "call builtin:min") => `(tactic| (k_here; (with_reducible show wpAny _ _ (call (Value.builtin _) [Value.int _ _, Value.int _ _]) _ _ _); k_dflt (refine' min_two_N ?hh ?F ?N ?_); (case hh => first | rfl | assumption); (case F => k_asm); (case N => k_asm); intro h' tk' F' N'))
theorem map_range_getD' {α : Type} (f : Int → α) (ns : List Int) : (List.range ns.length).map (fun i => f (ns.getD i 0)) = ns.map f := by
  apply List.ext_getElem
  · simp
  · intro i h1 h2
    simp at h1
    simp [List.getElem?_eq_getElem h1]

theorem law_sizes {w : World} {p : Program} {loose : List Str} {mg mb : Str → Option Value} {A : Around} {s : Shared} {Q : Flow → Shared → Prop}
    {g : Heap} {L D R Nu : Nat} {fa : Addr} {cd : Value} {o1 o2 o3 o4 o5 ot : Obj} {ys vr vn : List Value} {ep er en : Nat} {dr : List Int} {m : Str → Option Value}
    (X : (hd.heap_39 w.params).In g) (T : TopRead p loose mg mb g) (hh : A.handled = none)
    (F : Fr g L s.heap (fun z => if z = Str.ofString "numbers" then some (.ref Nu) else if z = Str.ofString "remarks" then some (.ref R) else if z = Str.ofString "draws" then some (.ref D) else m z))
    (N : News g L s.heap [(Nu, listOf vn.toArray en), (R, listOf vr.toArray er), (D, listOf ys.toArray ep), (L + 1 + 1 + 1 + 1 + 1, o5), (L + 1 + 1 + 1 + 1, o4), (L + 1 + 1 + 1, o3), (L + 1 + 1, o2), (L + 1, o1), (108, ot)])
    (hst : IntsAre ys dr) (hdl : dr.length ≤ 16)
    (hnext : ∀ (h' : Heap) (tk D2 : Nat) (v2 : List Value), Fr g L h' (fun z => if z = Str.ofString "sizes" then some (.ref D2) else if z = Str.ofString "numbers" then some (.ref Nu) else if z = Str.ofString "remarks" then some (.ref R) else if z = Str.ofString "draws" then some (.ref D) else m z) →
      News g L h' [(D2, listOf v2.toArray 0), (Nu, listOf vn.toArray en), (R, listOf vr.toArray er), (D, listOf ys.toArray ep), (L + 1 + 1 + 1 + 1 + 1, o5), (L + 1 + 1 + 1 + 1, o4), (L + 1 + 1 + 1, o3), (L + 1 + 1, o2), (L + 1, o1), (108, ot)] →
      IntsAre v2 ((dr.drop 13).map (fun x => 1 + x.fmod 4) ++ [2, 1, 3].drop (dr.drop 13).length) → Q .next { s with heap := h', toks := tk }) :
    wpAny (model Challenge.rw_re0038_01.row.prog w) A (exec (lBody.getD 3 (.Pass default)) (lEnv L fa cd)) Q (fun _ _ => False) s := by
  revert X
  k_fill
  intro X
  dsimp only [lEnv]
  show wpAny _ _ (exec (.Assign _ _ _) _) _ _ _
  ktr_unf
  refine' lc_eval (cl := ?cl) ?hcl rfl ?hnm ?_ (fun _ => rfl)
  case hcl => exact rfl
  case hnm => decide
  ktr_unf
  rename Fr _ _ _ _ => F1
  rename News _ _ _ _ => N1
  rename IntsAre _ (List.drop _ dr) => hI
  have hlI := hI.length
  have hlT : (dr.drop 13).length ≤ 16 := by rw [List.length_drop]; omega
  refine LcGo.mk (fun _ => true) (fun i => .int (1 + ((dr.drop 13).getD i 0).fmod 4)) F1 N1 (Src.list hh ⟨_, (N1 _ (.head _)).1, rfl, _, rfl⟩ (fun _ _ => rfl)) (by rw [List.size_toArray, hlI]; exact Nat.le_trans hlT (by decide)) (fun s₂ I hle hI => blkName (by decide) rfl rfl) ?tests ?elts ?fin
  case tests =>
    intro C i own h tk E' b o hi hB F2 N2 hle
    exact wpAny_pure ⟨rfl, ⟨_, _, rfl⟩, F2, (N2 _ (.head _)).1⟩
  case elts =>
    rintro C i own h tk E' b o hlt _ ⟨oC, m, v, rfl, hC, hv, hx⟩ F2 N2 hle
    clear F1 N1
    obtain ⟨c, t, hc, rfl⟩ := ints_get hI i v (by simpa using hv)
    simp only [List.cons_append, List.nil_append] at N2
    ktr_unf
    · exact stay_of (by k_asm) (by assumption) (by k_mem) ⟨_, _, rfl⟩
    · rw [List.getD_eq_getElem?_getD, hc]; exact ⟨_, rfl⟩
  case fin =>
    intro s₂ D3 h' tk ys3 ts ep3 es hD hk F2 N2 hE
    subst es
    clear F1
    have hst3 := Els.ints' hE
    rw [List.filter_eq_self.mpr (fun _ _ => rfl), List.size_toArray, hlI, map_range_getD' (fun x => 1 + x.fmod 4)] at hst3
    have N3 : News g L h' [(D3, listOf ys3.toArray ep3), (Nu, listOf vn.toArray en), (R, listOf vr.toArray er), (D, listOf ys.toArray ep), (L + 1 + 1 + 1 + 1 + 1, o5), (L + 1 + 1 + 1 + 1, o4), (L + 1 + 1 + 1, o3), (L + 1 + 1, o2), (L + 1, o1), (108, ot)] := fun q hq => N2 q (by
      refine mem_sub hq ?_
      repeat' (first | exact List.Subset.refl _ | exact List.nil_subset _ | refine cons_sub (by repeat (first | exact List.Mem.head _ | apply List.Mem.tail | apply List.mem_append_right)) ?_ | apply skip_sub))
    clear N2 hE N1 hI
    dsimp only
    ktr_unf
    rename Fr _ _ _ _ => F2
    rename News _ _ _ _ => N2
    refine slice_from (ns := [2, 1, 3]) F2 N2 ⟨0, .tail _ (.head _)⟩ (.cons _ _ (.cons _ _ (.cons _ _ .nil))) (Int.natCast_nonneg _) (by decide) ?_
    clear N2 F2
    intro D2 ws h2 F2 N2 l2 hI2
    rw [Int.toNat_natCast] at hI2
    dsimp only
    ktr_unf
    rename Fr _ _ _ _ => F4
    rename News _ _ _ _ => N4
    rename IntsAre _ (_ ++ _) => hI4
    exact hnext _ _ _ _ F4 (fun q hq => N4 q (by
      refine mem_sub hq ?_
      repeat' (first | exact List.Subset.refl _ | exact List.nil_subset _ | refine cons_sub (by repeat (first | exact List.Mem.head _ | apply List.Mem.tail | apply List.mem_append_right)) ?_ | apply skip_sub))) hI4
end Mine
end

-- part LawD
section
open PySem PySem.W PySem.Calls PyProof.Rows
set_option maxRecDepth 100000
set_option maxHeartbeats 8000000
namespace Mine
local macro_rules | `(tactic| ktr_unf) => `(tactic| repeat' (first | (k_unfold; (try dsimp only)) | ((fail_if_success (with_reducible show wpAny _ _ (subscriptTail _ (Expr.Slice (some (Expr.Call _ _ _ _)) none none _) _ _) _ _ _)); (fail_if_success (with_reducible show wpAny _ _ (eval (Expr.ListComp _ _ _ _) _) _ _ _)); first | walk1 | (dsimp only; walk1)) | fail "no step"))
local macro_rules | `(tactic| walk_at "eval Name") => `(tactic| (k_here; (with_reducible show wpAny _ _ (eval (Expr.Name _ _) (compEnvC _ _ _ _)) _ _ _); k_dflt (first
  | refine LCgL.ld_own (by k_asm) (by k_mem) (by assumption) (by assumption) ?_
  | refine glob_name (by k_asm) (by k_asm) (by k_asm) (by k_is) ?_
  | refine built_name (by k_asm) (by k_asm) (by k_asm) (by k_is) (by boot_by_name) (by decide) ?_)))
local macro_rules | `(tactic| walk_at "call builtin:min") => `(tactic| (k_here; (with_reducible show wpAny _ _ (call (Value.builtin _) [Value.int _ _, Value.int _ _]) _ _ _); k_dflt (refine' min_two_N ?hh ?F ?N ?_); (case hh => first | rfl | assumption); (case F => k_asm); (case N => k_asm); intro h' tk' F' N'))

def drawsOf (ns : List Int) : List Int := (ns.take 16).map fun x => x.fmod 84
theorem law_draws {w : World} {p : Program} {loose : List Str} {mg mb : Str → Option Value} {A : Around} {s : Shared} {Q : Flow → Shared → Prop}
    {g : Heap} {L Lsc : Nat} {fa : Addr} {cd : Value} {o1 o2 o3 o4 o5 ot : Obj} {vsc : List Value} {ns : List Int} {m : Str → Option Value}
    (X : (hd.heap_39 w.params).In g) (T : TopRead p loose mg mb g) (hh : A.handled = none)
    (hl : g.IsList Lsc vsc.toArray) (hi : IntsAre vsc ns)
    (F : Fr g L s.heap (fun z => if z = Str.ofString "script" then some (.ref Lsc) else m z))
    (N : News g L s.heap [ (L + 1 + 1 + 1 + 1 + 1, o5), (L + 1 + 1 + 1 + 1, o4), (L + 1 + 1 + 1, o3), (L + 1 + 1, o2), (L + 1, o1), (108, ot)])
    (hlen : ns.length ≤ 63)
    (hnext : ∀ (h' : Heap) (tk D2 ep : Nat) (v2 : List Value), Fr g L h' (fun z => if z = Str.ofString "draws" then some (.ref D2) else if z = Str.ofString "script" then some (.ref Lsc) else m z) →
      News g L h' [(D2, listOf v2.toArray ep), (L + 1 + 1 + 1 + 1 + 1, o5), (L + 1 + 1 + 1 + 1, o4), (L + 1 + 1 + 1, o3), (L + 1 + 1, o2), (L + 1, o1), (108, ot)] →
      IntsAre v2 (drawsOf ns) → Q .next { s with heap := h', toks := tk }) :
    wpAny (model Challenge.rw_re0038_01.row.prog w) A (exec (lBody.getD 0 (.Pass default)) (lEnv L fa cd)) Q (fun _ _ => False) s := by
  revert X
  k_fill
  intro X
  dsimp only [lEnv]
  show wpAny _ _ (exec (.Assign _ _ _) _) _ _ _
  refine' lc_assign (cl := ?cl) ?hsw ?hcl rfl ?hnm ?hy ?hp ?_ (fun _ => rfl)
  case hcl => exact rfl
  case hsw => exact rfl
  case hnm => decide
  case hy => exact rfl
  case hp => exact rfl
  ktr_unf
  rename Fr _ _ _ _ => F1
  rename News _ _ _ _ => N1
  rename IntsAre _ (List.take _ ns) => hI
  have hlI := hI.length
  have hlT : (ns.take 16).length ≤ 16 := by rw [List.length_take]; omega
  refine LcGo.mk (fun _ => true) (fun i => .int (((ns.take 16).getD i 0).fmod 84)) F1 N1 (Src.list hh ⟨_, (N1 _ (.head _)).1, rfl, _, rfl⟩ (fun _ _ => rfl)) (by rw [List.size_toArray, hlI]; exact Nat.le_trans hlT (by decide)) (fun s₂ I hle hI => blkName (by decide) rfl rfl) ?tests ?elts ?fin
  case tests =>
    intro C i own h tk E' b o hi hB F2 N2 hle
    exact wpAny_pure ⟨rfl, ⟨_, _, rfl⟩, F2, (N2 _ (.head _)).1⟩
  case elts =>
    rintro C i own h tk E' b o hlt _ ⟨oC, m, v, rfl, hC, hv, hx⟩ F2 N2 hle
    clear F1 N1
    obtain ⟨c, t, hc, rfl⟩ := ints_get hI i v (by simpa using hv)
    simp only [List.cons_append, List.nil_append] at N2
    ktr_unf
    · exact stay_of (by k_asm) (by assumption) (by k_mem) ⟨_, _, rfl⟩
    · rw [List.getD_eq_getElem?_getD, hc]; exact ⟨_, rfl⟩
  case fin =>
    intro s₂ D3
    refine ⟨rfl, ?_⟩
    intro h' tk ys3 ts ep3 es hD hk F2 N2 hE
    subst es
    clear F1
    have hst3 := Els.ints' hE
    rw [List.filter_eq_self.mpr (fun _ _ => rfl), List.size_toArray, hlI, map_range_getD' (fun x => x.fmod 84)] at hst3
    refine hnext h' tk D3 ep3 ys3 F2 (fun q hq => N2 q (by
      refine mem_sub hq ?_
      repeat' (first | exact List.Subset.refl _ | exact List.nil_subset _ | refine cons_sub (by repeat (first | exact List.Mem.head _ | apply List.Mem.tail | apply List.mem_append_right)) ?_ | apply skip_sub))) hst3

def spanOf (x : Int) : Int × Int := (x.fmod 7, if x.fmod 7 + (x.fdiv 7).fmod 4 < 6 then x.fmod 7 + (x.fdiv 7).fmod 4 else 6)
theorem law_spans {w : World} {p : Program} {loose : List Str} {mg mb : Str → Option Value} {A : Around} {s : Shared} {Q : Flow → Shared → Prop}
    {g : Heap} {L D R Nu Z : Nat} {fa : Addr} {cd : Value} {o1 o2 o3 o4 o5 ot : Obj} {ys vr vn vz : List Value} {ep er en ez : Nat} {rm : List Int} {m : Str → Option Value}
    (X : (hd.heap_39 w.params).In g) (T : TopRead p loose mg mb g) (hh : A.handled = none)
    (F : Fr g L s.heap (fun z => if z = Str.ofString "sizes" then some (.ref Z) else if z = Str.ofString "numbers" then some (.ref Nu) else if z = Str.ofString "remarks" then some (.ref R) else if z = Str.ofString "draws" then some (.ref D) else m z))
    (N : News g L s.heap [(Z, listOf vz.toArray ez), (Nu, listOf vn.toArray en), (R, listOf vr.toArray er), (D, listOf ys.toArray ep), (L + 1 + 1 + 1 + 1 + 1, o5), (L + 1 + 1 + 1 + 1, o4), (L + 1 + 1 + 1, o3), (L + 1 + 1, o2), (L + 1, o1), (108, ot)])
    (hst : IntsAre vr rm) (hdl : rm.length = 6)
    (hnext : ∀ (h' : Heap) (tk D2 ep : Nat) (v2 : List Value) (ts : List (Addr × Obj)), Fr g L h' (fun z => if z = Str.ofString "spans" then some (.ref D2) else if z = Str.ofString "sizes" then some (.ref Z) else if z = Str.ofString "numbers" then some (.ref Nu) else if z = Str.ofString "remarks" then some (.ref R) else if z = Str.ofString "draws" then some (.ref D) else m z) →
      News g L h' ([(D2, listOf v2.toArray ep), (Z, listOf vz.toArray ez), (Nu, listOf vn.toArray en), (L + 1 + 1 + 1 + 1 + 1, o5), (L + 1 + 1 + 1 + 1, o4), (L + 1 + 1 + 1, o3), (L + 1 + 1, o2), (L + 1, o1), (108, ot)] ++ ts) →
      Els ts v2 ((rm.map spanOf).map fun q => El.pair q.1 q.2) → (∀ p ∈ ts, s.heap.get? p.1 = none) → Q .next { s with heap := h', toks := tk }) :
    wpAny (model Challenge.rw_re0038_01.row.prog w) A (exec (lBody.getD 4 (.Pass default)) (lEnv L fa cd)) Q (fun _ _ => False) s := by
  revert X
  k_fill
  intro X
  dsimp only [lEnv]
  show wpAny _ _ (exec (.Assign _ _ _) _) _ _ _
  refine' lc_assign (cl := ?cl) ?hsw ?hcl rfl ?hnm ?hy ?hp ?_ (fun _ => rfl)
  case hcl => exact rfl
  case hsw => exact rfl
  case hnm => decide
  case hy => exact rfl
  case hp => exact rfl
  ktr_unf
  have hlI := hst.length
  refine LcGo.mk (fun _ => true) (fun i => .pair (spanOf (rm.getD i 0)).1 (spanOf (rm.getD i 0)).2) F N (Src.list hh ⟨_, (N (R, listOf vr.toArray er) (by repeat (first | exact List.Mem.head _ | apply List.Mem.tail | apply List.mem_append_right))).1, rfl, _, rfl⟩ (fun _ _ => rfl)) (by rw [List.size_toArray, hlI, hdl]; decide) (fun s₂ I hle hI => blkName (by decide) rfl rfl) ?tests ?elts ?fin
  case tests =>
    intro C i own h tk E' b o hi hB F2 N2 hle
    exact wpAny_pure ⟨rfl, ⟨_, _, rfl⟩, F2, (N2 _ (.head _)).1⟩
  case elts =>
    rintro C i own h tk E' b o hlt _ ⟨oC, m, v, rfl, hC, hv, hx⟩ F2 N2 hle
    clear F N
    obtain ⟨c, t, hc, rfl⟩ := ints_get hst i v (by simpa using hv)
    simp only [List.cons_append, List.nil_append] at N2
    ktr_unf
    · exact stay_of (by k_asm) (by assumption) (by k_mem) ⟨_, _, rfl⟩
    · rename News _ _ _ _ => N3
      rename _ ∧ _ => lD
      have z := N3 _ (.head _)
      rw [List.getD_eq_getElem?_getD, hc]
      exact ⟨_, _, _, _, rfl, ⟨Nat.ne_of_gt lD.1, z.2⟩, z.1⟩
  case fin =>
    intro s₂ D3
    refine ⟨rfl, ?_⟩
    intro h' tk ys3 ts ep3 es hD hk F2 N2 hE
    subst es
    rw [List.filter_eq_self.mpr (fun _ _ => rfl), List.size_toArray, hlI, map_range_getD' (fun x => El.pair (spanOf x).1 (spanOf x).2)] at hE
    refine hnext h' tk D3 ep3 ys3 ts F2 (fun q hq => N2 q ?_) (by rw [List.map_map]; exact hE) hD.2
    rcases List.mem_append.mp hq with hq | hq
    · refine mem_sub hq ?_
      repeat' (first | exact List.Subset.refl _ | exact List.nil_subset _ | refine cons_sub (by repeat (first | exact List.Mem.head _ | apply List.Mem.tail | apply List.mem_append_right)) ?_ | apply skip_sub)
    · exact .tail _ (List.mem_append_left _ hq)
end Mine
end

-- part LawE
section
open PySem PySem.W PySem.Calls PyProof.Rows
set_option maxRecDepth 100000
set_option maxHeartbeats 8000000
namespace Mine
local macro_rules | `(tactic| ktr_unf) => `(tactic| repeat' (first | (k_unfold; (try dsimp only)) | ((fail_if_success (with_reducible show wpAny _ _ (call (Value.ref 89) _ _) _ _ _)); (fail_if_success (with_reducible show wpAny _ _ (call (Value.ref 94) _ _) _ _ _)); (fail_if_success (with_reducible show wpAny _ _ (call (Value.ref 82) _ _) _ _ _)); (fail_if_success (with_reducible show wpAny _ _ (call (Value.ref 101) _ _) _ _ _)); (fail_if_success (with_reducible show wpAny _ _ (call (Value.ref 106) _ _) _ _ _)); (fail_if_success (with_reducible show wpAny _ _ (call (Value.ref 111) _ _) _ _ _)); (fail_if_success (with_reducible show wpAny _ _ (call (Value.ref 40) _ _) _ _ _)); (fail_if_success (with_reducible show wpAny _ _ (call (Value.ref 49) _ _) _ _ _)); (fail_if_success (with_reducible show wpAny _ _ (call (Value.ref 58) _ _) _ _ _)); (fail_if_success (with_reducible show wpAny _ _ (call (Value.builtin "str.join") _ _) _ _ _)); (fail_if_success (with_reducible show wpAny _ _ (eval (Expr.ListComp _ _ _ _) _) _ _ _)); (fail_if_success (with_reducible show wpAny _ _ (exec (Stmt.For _ _ _ _ _) _) _ _ _)); first | walk1 | (dsimp only; walk1)) | fail "no step"))
local macro_rules | `(tactic| walk_at "eval Name") => `(tactic| (k_here; (with_reducible show wpAny _ _ (eval (Expr.Name _ _) (compEnvC _ _ _ _)) _ _ _); k_dflt (first
  | refine LCgL.ld_own (by k_asm) (by k_mem) (by assumption) (by assumption) ?_
  | refine glob_name (by k_asm) (by k_asm) (by k_asm) (by k_is) ?_
  | refine built_name (by k_asm) (by k_asm) (by k_asm) (by k_is) (by boot_by_name) (by decide) ?_)))
local macro_rules | `(tactic| walk_at "call builtin:min") => `(tactic| (k_here; (with_reducible show wpAny _ _ (call (Value.builtin _) [Value.int _ _, Value.int _ _]) _ _ _); k_dflt (refine' min_two_N ?hh ?F ?N ?_); (case hh => first | rfl | assumption); (case F => k_asm); (case N => k_asm); intro h' tk' F' N'))

def rowsAll (nu : List Int) (a b c : Int) : Str := Txt.join (Str.ofString "") ((List.range 7).map fun i => rowStr (nu.getD i 0) ([a, b, c, c, c, c, c].getD i 0))
def sentOf (nu : List Int) (a b c : Int) : Str := subOf find1 (Str.ofString "..") (subOf find2 (Str.ofString "\r\n") (rowsAll nu a b c))

theorem rowStr_len (n : Int) {sz : Int} (h : 1 ≤ sz ∧ sz ≤ 4) : (rowStr n sz).length ≤ 6 := by
  have e : (rowStr n sz).length = (Txt.item (Str.ofString ".a") (n.fmod 2)).length + (Txt.mul (Str.ofString "b") (sz - 1)).length + (lineEnd n).length := by
    unfold rowStr
    show (_ ++ _ : Array Nat).size = _
    rw [Array.size_append]
    show (_ ++ _ : Array Nat).size + _ = _
    rw [Array.size_append]
    rfl
  have h1 : (Txt.item (Str.ofString ".a") (n.fmod 2)).length ≤ 1 := by
    rcases (by omega : n % 2 = 0 ∨ n % 2 = 1) with q | q <;> rw [Int.fmod_eq_emod_of_nonneg _ (by decide), q] <;> decide +kernel
  have h2 : (Txt.mul (Str.ofString "b") (sz - 1)).length ≤ 3 := by
    rcases (by omega : sz = 1 ∨ sz = 2 ∨ sz = 3 ∨ sz = 4) with rfl | rfl | rfl | rfl <;> decide +kernel
  have h3 : (lineEnd n).length ≤ 2 := by
    unfold lineEnd
    split
    · decide +kernel
    · split <;> decide +kernel
  omega
theorem sum_le6 (l : List Str) (h : ∀ x ∈ l, x.length ≤ 6) : (l.map (·.length)).sum ≤ 6 * l.length := by
  induction l with
  | nil => exact Nat.zero_le _
  | cons x l ih =>
    have := h x (.head _)
    have := ih fun y hy => h y (.tail _ hy)
    simp only [List.map_cons, List.sum_cons, List.length_cons]
    omega
theorem rows_len (nu : List Int) (a b c : Int) (ha : 1 ≤ a ∧ a ≤ 4) (hb : 1 ≤ b ∧ b ≤ 4) (hc : 1 ≤ c ∧ c ≤ 4) : (((List.range 7).map fun i => rowStr (nu.getD i 0) ([a, b, c, c, c, c, c].getD i 0)).map (·.length)).sum ≤ 42 := by
  have h := sum_le6 ((List.range 7).map fun i => rowStr (nu.getD i 0) ([a, b, c, c, c, c, c].getD i 0)) fun x hx => by
    obtain ⟨i, hi, rfl⟩ := List.mem_map.mp hx
    have hi7 := List.mem_range.mp hi
    refine rowStr_len _ ?_
    rcases (by omega : i = 0 ∨ i = 1 ∨ i = 2 ∨ i = 3 ∨ i = 4 ∨ i = 5 ∨ i = 6) with q | q | q | q | q | q | q <;> rw [q] <;> first | exact ha | exact hb | exact hc
  rw [List.length_map, List.length_range] at h
  exact h
theorem law_sent {w : World} {p : Program} {loose : List Str} {mg mb : Str → Option Value} {A : Around} {s : Shared} {Q : Flow → Shared → Prop}
    {g : Heap} {L Nu Z Sp : Nat} {fa : Addr} {cd : Value} {vn : List Value} {en ez : Nat} {nu : List Int} {m : Str → Option Value} {rest : List (Addr × Obj)} {ta tb tc : Tok} {a b c : Int}
    (X : (hd.heap_39 w.params).In g) (T : TopRead p loose mg mb g) (hh : A.handled = none)
    (F : Fr g L s.heap (fun z => if z = Str.ofString "spans" then some (.ref Sp) else if z = Str.ofString "sizes" then some (.ref Z) else if z = Str.ofString "numbers" then some (.ref Nu) else m z))
    (N : News g L s.heap ((Z, listOf (List.toArray [.int a ta, .int b tb, .int c tc]) ez) :: (Nu, listOf vn.toArray en) :: rest))
    (hn : IntsAre vn nu) (hlen : nu.length = 7) (ha : 1 ≤ a ∧ a ≤ 4) (hb : 1 ≤ b ∧ b ≤ 4) (hc : 1 ≤ c ∧ c ≤ 4)
    (hdp : A.depth + 8 < recursionLimit) (hu : A.units + 200 < cLine)
    (hnext : ∀ (h' : Heap) (tk : Nat) (t : Tok) (gs : GenState), gs.bare = true → Fr g L h' (fun z => if z = Str.ofString "sent" then some (.str (sentOf nu a b c) t) else if z = Str.ofString "spans" then some (.ref Sp) else if z = Str.ofString "sizes" then some (.ref Z) else if z = Str.ofString "numbers" then some (.ref Nu) else m z) →
      News g L h' ((Z, listOf (List.toArray [.int a ta, .int b tb, .int c tc]) ez) :: (Nu, listOf vn.toArray en) :: rest) → Q .next { s with heap := h', toks := tk, gens := s.gens.push gs }) :
    wpAny (model Challenge.rw_re0038_01.row.prog w) A (exec (lBody.getD 5 (.Pass default)) (lEnv L fa cd)) Q (fun _ _ => False) s := by
  revert X
  k_fill
  intro X
  dsimp only [lEnv]
  show wpAny _ _ (exec (.Assign _ _ _) _) _ _ _
  ktr_unf
  refine rows_C (vn := vn) (ns := nu) (X.keeps F.keep) (T.keeps F.keep) hh (N _ (.head _)).1 (N _ (.tail _ (.head _))).1 hn hlen ha hb hc (by omega) (by omega) ?_
  intro h2 tk2 gs R vals ep hb2 k2 hR0 hR hrs
  dsimp only at k2 hR0
  have F2 := Fr_le F k2
  have N2 := News_le N k2
  clear F N
  dsimp only
  ktr_unf
  have hRl := rows_len nu a b c ha hb hc
  refine join_list ⟨_, hR, rfl, _, rfl⟩ hrs ?_ fun t' k => ?_
  · rw [List.length_map, List.length_range]
    have : (Str.ofString "").length = 0 := rfl
    omega
  dsimp only
  ktr_unf
  refine quotedata_C (X.keeps F2.keep) (T.keeps F2.keep) hh ?_ (by omega) (by omega) ?_
  · rw [join_size]; omega
  intro h3 tk3 t3 k3
  dsimp only at k3
  have F3 := Fr_le F2 k3
  have N3 := News_le N2 k3
  clear F2 N2
  dsimp only
  ktr_unf
  rename Fr _ _ _ _ => F4
  rename News _ _ _ _ => N4
  exact hnext _ _ _ gs hb2 F4 N4

theorem law_if {w : World} {p : Program} {loose : List Str} {mg mb : Str → Option Value} {A : Around} {s : Shared} {Q : Flow → Shared → Prop}
    {g : Heap} {L Nu Z Sp : Nat} {fa : Addr} {cd : Value} {vn : List Value} {en ez : Nat} {nu : List Int} {m : Str → Option Value} {rest : List (Addr × Obj)} {t ta tb tc : Tok} {a b c : Int} {x : Str}
    (X : (hd.heap_39 w.params).In g) (T : TopRead p loose mg mb g) (hh : A.handled = none) (hx : x = dueAll nu a b c)
    (F : Fr g L s.heap (fun z => if z = Str.ofString "sent" then some (.str x t) else if z = Str.ofString "spans" then some (.ref Sp) else if z = Str.ofString "sizes" then some (.ref Z) else if z = Str.ofString "numbers" then some (.ref Nu) else m z))
    (N : News g L s.heap ((Z, listOf (List.toArray [.int a ta, .int b tb, .int c tc]) ez) :: (Nu, listOf vn.toArray en) :: rest))
    (hn : IntsAre vn nu) (hlen : nu.length = 7) (ha : 1 ≤ a ∧ a ≤ 4) (hb : 1 ≤ b ∧ b ≤ 4) (hc : 1 ≤ c ∧ c ≤ 4)
    (hdp : A.depth + 8 < recursionLimit) (hu : A.units + 200 < cLine)
    (hnext : ∀ (h' : Heap) (tk : Nat), Fr g L h' (fun z => if z = Str.ofString "sent" then some (.str x t) else if z = Str.ofString "spans" then some (.ref Sp) else if z = Str.ofString "sizes" then some (.ref Z) else if z = Str.ofString "numbers" then some (.ref Nu) else m z) →
      News g L h' ((Z, listOf (List.toArray [.int a ta, .int b tb, .int c tc]) ez) :: (Nu, listOf vn.toArray en) :: rest) → Q .next { s with heap := h', toks := tk }) :
    wpAny (model Challenge.rw_re0038_01.row.prog w) A (exec (lBody.getD 6 (.Pass default)) (lEnv L fa cd)) Q (fun _ _ => False) s := by
  revert X
  k_fill
  intro X
  dsimp only [lEnv]
  show wpAny _ _ (exec (.If _ _ _ _) _) _ _ _
  ktr_unf
  refine due_C (vn := vn) (ns := nu) (X.keeps F.keep) (T.keeps F.keep) hh (N _ (.head _)).1 (N _ (.tail _ (.head _))).1 hn hlen ha hb hc (by omega) (by omega) ?_
  intro h2 tk2 t2 k2
  have F2 := Fr_le F k2
  have N2 := News_le N k2
  clear F N
  rw [hx] at F2 ⊢
  rw [hx] at hnext
  clear hx
  ktr_unf
  · rename _ = true => hq
    rw [bne_self_eq_false] at hq
    cases hq
  · exact hnext _ _ F2 N2
end Mine
end

-- part LawF
section
open PySem PySem.W PySem.Calls PyProof.Rows
set_option maxRecDepth 100000
set_option maxHeartbeats 8000000
namespace Mine
local macro_rules | `(tactic| ktr_unf) => `(tactic| repeat' (first | (k_unfold; (try dsimp only)) | ((fail_if_success (with_reducible show wpAny _ _ (call (Value.ref 89) _ _) _ _ _)); (fail_if_success (with_reducible show wpAny _ _ (call (Value.ref 94) _ _) _ _ _)); (fail_if_success (with_reducible show wpAny _ _ (call (Value.ref 82) _ _) _ _ _)); (fail_if_success (with_reducible show wpAny _ _ (call (Value.ref 101) _ _) _ _ _)); (fail_if_success (with_reducible show wpAny _ _ (call (Value.ref 106) _ _) _ _ _)); (fail_if_success (with_reducible show wpAny _ _ (call (Value.ref 111) _ _) _ _ _)); (fail_if_success (with_reducible show wpAny _ _ (call (Value.ref 40) _ _) _ _ _)); (fail_if_success (with_reducible show wpAny _ _ (call (Value.ref 49) _ _) _ _ _)); (fail_if_success (with_reducible show wpAny _ _ (call (Value.ref 58) _ _) _ _ _)); (fail_if_success (with_reducible show wpAny _ _ (call (Value.builtin "str.join") _ _) _ _ _)); (fail_if_success (with_reducible show wpAny _ _ (eval (Expr.ListComp _ _ _ _) _) _ _ _)); (fail_if_success (with_reducible show wpAny _ _ (exec (Stmt.For _ _ _ _ _) _) _ _ _)); (fail_if_success (with_reducible show wpAny _ _ (storeName _ (Str.ofString "places") _) _ _ _)); (fail_if_success (with_reducible show wpAny _ _ (storeName _ (Str.ofString "come") _) _ _ _)); (fail_if_success (with_reducible show wpAny _ _ (storeName _ (Str.ofString "gone") _) _ _ _)); (fail_if_success (with_reducible show wpAny _ _ (storeName _ (Str.ofString "left") _) _ _ _)); (fail_if_success (with_reducible show wpAny _ _ (storeName _ (Str.ofString "right") _) _ _ _)); first | walk1 | (dsimp only; walk1)) | fail "no step"))
local macro_rules | `(tactic| walk_at "eval Name") => `(tactic| (k_here; (with_reducible show wpAny _ _ (eval (Expr.Name _ _) (compEnvC _ _ _ _)) _ _ _); k_dflt (first
  | refine LCgL.ld_own (by k_asm) (by k_mem) (by assumption) (by assumption) ?_
  | refine glob_name (by k_asm) (by k_asm) (by k_asm) (by k_is) ?_
  | refine built_name (by k_asm) (by k_asm) (by k_asm) (by k_is) (by boot_by_name) (by decide) ?_)))
local macro_rules | `(tactic| walk_at "call builtin:min") => `(tactic| (k_here; (with_reducible show wpAny _ _ (call (Value.builtin _) [Value.int _ _, Value.int _ _]) _ _ _); k_dflt (refine' min_two_N ?hh ?F ?N ?_); (case hh => first | rfl | assumption); (case F => k_asm); (case N => k_asm); intro h' tk' F' N'))

def spl (x : Str) : List Str := (Txt.split x (Str.ofString "\r\n")).dropLast
theorem law_prep {w : World} {p : Program} {loose : List Str} {mg mb : Str → Option Value} {A : Around} {s : Shared} {Q : Flow → Shared → Prop}
    {g : Heap} {L : Nat} {fa : Addr} {cd : Value} {m : Str → Option Value} {rest : List (Addr × Obj)} {t : Tok} {x : Str} {o1 o2 o3 o4 o5 : Obj} {x1 x2 x3 : Option Value}
    (X : (hd.heap_39 w.params).In g) (T : TopRead p loose mg mb g) (hh : A.handled = none) (hxl : x.length ≤ 1000) (hxs : (Txt.split x (Str.ofString "\r\n")).length ≤ 1000)
    (F : Fr g L s.heap (fun z => if z = Str.ofString "sent" then some (.str x t) else m z))
    (N : News g L s.heap ([(L + 1 + 1 + 1 + 1 + 1, o5), (L + 1 + 1 + 1 + 1, o4), (L + 1 + 1 + 1, o3), (L + 1 + 1, o2), (L + 1, o1)] ++ rest))
    (d1 : o1.data = .cell x1) (d2 : o2.data = .cell x2) (d3 : o3.data = .cell x3) (hnc : NC L rest)
    (hdp : A.depth + 8 < recursionLimit) (hu : A.units + 200 < cLine)
    (hnext : ∀ (h' : Heap) (tk P C G ep ec eg : Nat) (vp : List Value) (op oc og : Obj), Fr g L h' (fun z => if z = Str.ofString "sent" then some (.str x t) else m z) →
      News g L h' ([(C, listOf #[] ec), (G, listOf #[] eg), (P, listOf vp.toArray ep)] ++ ([(L + 1 + 1 + 1 + 1 + 1, o5), (L + 1 + 1 + 1 + 1, o4), (L + 1 + 1 + 1, og), (L + 1 + 1, oc), (L + 1, op)] ++ rest)) → IntsAre vp (plc (spl x)) → op.data = .cell (some (.ref P)) → oc.data = .cell (some (.ref C)) → og.data = .cell (some (.ref G)) →
      C ≠ G → C ≠ P → G ≠ P → NC L [(C, listOf #[] ec), (G, listOf #[] eg), (P, listOf vp.toArray ep)] → (∀ p ∈ rest, p.1 ≠ C ∧ p.1 ≠ G ∧ p.1 ≠ P) →
      wpAny (model Challenge.rw_re0038_01.row.prog w) A (execs (lBody.drop 10) (lEnv L fa cd)) Q (fun _ _ => False) { s with heap := h', toks := tk }) :
    wpAny (model Challenge.rw_re0038_01.row.prog w) A (execs (lBody.drop 7) (lEnv L fa cd)) Q (fun _ _ => False) s := by
  revert X
  k_fill
  intro X
  dsimp only [lEnv]
  show wpAny _ _ (execs (_ :: _) _) _ _ _
  ktr_unf
  refine places_C (X.keeps F.keep) (T.keeps F.keep) hh hxl hxs (by omega) (by omega) ?_
  intro h2 tk2 P vp ep k2 hP0 hP hip
  try dsimp only at k2
  have zP : (P : Nat) ≠ L ∧ g.get? P = none := by
    obtain ⟨oL, _, _, hoL, _⟩ := F.ns
    exact ⟨ne_of_get hP0 hoL, none_of_le F.keep hP0⟩
  have F2 := Fr_le F k2
  have N2 : News g L h2 ((P, listOf vp.toArray ep) :: ([(L + 1 + 1 + 1 + 1 + 1, o5), (L + 1 + 1 + 1 + 1, o4), (L + 1 + 1 + 1, o3), (L + 1 + 1, o2), (L + 1, o1)] ++ rest)) := fun q hq => by
    rcases List.mem_cons.mp hq with rfl | hq
    · exact ⟨hP, zP⟩
    · exact News_le N k2 q hq
  have nP : ∀ q ∈ [(L + 1 + 1 + 1 + 1 + 1, o5), (L + 1 + 1 + 1 + 1, o4), (L + 1 + 1 + 1, o3), (L + 1 + 1, o2), (L + 1, o1)] ++ rest, (P : Nat) ≠ q.1 := fun q hq => ne_of_get hP0 (N q hq).1
  clear F N
  ktr_unf
  refine st_cell rfl rfl rfl F2 N2 (by simp) d1 ?_
  intro h3 op dp F3 k3 N3
  have N4 := news_swap ((P, listOf vp.toArray ep) :: [(L + 1 + 1 + 1 + 1 + 1, o5), (L + 1 + 1 + 1 + 1, o4), (L + 1 + 1 + 1, o3), (L + 1 + 1, o2)]) rest k3 N3 (by
    intro q hq
    rcases List.mem_cons.mp hq with rfl | hq
    · exact nP (L + 1, o1) (by repeat (first | exact List.Mem.head _ | apply List.Mem.tail | apply List.mem_append_right))
    · simp only [List.mem_cons, List.not_mem_nil, or_false] at hq
      rcases hq with rfl | rfl | rfl | rfl <;> (dsimp only; omega)) (fun q hq => (hnc q hq).1)
  clear F2 N2 N3 k3
  dsimp only
  simp only [List.cons_append, List.nil_append] at N4
  ktr_unf
  rename Fr _ _ _ _ => F5
  rename News _ _ _ _ => N5
  rename _ ∧ _ => l1
  rename_i C _
  obtain ⟨lP, l5, l4, l3, l2, l0, lr⟩ := l1
  refine st_cell rfl rfl rfl F5 N5 (by simp) d2 ?_
  intro h4 oc dc F6 k6 N6
  have N7 := news_swap ((C, listOf #[] 0) :: (P, listOf vp.toArray ep) :: [(L + 1 + 1 + 1 + 1 + 1, o5), (L + 1 + 1 + 1 + 1, o4), (L + 1 + 1 + 1, o3)]) ((L + 1, op) :: rest) k6 N6 (by
    intro q hq
    rcases List.mem_cons.mp hq with rfl | hq
    · exact Nat.ne_of_gt l2
    · rcases List.mem_cons.mp hq with rfl | hq
      · exact nP (L + 1 + 1, o2) (by repeat (first | exact List.Mem.head _ | apply List.Mem.tail | apply List.mem_append_right))
      · simp only [List.mem_cons, List.not_mem_nil, or_false] at hq
        rcases hq with rfl | rfl | rfl <;> (dsimp only; omega)) (fun q hq => by
    rcases List.mem_cons.mp hq with rfl | hq
    · dsimp only; omega
    · exact (hnc q hq).2.1)
  have nC : (C : Nat) ≠ L + 1 ∧ (C : Nat) ≠ L + 1 + 1 ∧ (C : Nat) ≠ L + 1 + 1 + 1 ∧ (C : Nat) ≠ L + 1 + 1 + 1 + 1 ∧ (C : Nat) ≠ L + 1 + 1 + 1 + 1 + 1 := ⟨Nat.ne_of_gt l0, Nat.ne_of_gt l2, Nat.ne_of_gt l3, Nat.ne_of_gt l4, Nat.ne_of_gt l5⟩
  have rC : ∀ q ∈ rest, @Ne Nat q.1 C := fun q hq => Nat.ne_of_lt (allLt_mem lr q hq)
  have cP : (C : Nat) ≠ P := Nat.ne_of_gt lP
  clear F5 N5 N6 k6 l5 l4 l3 l2 l0 lr lP
  dsimp only
  simp only [List.cons_append, List.nil_append] at N7
  ktr_unf
  rename Fr _ _ _ _ => F8
  rename News _ _ _ _ => N8
  rename _ ∧ _ => l1
  rename_i G _
  obtain ⟨lC, lP, l5, l4, l3, l2, l0, lr⟩ := l1
  refine st_cell rfl rfl rfl F8 N8 (by simp) d3 ?_
  intro h5 og dg F9 k9 N9
  have N10 := news_swap ((G, listOf #[] 0) :: (C, listOf #[] 0) :: (P, listOf vp.toArray ep) :: [(L + 1 + 1 + 1 + 1 + 1, o5), (L + 1 + 1 + 1 + 1, o4)]) ((L + 1 + 1, oc) :: (L + 1, op) :: rest) k9 N9 (by
    intro q hq
    rcases List.mem_cons.mp hq with rfl | hq
    · exact Nat.ne_of_gt l3
    · rcases List.mem_cons.mp hq with rfl | hq
      · exact nC.2.2.1
      · rcases List.mem_cons.mp hq with rfl | hq
        · exact nP (L + 1 + 1 + 1, o3) (by repeat (first | exact List.Mem.head _ | apply List.Mem.tail | apply List.mem_append_right))
        · simp only [List.mem_cons, List.not_mem_nil, or_false] at hq
          rcases hq with rfl | rfl <;> (dsimp only; omega)) (fun q hq => by
    rcases List.mem_cons.mp hq with rfl | hq
    · dsimp only; omega
    · rcases List.mem_cons.mp hq with rfl | hq
      · dsimp only; omega
      · exact (hnc q hq).2.2.1)
  have rG : ∀ q ∈ rest, @Ne Nat q.1 G := fun q hq => Nat.ne_of_lt (allLt_mem lr q hq)
  refine hnext h5 _ P C G ep 0 0 vp op oc og F9 (fun q hq => N10 q ?_) hip dp dc dg (Nat.ne_of_lt lC) cP (Nat.ne_of_gt lP) ?_ ?_
  · refine mem_sub hq ?_
    repeat' (first | exact List.Subset.refl _ | exact List.nil_subset _ | refine cons_sub (by repeat (first | exact List.Mem.head _ | apply List.Mem.tail | apply List.mem_append_right)) ?_ | apply skip_sub)
  · refine NC.cons nC (NC.cons ⟨Nat.ne_of_gt l0, Nat.ne_of_gt l2, Nat.ne_of_gt l3, Nat.ne_of_gt l4, Nat.ne_of_gt l5⟩ (NC.cons ⟨nP (L + 1, o1) (by repeat (first | exact List.Mem.head _ | apply List.Mem.tail | apply List.mem_append_right)), nP (L + 1 + 1, o2) (by repeat (first | exact List.Mem.head _ | apply List.Mem.tail | apply List.mem_append_right)), nP (L + 1 + 1 + 1, o3) (by repeat (first | exact List.Mem.head _ | apply List.Mem.tail | apply List.mem_append_right)), nP (L + 1 + 1 + 1 + 1, o4) (by repeat (first | exact List.Mem.head _ | apply List.Mem.tail | apply List.mem_append_right)), nP (L + 1 + 1 + 1 + 1 + 1, o5) (by repeat (first | exact List.Mem.head _ | apply List.Mem.tail | apply List.mem_append_right))⟩ ?_))
    intro q hq
    nomatch hq
  · intro q hq
    exact ⟨rC q hq, rG q hq, Ne.symm (nP q (by simp [hq]))⟩
end Mine
end

-- part LawG
section
open PySem PySem.W PySem.Calls PyProof.Rows
set_option maxRecDepth 100000
set_option maxHeartbeats 8000000
namespace Mine
local macro_rules | `(tactic| ktr_unf) => `(tactic| repeat' (first | (k_unfold; (try dsimp only)) | ((fail_if_success (with_reducible show wpAny _ _ (call (Value.ref 89) _ _) _ _ _)); (fail_if_success (with_reducible show wpAny _ _ (call (Value.ref 94) _ _) _ _ _)); (fail_if_success (with_reducible show wpAny _ _ (call (Value.ref 82) _ _) _ _ _)); (fail_if_success (with_reducible show wpAny _ _ (call (Value.ref 101) _ _) _ _ _)); (fail_if_success (with_reducible show wpAny _ _ (call (Value.ref 106) _ _) _ _ _)); (fail_if_success (with_reducible show wpAny _ _ (call (Value.ref 111) _ _) _ _ _)); (fail_if_success (with_reducible show wpAny _ _ (call (Value.ref 40) _ _) _ _ _)); (fail_if_success (with_reducible show wpAny _ _ (call (Value.ref 49) _ _) _ _ _)); (fail_if_success (with_reducible show wpAny _ _ (call (Value.ref 58) _ _) _ _ _)); (fail_if_success (with_reducible show wpAny _ _ (call (Value.builtin "str.join") _ _) _ _ _)); (fail_if_success (with_reducible show wpAny _ _ (eval (Expr.ListComp _ _ _ _) _) _ _ _)); (fail_if_success (with_reducible show wpAny _ _ (exec (Stmt.For _ _ _ _ _) _) _ _ _)); (fail_if_success (with_reducible show wpAny _ _ (storeName _ (Str.ofString "places") _) _ _ _)); (fail_if_success (with_reducible show wpAny _ _ (storeName _ (Str.ofString "come") _) _ _ _)); (fail_if_success (with_reducible show wpAny _ _ (storeName _ (Str.ofString "gone") _) _ _ _)); (fail_if_success (with_reducible show wpAny _ _ (storeName _ (Str.ofString "left") _) _ _ _)); (fail_if_success (with_reducible show wpAny _ _ (storeName _ (Str.ofString "right") _) _ _ _)); first | walk1 | (dsimp only; walk1)) | fail "no step"))
local macro_rules | `(tactic| walk_at "eval Name") => `(tactic| (k_here; (with_reducible show wpAny _ _ (eval (Expr.Name _ _) (compEnvC _ _ _ _)) _ _ _); k_dflt (first
  | refine LCgL.ld_own (by k_asm) (by k_mem) (by assumption) (by assumption) ?_
  | refine glob_name (by k_asm) (by k_asm) (by k_asm) (by k_is) ?_
  | refine built_name (by k_asm) (by k_asm) (by k_asm) (by k_is) (by boot_by_name) (by decide) ?_)))
local macro_rules | `(tactic| walk_at "call builtin:min") => `(tactic| (k_here; (with_reducible show wpAny _ _ (call (Value.builtin _) [Value.int _ _, Value.int _ _]) _ _ _); k_dflt (refine' min_two_N ?hh ?F ?N ?_); (case hh => first | rfl | assumption); (case F => k_asm); (case N => k_asm); intro h' tk' F' N'))

def comeOf (pl : List Int) (sps : List (Int × Int)) : List Int := sps.foldl (fun ks q => insR ks (pl.getD q.1.toNat 0)) []
def goneOf (pl : List Int) (sps : List (Int × Int)) : List Int := sps.foldl (fun ks q => insR ks (pl.getD (q.2 + 1).toNat 0)) []
theorem foldl_insR_len (f : Int × Int → Int) : ∀ (sps : List (Int × Int)) (ks : List Int), (sps.foldl (fun ks q => insR ks (f q)) ks).length = sps.length + ks.length
  | [], ks => by simp
  | q :: r, ks => by rw [List.foldl_cons, foldl_insR_len f r, insR_len, List.length_cons]; omega

theorem law_for {w : World} {p : Program} {loose : List Str} {mg mb : Str → Option Value} {A : Around} {s : Shared} {Q : Flow → Shared → Prop}
    {g : Heap} {L P C G Sp : Nat} {fa : Addr} {cd : Value} {m₀ : Str → Option Value} {rest ts : List (Addr × Obj)} {op oc og o4 o5 : Obj} {vp vsp : List Value} {ep esp ec eg : Nat} {pl : List Int} {sp : List (Int × Int)}
    (X : (hd.heap_39 w.params).In g) (T : TopRead p loose mg mb g) (hh : A.handled = none)
    (F : Fr g L s.heap (fun z => if z = Str.ofString "spans" then some (.ref Sp) else m₀ z))
    (N : News g L s.heap ((C, listOf #[] ec) :: (G, listOf #[] eg) :: (P, listOf vp.toArray ep) :: ([(L + 1 + 1 + 1 + 1 + 1, o5), (L + 1 + 1 + 1 + 1, o4), (L + 1 + 1 + 1, og), (L + 1 + 1, oc), (L + 1, op)] ++ rest)))
    (hip : IntsAre vp pl) (hpl : pl.length = 8) (dp : op.data = .cell (some (.ref P))) (dc : oc.data = .cell (some (.ref C))) (dg : og.data = .cell (some (.ref G)))
    (hCG : C ≠ G) (hC : ∀ q ∈ (P, listOf vp.toArray ep) :: ([(L + 1 + 1 + 1 + 1 + 1, o5), (L + 1 + 1 + 1 + 1, o4), (L + 1 + 1 + 1, og), (L + 1 + 1, oc), (L + 1, op)] ++ rest), @Ne Nat q.1 C) (hG : ∀ q ∈ (P, listOf vp.toArray ep) :: ([(L + 1 + 1 + 1 + 1 + 1, o5), (L + 1 + 1 + 1 + 1, o4), (L + 1 + 1 + 1, og), (L + 1 + 1, oc), (L + 1, op)] ++ rest), @Ne Nat q.1 G)
    (hSp : (Sp, listOf vsp.toArray esp) ∈ rest) (hts : ∀ p ∈ ts, p ∈ rest) (hE : Els ts vsp (sp.map fun q => El.pair q.1 q.2)) (hsp : sp.length = 6) (hb : ∀ q ∈ sp, 0 ≤ q.1 ∧ q.1 ≤ q.2 ∧ q.2 ≤ 6)
    (hdp : A.depth + 8 < recursionLimit) (hu : A.units + 200 < cLine)
    (hnext : ∀ (h' : Heap) (tk : Nat) (u : Str → Option Value) (vc vg : List Value) (ec eg : Nat), Fr g L h' (fun z => if z = Str.ofString "first" then u z else if z = Str.ofString "last" then u z else if z = Str.ofString "spans" then some (.ref Sp) else m₀ z) →
      News g L h' ((C, listOf vc.toArray ec) :: (G, listOf vg.toArray eg) :: (P, listOf vp.toArray ep) :: ([(L + 1 + 1 + 1 + 1 + 1, o5), (L + 1 + 1 + 1 + 1, o4), (L + 1 + 1 + 1, og), (L + 1 + 1, oc), (L + 1, op)] ++ rest)) → IntsAre vc (comeOf pl sp) → IntsAre vg (goneOf pl sp) →
      Q .next { s with heap := h', toks := tk }) :
    wpAny (model Challenge.rw_re0038_01.row.prog w) A (exec (lBody.getD 10 (.Pass default)) (lEnv L fa cd)) Q (fun _ _ => False) s := by
  revert X
  k_fill
  intro X
  dsimp only [lEnv]
  show wpAny _ _ (exec (.For _ _ _ _ _) _) _ _ _
  refine wpAny_For ?_
  ktr_unf
  have hvl : vsp.length = sp.length := by rw [hE.length, List.length_map]
  have hSn := N _ (.tail _ (.tail _ (.tail _ (List.mem_append_right _ hSp))))
  have els : ∀ (i : Nat) v, vsp[i]? = some v → ∃ q T t u n, sp[i]? = some q ∧ v = .ref T ∧ (T, tup q.1 t q.2 u n) ∈ ts := els_get' hE
  refine for_src (Src.pairs hh ⟨_, hSn.1, rfl, _, rfl⟩ (fun j v hv => by obtain ⟨_, T, _, _, _, _, rfl, _⟩ := els j v (by simpa using hv); exact ⟨T, rfl⟩))
    (fun i m news => ∃ (u : Str → Option Value) (vc vg : List Value) (ec eg : Nat), m = (fun z => if z = Str.ofString "first" then u z else if z = Str.ofString "last" then u z else if z = Str.ofString "spans" then some (.ref Sp) else m₀ z) ∧
      news = ((C, listOf vc.toArray ec) :: (G, listOf vg.toArray eg) :: (P, listOf vp.toArray ep) :: ([(L + 1 + 1 + 1 + 1 + 1, o5), (L + 1 + 1 + 1 + 1, o4), (L + 1 + 1 + 1, og), (L + 1 + 1, oc), (L + 1, op)] ++ rest)) ∧ IntsAre vc (comeOf pl (sp.take i)) ∧ IntsAre vg (goneOf pl (sp.take i)))
    (Fr_junk2 F (fun z _ _ => rfl)) N ⟨_, [], [], _, _, rfl, rfl, .nil, .nil⟩ ?src ?turn ?done
  case src =>
    intro b o hb ho _
    cases hb
    rw [hSn.1] at ho
    cases ho
    refine .inr ?_
    rintro i m news ⟨_, _, _, _, _, _, rfl, _⟩
    exact .tail _ (.tail _ (.tail _ (List.mem_append_right _ hSp)))
  case done =>
    clear N
    rintro m news h tk ⟨u, vc, vg, ec, eg, rfl, rfl, i1, i2⟩ F' N'
    have hsz : vsp.toArray.size = sp.length := by simp [hvl]
    rw [hsz, List.take_length] at i1 i2
    exact hnext h tk u vc vg ec eg F' N' i1 i2
  case turn =>
    clear F N hSn
    rintro i v m news h tk I oI hi hv ⟨u, vc, vg, ec, eg, rfl, rfl, i1, i2⟩ F N off
    obtain ⟨q, T0, t1, t2, n, hq, rfl, hT⟩ := els i v (by simpa using hv)
    obtain ⟨b1, b2, b3⟩ := hb q (List.mem_of_getElem? hq)
    have zT := N (T0, tup q.1 t1 q.2 t2 n) (.tail _ (.tail _ (.tail _ (.tail _ (List.mem_append_right _ (hts _ hT))))))
    have hil : i < sp.length := (List.getElem?_eq_some_iff.mp hq).1
    have lc := i1.length
    have lg := i2.length
    unfold comeOf at lc
    unfold goneOf at lg
    rw [foldl_insR_len (fun q => pl.getD q.1.toNat 0), List.length_take] at lc
    rw [foldl_insR_len (fun q => pl.getD (q.2 + 1).toNat 0), List.length_take] at lg
    refine assign_Tuple_tuple hh (t := T0) (items := #[.int q.1 t1, .int q.2 t2]) ⟨_, zT.1, rfl, _, rfl⟩ rfl rfl fun h5 he => ?_
    have he' : ∀ b o, h.get? b = some o → h5.get? b = some o := fun b o e => he b o (Nat.ne_of_lt (Heap.lt_size e)) e
    have F1 := Fr_le F he'
    have N1 := News_le N he'
    clear F N zT
    show wpAny _ _ (assignInOrder (_ :: _ :: []) (_ :: _ :: [])) _ _ _
    refine assignInOrder_cons ?_
    ktr_unf
    rename Fr _ _ _ _ => F3
    rename News _ _ _ _ => N3
    have offC : C ≠ I := off _ (.head _)
    have offG : G ≠ I := off _ (.tail _ (.head _))
    refine insort_right_C (vs := vc) (n := ec) (ns := comeOf pl (sp.take i)) (X.keeps F3.keep) (T.keeps F3.keep) hh (N3 (C, listOf vc.toArray ec) (.tail _ (.head _))).1 i1 (by rw [← i1.length]; simp at lc; omega) (by omega) (by omega) ?_
    intro h6 tk6 n6 k6 hC6 hi6
    dsimp only at k6 hC6
    obtain ⟨vc', hC6, hi6⟩ : ∃ vc', h6.get? C = some (listOf (List.toArray vc') n6) ∧ IntsAre vc' (insR (comeOf pl (sp.take i)) (pl.getD q.1.toNat 0)) := ⟨_, hC6, hi6⟩
    have zC := N3 (C, listOf vc.toArray ec) (.tail _ (.head _))
    have F5 : Fr g L h6 _ := ⟨F3.ns.at' fun o e => k6 L o (Ne.symm zC.2.1) e, fun b o e => k6 b o (fun q => by rw [q, zC.2.2] at e; cases e) (F3.keep b o e), F3.above⟩
    have N5 : News g L h6 ((I, oI) :: (C, listOf vc'.toArray n6) :: (G, listOf vg.toArray eg) :: (P, listOf vp.toArray ep) :: ([(L + 1 + 1 + 1 + 1 + 1, o5), (L + 1 + 1 + 1 + 1, o4), (L + 1 + 1 + 1, og), (L + 1 + 1, oc), (L + 1, op)] ++ rest)) := by
      intro q hq
      rcases List.mem_cons.mp hq with rfl | hq
      · have z := N3 _ (.head _); exact ⟨k6 _ _ (Ne.symm offC) z.1, z.2⟩
      · rcases List.mem_cons.mp hq with rfl | hq
        · exact ⟨hC6, zC.2⟩
        · rcases List.mem_cons.mp hq with rfl | hq
          · have z := N3 (G, listOf vg.toArray eg) (.tail _ (.tail _ (.head _))); exact ⟨k6 _ _ (Ne.symm hCG) z.1, z.2⟩
          · have z := N3 q (.tail _ (.tail _ (.tail _ hq))); exact ⟨k6 _ _ (hC q hq) z.1, z.2⟩
    clear F3 N3 hC6
    dsimp only
    ktr_unf
    rename Fr _ _ _ _ => F6
    rename News _ _ _ _ => N6
    refine insort_right_C (vs := vg) (n := eg) (ns := goneOf pl (sp.take i)) (X.keeps F6.keep) (T.keeps F6.keep) hh (N6 (G, listOf vg.toArray eg) (.tail _ (.tail _ (.head _)))).1 i2 (by rw [← i2.length]; simp at lg; omega) (by omega) (by omega) ?_
    intro h7 tk7 n7 k7 hG7 hi7
    dsimp only at k7 hG7
    obtain ⟨vg', hG7, hi7⟩ : ∃ vg', h7.get? G = some (listOf (List.toArray vg') n7) ∧ IntsAre vg' (insR (goneOf pl (sp.take i)) (pl.getD (q.2 + 1).toNat 0)) := ⟨_, hG7, hi7⟩
    have zG := N6 (G, listOf vg.toArray eg) (.tail _ (.tail _ (.head _)))
    have F8 : Fr g L h7 _ := ⟨F6.ns.at' fun o e => k7 L o (Ne.symm zG.2.1) e, fun b o e => k7 b o (fun q => by rw [q, zG.2.2] at e; cases e) (F6.keep b o e), F6.above⟩
    have N8 : News g L h7 ((I, oI) :: (C, listOf vc'.toArray n6) :: (G, listOf vg'.toArray n7) :: (P, listOf vp.toArray ep) :: ([(L + 1 + 1 + 1 + 1 + 1, o5), (L + 1 + 1 + 1 + 1, o4), (L + 1 + 1 + 1, og), (L + 1 + 1, oc), (L + 1, op)] ++ rest)) := by
      intro q hq
      rcases List.mem_cons.mp hq with rfl | hq
      · have z := N6 _ (.head _); exact ⟨k7 _ _ (Ne.symm offG) z.1, z.2⟩
      · rcases List.mem_cons.mp hq with rfl | hq
        · have z := N6 _ (.tail _ (.head _)); exact ⟨k7 _ _ hCG z.1, z.2⟩
        · rcases List.mem_cons.mp hq with rfl | hq
          · exact ⟨hG7, zG.2⟩
          · have z := N6 q (.tail _ (.tail _ (.tail _ hq))); exact ⟨k7 _ _ (hG q hq) z.1, z.2⟩
    clear F6 N6 hG7
    dsimp only
    ktr_unf
    refine TurnEnd.next (Fr_junk2 F8 (fun z h1 h2 => by simp only [if_neg h1, if_neg h2])) N8 ?_ ⟨_, _, _, n6, n7, rfl, rfl, ?_, ?_⟩
    · intro q hq
      rcases List.mem_cons.mp hq with rfl | hq
      · exact offC
      · rcases List.mem_cons.mp hq with rfl | hq
        · exact offG
        · exact off q (.tail _ (.tail _ hq))
    · rw [List.take_add_one, hq, Option.toList_some]
      unfold comeOf
      rw [List.foldl_append]
      exact hi6
    · rw [List.take_add_one, hq, Option.toList_some]
      unfold goneOf
      rw [List.foldl_append]
      exact hi7
end Mine
end

-- part LawH
section
open PySem PySem.W PySem.Calls PyProof.Rows
set_option maxRecDepth 100000
set_option maxHeartbeats 8000000
namespace Mine
local macro_rules | `(tactic| ktr_unf) => `(tactic| repeat' (first | (k_unfold; (try dsimp only)) | ((fail_if_success (with_reducible show wpAny _ _ (call (Value.ref 89) _ _) _ _ _)); (fail_if_success (with_reducible show wpAny _ _ (call (Value.ref 94) _ _) _ _ _)); (fail_if_success (with_reducible show wpAny _ _ (call (Value.ref 82) _ _) _ _ _)); (fail_if_success (with_reducible show wpAny _ _ (call (Value.ref 101) _ _) _ _ _)); (fail_if_success (with_reducible show wpAny _ _ (call (Value.ref 106) _ _) _ _ _)); (fail_if_success (with_reducible show wpAny _ _ (call (Value.ref 111) _ _) _ _ _)); (fail_if_success (with_reducible show wpAny _ _ (call (Value.ref 40) _ _) _ _ _)); (fail_if_success (with_reducible show wpAny _ _ (call (Value.ref 49) _ _) _ _ _)); (fail_if_success (with_reducible show wpAny _ _ (call (Value.ref 58) _ _) _ _ _)); (fail_if_success (with_reducible show wpAny _ _ (call (Value.builtin "str.join") _ _) _ _ _)); (fail_if_success (with_reducible show wpAny _ _ (eval (Expr.ListComp _ _ _ _) _) _ _ _)); (fail_if_success (with_reducible show wpAny _ _ (exec (Stmt.For _ _ _ _ _) _) _ _ _)); (fail_if_success (with_reducible show wpAny _ _ (storeName _ (Str.ofString "places") _) _ _ _)); (fail_if_success (with_reducible show wpAny _ _ (storeName _ (Str.ofString "come") _) _ _ _)); (fail_if_success (with_reducible show wpAny _ _ (storeName _ (Str.ofString "gone") _) _ _ _)); (fail_if_success (with_reducible show wpAny _ _ (storeName _ (Str.ofString "left") _) _ _ _)); (fail_if_success (with_reducible show wpAny _ _ (storeName _ (Str.ofString "right") _) _ _ _)); first | walk1 | (dsimp only; walk1)) | fail "no step"))
local macro_rules | `(tactic| walk_at "eval Name") => `(tactic| (k_here; (with_reducible show wpAny _ _ (eval (Expr.Name _ _) (compEnvC _ _ _ _)) _ _ _); k_dflt (first
  | refine LCgL.ld_own (by k_asm) (by k_mem) (by assumption) (by assumption) ?_
  | refine glob_name (by k_asm) (by k_asm) (by k_asm) (by k_is) ?_
  | refine built_name (by k_asm) (by k_asm) (by k_asm) (by k_is) (by boot_by_name) (by decide) ?_)))
local macro_rules | `(tactic| walk_at "call builtin:min") => `(tactic| (k_here; (with_reducible show wpAny _ _ (call (Value.builtin _) [Value.int _ _, Value.int _ _]) _ _ _); k_dflt (refine' min_two_N ?hh ?F ?N ?_); (case hh => first | rfl | assumption); (case F => k_asm); (case N => k_asm); intro h' tk' F' N'))

def ranksOf (cl : List Int) : List Int := cl.map fun c => (spotL (cl.foldl keep1 []) c : Int)
def manyOf (cl : List Int) : Nat := (cl.foldl keep1 []).length
def leftOf (lg pl : List Int) (sp : List (Int × Int)) : List Int := sp.map fun q => (spotR lg (pl.getD q.1.toNat 0) : Int)
theorem range_map_getD {α β : Type} (d : α) (f : α → β) (cs : List α) : (List.range cs.length).map (fun i => f (cs.getD i d)) = cs.map f := by
  apply List.ext_getElem
  · simp
  · intro i h1 h2
    simp at h1
    simp [List.getElem?_eq_getElem h1]
def rightOf (lc pl : List Int) (sp : List (Int × Int)) : List Int := sp.map fun q => (spotL lc (pl.getD (q.2 + 1).toNat 0) : Int)

theorem law_left {w : World} {p : Program} {loose : List Str} {mg mb : Str → Option Value} {A : Around} {s : Shared} {Q : Flow → Shared → Prop}
    {g : Heap} {L P C G Sp : Nat} {fa : Addr} {cd : Value} {m₀ : Str → Option Value} {rest ts : List (Addr × Obj)} {op oc og o4 o5 : Obj} {vp vsp vc vg : List Value} {ep esp ec eg : Nat} {pl lc lg : List Int} {sp : List (Int × Int)} {x4 x5 : Option Value}
    (X : (hd.heap_39 w.params).In g) (T : TopRead p loose mg mb g) (hh : A.handled = none)
    (F : Fr g L s.heap m₀) (hm : m₀ (Str.ofString "spans") = some (.ref Sp))
    (N : News g L s.heap ((C, listOf vc.toArray ec) :: (G, listOf vg.toArray eg) :: (P, listOf vp.toArray ep) :: ([(L + 1 + 1 + 1 + 1 + 1, o5), (L + 1 + 1 + 1 + 1, o4), (L + 1 + 1 + 1, og), (L + 1 + 1, oc), (L + 1, op)] ++ rest)))
    (hip : IntsAre vp pl) (hpl : pl.length = 8) (hic : IntsAre vc lc) (hig : IntsAre vg lg) (hlc : lc.length = 6) (hlg : lg.length = 6)
    (dp : op.data = .cell (some (.ref P))) (dc : oc.data = .cell (some (.ref C))) (dg : og.data = .cell (some (.ref G))) (d4 : o4.data = .cell x4) (d5 : o5.data = .cell x5)
    (hnc : NC L ((C, listOf vc.toArray ec) :: (G, listOf vg.toArray eg) :: (P, listOf vp.toArray ep) :: rest))
    (hSp : (Sp, listOf vsp.toArray esp) ∈ rest) (hts : ∀ p ∈ ts, p ∈ rest) (hE : Els ts vsp (sp.map fun q => El.pair q.1 q.2)) (hsp : sp.length = 6) (hb : ∀ q ∈ sp, 0 ≤ q.1 ∧ q.1 ≤ q.2 ∧ q.2 ≤ 6)
    (hdp : A.depth + 8 < recursionLimit) (hu : A.units + 200 < cLine)
    (hnext : ∀ (h' : Heap) (tk : Nat) (t : Tok) (Dl : Nat) (vl : List Value) (el : Nat) (ol : Obj), Fr g L h' (fun z => if z = Str.ofString "many" then some (.int ((manyOf (leftOf lg pl sp) : Nat) : Int) t) else m₀ z) →
      News g L h' ((C, listOf vc.toArray ec) :: (G, listOf vg.toArray eg) :: (P, listOf vp.toArray ep) :: ([(L + 1 + 1 + 1 + 1 + 1, o5), (L + 1 + 1 + 1 + 1, ol), (L + 1 + 1 + 1, og), (L + 1 + 1, oc), (L + 1, op)] ++ ((Dl, listOf vl.toArray el) :: rest))) → ol.data = .cell (some (.ref Dl)) → IntsAre vl (ranksOf (leftOf lg pl sp)) →
      NC L ((C, listOf vc.toArray ec) :: (G, listOf vg.toArray eg) :: (P, listOf vp.toArray ep) :: ((Dl, listOf vl.toArray el) :: rest)) → Q .next { s with heap := h', toks := tk }) :
    wpAny (model Challenge.rw_re0038_01.row.prog w) A (exec (lBody.getD 11 (.Pass default)) (lEnv L fa cd)) Q (fun _ _ => False) s := by
  revert X
  k_fill
  intro X
  dsimp only [lEnv]
  show wpAny _ _ (exec (.Assign _ _ _) _) _ _ _
  ktr_unf
  refine' lc_eval (cl := ?cl) ?hcl rfl ?hnm ?_ (fun _ => rfl)
  case hcl => exact rfl
  case hnm => decide
  refine wpAny_Name (wpAny_loadName_local rfl rfl F.ns hm ?_) (by decide)
  have hvl : vsp.length = sp.length := by rw [hE.length, List.length_map]
  have hSn := N _ (.tail _ (.tail _ (.tail _ (List.mem_append_right _ hSp))))
  have els : ∀ (i : Nat) v, vsp[i]? = some v → ∃ q T t u n, sp[i]? = some q ∧ v = .ref T ∧ (T, tup q.1 t q.2 u n) ∈ ts := els_get' hE
  refine LcGo.mk (fun _ => true) (fun j => .int ((spotR lg (pl.getD ((sp.getD j (0, 0)).1.toNat) 0) : Nat) : Int)) F N
    (Src.pairs hh ⟨_, hSn.1, rfl, _, rfl⟩ (fun j v hv => by obtain ⟨_, T, _, _, _, _, rfl, _⟩ := els j v (by simpa using hv); exact ⟨T, rfl⟩)) (by rw [List.size_toArray, hvl, hsp]; decide)
    (fun s₂ I2 hle hI => blkPair (V := fun j v1 v2 => ∃ q t u, sp[j]? = some q ∧ v1 = .int q.1 t ∧ v2 = .int q.2 u) hh (by decide) rfl rfl rfl (by decide) (fun j v hv => by
      obtain ⟨q, T, t, u, n, h1, rfl, hm⟩ := els j v (by simpa using hv)
      have z := N _ (.tail _ (.tail _ (.tail _ (List.mem_append_right _ (hts _ hm)))))
      exact ⟨T, _, _, rfl, Ne.symm (ne_of_get hI z.1), z.2.1, ⟨_, hle _ _ z.1, rfl, _, rfl⟩, q, t, u, h1, rfl, rfl⟩)) ?tests ?elts ?fin
  case tests =>
    intro C i own h tk E' b o hi hB F2 N2 hle
    exact wpAny_pure ⟨rfl, ⟨_, _, rfl⟩, F2, (N2 _ (.head _)).1⟩
  case elts =>
    rintro C' j own h tk E' b o hj _ ⟨oC, m, v1, v2, rfl, hC', ⟨q, t1, t2, hq, rfl, rfl⟩, hx, hy⟩ F2 N2 hle
    clear F N hSn
    obtain ⟨b1, b2, b3⟩ := hb q (List.mem_of_getElem? hq)
    simp only [List.cons_append, List.nil_append] at N2
    ktr_unf
    rename Fr _ _ _ _ => F3
    rename News _ _ _ _ => N3
    refine bisect_right_C (vs := vg) (n := eg) (ns := lg) (t0 := 297) (.inl ⟨rfl, rfl⟩) (X.keeps F3.keep) (T.keeps F3.keep) hh (N3 (G, listOf vg.toArray eg) (by repeat (first | exact List.Mem.head _ | apply List.Mem.tail | apply List.mem_append_right))).1 hig (by omega) (by omega) (by omega) ?_
    intro t3 h3 tk3 k3
    dsimp only at k3
    have F4 := Fr_le F3 k3
    have N4 := News_le N3 k3
    refine ⟨stay_of F4 N4 (.head _) ⟨_, _, rfl⟩, t3, ?_⟩
    have eq : sp.getD j (0, 0) = q := by rw [List.getD_eq_getElem?_getD, hq]; rfl
    rw [eq]
    rfl
  case fin =>
    intro s₂ D h2 tk2 ys ts2 ep2 es hD hk F2 N2 hE2
    subst es
    have hst := Els.ints' hE2
    rw [List.filter_eq_self.mpr (fun _ _ => rfl), List.size_toArray, hvl, range_map_getD ((0, 0) : Int × Int) (fun q : Int × Int => ((spotR lg (pl.getD (q.1.toNat) 0) : Nat) : Int))] at hst
    have N3 : News g L h2 ((D, listOf ys.toArray ep2) :: ((C, listOf vc.toArray ec) :: (G, listOf vg.toArray eg) :: (P, listOf vp.toArray ep) :: ([(L + 1 + 1 + 1 + 1 + 1, o5), (L + 1 + 1 + 1 + 1, o4), (L + 1 + 1 + 1, og), (L + 1 + 1, oc), (L + 1, op)] ++ rest))) := fun q hq => by
      rcases List.mem_cons.mp hq with rfl | hq
      · exact N2 _ (.head _)
      · exact N2 _ (.tail _ (List.mem_append_right _ hq))
    clear F N hSn N2 hE2 hk
    ktr_unf
    refine ranks_C (vc := ys) (ns := leftOf lg pl sp) (X.keeps F2.keep) (T.keeps F2.keep) hh (N3 _ (.head _)).1 hst (by unfold leftOf; rw [List.length_map, hsp]; exact Nat.le_refl _) (by omega) (by omega) ?_
    intro h4 tk4 Dl T4 vl el n4 t4 k4 hDl hT4 hne hDl4 hil hT44
    dsimp only at k4 hDl hT4
    have F4 := Fr_le F2 k4
    have N4 := News_le N3 k4
    have newc := fun (b : Nat) (e : h2.get? b = none) => NC.new (N3 (L + 1, op) (by repeat (first | exact List.Mem.head _ | apply List.Mem.tail | apply List.mem_append_right))).1 (N3 (L + 1 + 1, oc) (by repeat (first | exact List.Mem.head _ | apply List.Mem.tail | apply List.mem_append_right))).1 (N3 (L + 1 + 1 + 1, og) (by repeat (first | exact List.Mem.head _ | apply List.Mem.tail | apply List.mem_append_right))).1 (N3 (L + 1 + 1 + 1 + 1, o4) (by repeat (first | exact List.Mem.head _ | apply List.Mem.tail | apply List.mem_append_right))).1 (N3 (L + 1 + 1 + 1 + 1 + 1, o5) (by repeat (first | exact List.Mem.head _ | apply List.Mem.tail | apply List.mem_append_right))).1 e
    have nDl := newc Dl hDl
    have zDl : (Dl : Nat) ≠ L ∧ g.get? Dl = none := by
      obtain ⟨oL, _, _, hoL, _⟩ := F2.ns
      exact ⟨ne_of_get hDl hoL, none_of_le F2.keep hDl⟩
    clear F2 N3 newc
    refine assign_Tuple_tuple hh (t := T4) (items := #[.ref Dl, .int _ t4]) ⟨_, hT44, rfl, _, rfl⟩ rfl rfl fun h5 he => ?_
    have he' : Le h4 h5 := fun b o e => he b o (Nat.ne_of_lt (Heap.lt_size e)) e
    have F5 := Fr_le F4 he'
    have N5 : News g L h5 ((Dl, listOf vl.toArray el) :: ((C, listOf vc.toArray ec) :: (G, listOf vg.toArray eg) :: (P, listOf vp.toArray ep) :: ([(L + 1 + 1 + 1 + 1 + 1, o5), (L + 1 + 1 + 1 + 1, o4), (L + 1 + 1 + 1, og), (L + 1 + 1, oc), (L + 1, op)] ++ rest))) := fun q hq => by
      rcases List.mem_cons.mp hq with rfl | hq
      · exact ⟨he' _ _ hDl4, zDl⟩
      · exact News_le N4 he' q (.tail _ hq)
    clear F4 N4 he he' hT44 hDl4 k4
    show wpAny _ _ (assignInOrder (_ :: _ :: []) (_ :: _ :: [])) _ _ _
    refine assignInOrder_cons ?_
    refine wpAny_assign_Name ?_
    refine st_cell rfl rfl rfl F5 N5 (by simp) d4 ?_
    intro h6 ol dl F6 k6 N6
    have N7 := news_swap ((Dl, listOf vl.toArray el) :: (C, listOf vc.toArray ec) :: (G, listOf vg.toArray eg) :: (P, listOf vp.toArray ep) :: [(L + 1 + 1 + 1 + 1 + 1, o5)]) ([(L + 1 + 1 + 1, og), (L + 1 + 1, oc), (L + 1, op)] ++ rest) k6 N6 (by
      intro q hq
      rcases List.mem_cons.mp hq with rfl | hq
      · exact nDl.2.2.2.1
      · rcases List.mem_cons.mp hq with rfl | hq
        · exact (hnc _ (.head _)).2.2.2.1
        · rcases List.mem_cons.mp hq with rfl | hq
          · exact (hnc _ (.tail _ (.head _))).2.2.2.1
          · rcases List.mem_cons.mp hq with rfl | hq
            · exact (hnc _ (.tail _ (.tail _ (.head _)))).2.2.2.1
            · simp only [List.mem_cons, List.not_mem_nil, or_false] at hq; subst hq; dsimp only; omega) (fun q hq => by
      rcases List.mem_append.mp hq with hq | hq
      · simp only [List.mem_cons, List.not_mem_nil, or_false] at hq
        rcases hq with rfl | rfl | rfl <;> (dsimp only; omega)
      · exact (hnc q (.tail _ (.tail _ (.tail _ hq)))).2.2.2.1)
    clear F5 N5 N6 k6
    refine assignInOrder_cons ?_
    ktr_unf
    rename Fr _ _ _ _ => F8
    rename News _ _ _ _ => N8
    refine hnext _ _ t4 Dl vl el ol F8 (fun q hq => N8 q ?_) dl hil ?_
    · refine mem_sub hq ?_
      repeat' (first | exact List.Subset.refl _ | exact List.nil_subset _ | refine cons_sub (by repeat (first | exact List.Mem.head _ | apply List.Mem.tail | apply List.mem_append_right)) ?_ | apply skip_sub)
    · exact NC.cons (hnc _ (.head _)) (NC.cons (hnc _ (.tail _ (.head _))) (NC.cons (hnc _ (.tail _ (.tail _ (.head _)))) (NC.cons nDl fun q hq => hnc q (.tail _ (.tail _ (.tail _ hq))))))

theorem law_right {w : World} {p : Program} {loose : List Str} {mg mb : Str → Option Value} {A : Around} {s : Shared} {Q : Flow → Shared → Prop}
    {g : Heap} {L P C G Sp : Nat} {fa : Addr} {cd : Value} {m₀ : Str → Option Value} {rest ts : List (Addr × Obj)} {op oc og o4 o5 : Obj} {vp vsp vc vg : List Value} {ep esp ec eg : Nat} {pl lc lg : List Int} {sp : List (Int × Int)} {x4 x5 : Option Value}
    (X : (hd.heap_39 w.params).In g) (T : TopRead p loose mg mb g) (hh : A.handled = none)
    (F : Fr g L s.heap m₀) (hm : m₀ (Str.ofString "spans") = some (.ref Sp))
    (N : News g L s.heap ((C, listOf vc.toArray ec) :: (G, listOf vg.toArray eg) :: (P, listOf vp.toArray ep) :: ([(L + 1 + 1 + 1 + 1 + 1, o5), (L + 1 + 1 + 1 + 1, o4), (L + 1 + 1 + 1, og), (L + 1 + 1, oc), (L + 1, op)] ++ rest)))
    (hip : IntsAre vp pl) (hpl : pl.length = 8) (hic : IntsAre vc lc) (hig : IntsAre vg lg) (hlc : lc.length = 6) (hlg : lg.length = 6)
    (dp : op.data = .cell (some (.ref P))) (dc : oc.data = .cell (some (.ref C))) (dg : og.data = .cell (some (.ref G))) (d4 : o4.data = .cell x4) (d5 : o5.data = .cell x5)
    (hnc : NC L ((C, listOf vc.toArray ec) :: (G, listOf vg.toArray eg) :: (P, listOf vp.toArray ep) :: rest))
    (hSp : (Sp, listOf vsp.toArray esp) ∈ rest) (hts : ∀ p ∈ ts, p ∈ rest) (hE : Els ts vsp (sp.map fun q => El.pair q.1 q.2)) (hsp : sp.length = 6) (hb : ∀ q ∈ sp, 0 ≤ q.1 ∧ q.1 ≤ q.2 ∧ q.2 ≤ 6)
    (hdp : A.depth + 8 < recursionLimit) (hu : A.units + 200 < cLine)
    (hnext : ∀ (h' : Heap) (tk : Nat) (t : Tok) (Dl : Nat) (vl : List Value) (el : Nat) (or' : Obj), Fr g L h' (fun z => if z = Str.ofString "more" then some (.int ((manyOf (rightOf lc pl sp) : Nat) : Int) t) else m₀ z) →
      News g L h' ((C, listOf vc.toArray ec) :: (G, listOf vg.toArray eg) :: (P, listOf vp.toArray ep) :: ([(L + 1 + 1 + 1 + 1 + 1, or'), (L + 1 + 1 + 1 + 1, o4), (L + 1 + 1 + 1, og), (L + 1 + 1, oc), (L + 1, op)] ++ ((Dl, listOf vl.toArray el) :: rest))) → or'.data = .cell (some (.ref Dl)) → IntsAre vl (ranksOf (rightOf lc pl sp)) →
      NC L ((C, listOf vc.toArray ec) :: (G, listOf vg.toArray eg) :: (P, listOf vp.toArray ep) :: ((Dl, listOf vl.toArray el) :: rest)) → Q .next { s with heap := h', toks := tk }) :
    wpAny (model Challenge.rw_re0038_01.row.prog w) A (exec (lBody.getD 12 (.Pass default)) (lEnv L fa cd)) Q (fun _ _ => False) s := by
  revert X
  k_fill
  intro X
  dsimp only [lEnv]
  show wpAny _ _ (exec (.Assign _ _ _) _) _ _ _
  ktr_unf
  refine' lc_eval (cl := ?cl) ?hcl rfl ?hnm ?_ (fun _ => rfl)
  case hcl => exact rfl
  case hnm => decide
  refine wpAny_Name (wpAny_loadName_local rfl rfl F.ns hm ?_) (by decide)
  have hvl : vsp.length = sp.length := by rw [hE.length, List.length_map]
  have hSn := N _ (.tail _ (.tail _ (.tail _ (List.mem_append_right _ hSp))))
  have els : ∀ (i : Nat) v, vsp[i]? = some v → ∃ q T t u n, sp[i]? = some q ∧ v = .ref T ∧ (T, tup q.1 t q.2 u n) ∈ ts := els_get' hE
  refine LcGo.mk (fun _ => true) (fun j => .int ((spotL lc (pl.getD (((sp.getD j (0, 0)).2 + 1).toNat) 0) : Nat) : Int)) F N
    (Src.pairs hh ⟨_, hSn.1, rfl, _, rfl⟩ (fun j v hv => by obtain ⟨_, T, _, _, _, _, rfl, _⟩ := els j v (by simpa using hv); exact ⟨T, rfl⟩)) (by rw [List.size_toArray, hvl, hsp]; decide)
    (fun s₂ I2 hle hI => blkPair (V := fun j v1 v2 => ∃ q t u, sp[j]? = some q ∧ v1 = .int q.1 t ∧ v2 = .int q.2 u) hh (by decide) rfl rfl rfl (by decide) (fun j v hv => by
      obtain ⟨q, T, t, u, n, h1, rfl, hm⟩ := els j v (by simpa using hv)
      have z := N _ (.tail _ (.tail _ (.tail _ (List.mem_append_right _ (hts _ hm)))))
      exact ⟨T, _, _, rfl, Ne.symm (ne_of_get hI z.1), z.2.1, ⟨_, hle _ _ z.1, rfl, _, rfl⟩, q, t, u, h1, rfl, rfl⟩)) ?tests ?elts ?fin
  case tests =>
    intro C i own h tk E' b o hi hB F2 N2 hle
    exact wpAny_pure ⟨rfl, ⟨_, _, rfl⟩, F2, (N2 _ (.head _)).1⟩
  case elts =>
    rintro C' j own h tk E' b o hj _ ⟨oC, m, v1, v2, rfl, hC', ⟨q, t1, t2, hq, rfl, rfl⟩, hx, hy⟩ F2 N2 hle
    clear F N hSn
    obtain ⟨b1, b2, b3⟩ := hb q (List.mem_of_getElem? hq)
    simp only [List.cons_append, List.nil_append] at N2
    ktr_unf
    rename Fr _ _ _ _ => F3
    rename News _ _ _ _ => N3
    refine bisect_left_C (vs := vc) (n := ec) (ns := lc) (t0 := 311) (.inl ⟨rfl, rfl⟩) (X.keeps F3.keep) (T.keeps F3.keep) hh (N3 (C, listOf vc.toArray ec) (by repeat (first | exact List.Mem.head _ | apply List.Mem.tail | apply List.mem_append_right))).1 hic (by omega) (by omega) (by omega) ?_
    intro t3 h3 tk3 k3
    dsimp only at k3
    have F4 := Fr_le F3 k3
    have N4 := News_le N3 k3
    refine ⟨stay_of F4 N4 (.head _) ⟨_, _, rfl⟩, t3, ?_⟩
    have eq : sp.getD j (0, 0) = q := by rw [List.getD_eq_getElem?_getD, hq]; rfl
    rw [eq]
    rfl
  case fin =>
    intro s₂ D h2 tk2 ys ts2 ep2 es hD hk F2 N2 hE2
    subst es
    have hst := Els.ints' hE2
    rw [List.filter_eq_self.mpr (fun _ _ => rfl), List.size_toArray, hvl, range_map_getD ((0, 0) : Int × Int) (fun q : Int × Int => ((spotL lc (pl.getD ((q.2 + 1).toNat) 0) : Nat) : Int))] at hst
    have N3 : News g L h2 ((D, listOf ys.toArray ep2) :: ((C, listOf vc.toArray ec) :: (G, listOf vg.toArray eg) :: (P, listOf vp.toArray ep) :: ([(L + 1 + 1 + 1 + 1 + 1, o5), (L + 1 + 1 + 1 + 1, o4), (L + 1 + 1 + 1, og), (L + 1 + 1, oc), (L + 1, op)] ++ rest))) := fun q hq => by
      rcases List.mem_cons.mp hq with rfl | hq
      · exact N2 _ (.head _)
      · exact N2 _ (.tail _ (List.mem_append_right _ hq))
    clear F N hSn N2 hE2 hk
    ktr_unf
    refine ranks_C (vc := ys) (ns := rightOf lc pl sp) (X.keeps F2.keep) (T.keeps F2.keep) hh (N3 _ (.head _)).1 hst (by unfold rightOf; rw [List.length_map, hsp]; exact Nat.le_refl _) (by omega) (by omega) ?_
    intro h4 tk4 Dl T4 vl el n4 t4 k4 hDl hT4 hne hDl4 hil hT44
    dsimp only at k4 hDl hT4
    have F4 := Fr_le F2 k4
    have N4 := News_le N3 k4
    have newc := fun (b : Nat) (e : h2.get? b = none) => NC.new (N3 (L + 1, op) (by repeat (first | exact List.Mem.head _ | apply List.Mem.tail | apply List.mem_append_right))).1 (N3 (L + 1 + 1, oc) (by repeat (first | exact List.Mem.head _ | apply List.Mem.tail | apply List.mem_append_right))).1 (N3 (L + 1 + 1 + 1, og) (by repeat (first | exact List.Mem.head _ | apply List.Mem.tail | apply List.mem_append_right))).1 (N3 (L + 1 + 1 + 1 + 1, o4) (by repeat (first | exact List.Mem.head _ | apply List.Mem.tail | apply List.mem_append_right))).1 (N3 (L + 1 + 1 + 1 + 1 + 1, o5) (by repeat (first | exact List.Mem.head _ | apply List.Mem.tail | apply List.mem_append_right))).1 e
    have nDl := newc Dl hDl
    have zDl : (Dl : Nat) ≠ L ∧ g.get? Dl = none := by
      obtain ⟨oL, _, _, hoL, _⟩ := F2.ns
      exact ⟨ne_of_get hDl hoL, none_of_le F2.keep hDl⟩
    clear F2 N3 newc
    refine assign_Tuple_tuple hh (t := T4) (items := #[.ref Dl, .int _ t4]) ⟨_, hT44, rfl, _, rfl⟩ rfl rfl fun h5 he => ?_
    have he' : Le h4 h5 := fun b o e => he b o (Nat.ne_of_lt (Heap.lt_size e)) e
    have F5 := Fr_le F4 he'
    have N5 : News g L h5 ((Dl, listOf vl.toArray el) :: ((C, listOf vc.toArray ec) :: (G, listOf vg.toArray eg) :: (P, listOf vp.toArray ep) :: ([(L + 1 + 1 + 1 + 1 + 1, o5), (L + 1 + 1 + 1 + 1, o4), (L + 1 + 1 + 1, og), (L + 1 + 1, oc), (L + 1, op)] ++ rest))) := fun q hq => by
      rcases List.mem_cons.mp hq with rfl | hq
      · exact ⟨he' _ _ hDl4, zDl⟩
      · exact News_le N4 he' q (.tail _ hq)
    clear F4 N4 he he' hT44 hDl4 k4
    show wpAny _ _ (assignInOrder (_ :: _ :: []) (_ :: _ :: [])) _ _ _
    refine assignInOrder_cons ?_
    refine wpAny_assign_Name ?_
    refine st_cell rfl rfl rfl F5 N5 (by simp) d5 ?_
    intro h6 or' dl F6 k6 N6
    have N7 := news_swap ((Dl, listOf vl.toArray el) :: (C, listOf vc.toArray ec) :: (G, listOf vg.toArray eg) :: (P, listOf vp.toArray ep) :: []) ([(L + 1 + 1 + 1 + 1, o4), (L + 1 + 1 + 1, og), (L + 1 + 1, oc), (L + 1, op)] ++ rest) k6 N6 (by
      intro q hq
      rcases List.mem_cons.mp hq with rfl | hq
      · exact nDl.2.2.2.2
      · rcases List.mem_cons.mp hq with rfl | hq
        · exact (hnc _ (.head _)).2.2.2.2
        · rcases List.mem_cons.mp hq with rfl | hq
          · exact (hnc _ (.tail _ (.head _))).2.2.2.2
          · rcases List.mem_cons.mp hq with rfl | hq
            · exact (hnc _ (.tail _ (.tail _ (.head _)))).2.2.2.2
            · nomatch hq) (fun q hq => by
      rcases List.mem_append.mp hq with hq | hq
      · simp only [List.mem_cons, List.not_mem_nil, or_false] at hq
        rcases hq with rfl | rfl | rfl | rfl <;> (dsimp only; omega)
      · exact (hnc q (.tail _ (.tail _ (.tail _ hq)))).2.2.2.2)
    clear F5 N5 N6 k6
    refine assignInOrder_cons ?_
    ktr_unf
    rename Fr _ _ _ _ => F8
    rename News _ _ _ _ => N8
    refine hnext _ _ t4 Dl vl el or' F8 (fun q hq => N8 q ?_) dl hil ?_
    · refine mem_sub hq ?_
      repeat' (first | exact List.Subset.refl _ | exact List.nil_subset _ | refine cons_sub (by repeat (first | exact List.Mem.head _ | apply List.Mem.tail | apply List.mem_append_right)) ?_ | apply skip_sub)
    · exact NC.cons (hnc _ (.head _)) (NC.cons (hnc _ (.tail _ (.head _))) (NC.cons (hnc _ (.tail _ (.tail _ (.head _)))) (NC.cons nDl fun q hq => hnc q (.tail _ (.tail _ (.tail _ hq))))))
end Mine
end

-- part LawI
section
open PySem PySem.W PySem.Calls PyProof.Rows
set_option maxRecDepth 100000
set_option maxHeartbeats 8000000
namespace Mine
local macro_rules | `(tactic| ktr_unf) => `(tactic| repeat' (first | (k_unfold; (try dsimp only)) | ((fail_if_success (with_reducible show wpAny _ _ (call (Value.ref 89) _ _) _ _ _)); (fail_if_success (with_reducible show wpAny _ _ (call (Value.ref 94) _ _) _ _ _)); (fail_if_success (with_reducible show wpAny _ _ (call (Value.ref 82) _ _) _ _ _)); (fail_if_success (with_reducible show wpAny _ _ (call (Value.ref 101) _ _) _ _ _)); (fail_if_success (with_reducible show wpAny _ _ (call (Value.ref 106) _ _) _ _ _)); (fail_if_success (with_reducible show wpAny _ _ (call (Value.ref 111) _ _) _ _ _)); (fail_if_success (with_reducible show wpAny _ _ (call (Value.ref 40) _ _) _ _ _)); (fail_if_success (with_reducible show wpAny _ _ (call (Value.ref 49) _ _) _ _ _)); (fail_if_success (with_reducible show wpAny _ _ (call (Value.ref 58) _ _) _ _ _)); (fail_if_success (with_reducible show wpAny _ _ (call (Value.builtin "str.join") _ _) _ _ _)); (fail_if_success (with_reducible show wpAny _ _ (eval (Expr.ListComp _ _ _ _) _) _ _ _)); (fail_if_success (with_reducible show wpAny _ _ (exec (Stmt.For _ _ _ _ _) _) _ _ _)); (fail_if_success (with_reducible show wpAny _ _ (storeName _ (Str.ofString "places") _) _ _ _)); (fail_if_success (with_reducible show wpAny _ _ (storeName _ (Str.ofString "come") _) _ _ _)); (fail_if_success (with_reducible show wpAny _ _ (storeName _ (Str.ofString "gone") _) _ _ _)); (fail_if_success (with_reducible show wpAny _ _ (storeName _ (Str.ofString "left") _) _ _ _)); (fail_if_success (with_reducible show wpAny _ _ (storeName _ (Str.ofString "right") _) _ _ _)); first | walk1 | (dsimp only; walk1)) | fail "no step"))
local macro_rules | `(tactic| walk_at "eval Name") => `(tactic| (k_here; (with_reducible show wpAny _ _ (eval (Expr.Name _ _) (compEnvC _ _ _ _)) _ _ _); k_dflt (first
  | refine LCgL.ld_own (by k_asm) (by k_mem) (by assumption) (by assumption) ?_
  | refine glob_name (by k_asm) (by k_asm) (by k_asm) (by k_is) ?_
  | refine built_name (by k_asm) (by k_asm) (by k_asm) (by k_is) (by boot_by_name) (by decide) ?_)))
local macro_rules | `(tactic| walk_at "call builtin:min") => `(tactic| (k_here; (with_reducible show wpAny _ _ (call (Value.builtin _) [Value.int _ _, Value.int _ _]) _ _ _); k_dflt (refine' min_two_N ?hh ?F ?N ?_); (case hh => first | rfl | assumption); (case F => k_asm); (case N => k_asm); intro h' tk' F' N'))

def inGroup (ll rl : List Int) (h i : Nat) : Bool := decide (ll.getD i 0 ≤ (h : Int)) && decide ((h : Int) ≤ rl.getD i 0)
def groupOf (ll rl : List Int) (h : Nat) : Int := (((List.range 6).filter (inGroup ll rl h)).map fun j => ((2 ^ j : Nat) : Int)).sum
theorem law_groups {w : World} {p : Program} {loose : List Str} {mg mb : Str → Option Value} {A : Around} {s : Shared} {Q : Flow → Shared → Prop}
    {g : Heap} {L Dl Dr k : Nat} {fa : Addr} {cd : Value} {m₀ : Str → Option Value} {rest : List (Addr × Obj)} {ol or' : Obj} {vl vr : List Value} {el er : Nat} {ll rl : List Int} {t : Tok}
    (X : (hd.heap_39 w.params).In g) (T : TopRead p loose mg mb g) (hh : A.handled = none)
    (F : Fr g L s.heap m₀) (hm : m₀ (Str.ofString "many") = some (.int (k : Int) t))
    (N : News g L s.heap ((Dl, listOf vl.toArray el) :: (Dr, listOf vr.toArray er) :: (L + 1 + 1 + 1 + 1 + 1, or') :: (L + 1 + 1 + 1 + 1, ol) :: rest))
    (hil : IntsAre vl ll) (hir : IntsAre vr rl) (hll : ll.length = 6) (hrl : rl.length = 6) (hk : k ≤ 6)
    (dl : ol.data = .cell (some (.ref Dl))) (dr : or'.data = .cell (some (.ref Dr)))
    (hdp : A.depth + 8 < recursionLimit) (hu : A.units + 200 < cLine)
    (hnext : ∀ (h' : Heap) (tk Gr eg : Nat) (vg : List Value), Fr g L h' (fun z => if z = Str.ofString "groups" then some (.ref Gr) else m₀ z) →
      News g L h' ((Gr, listOf vg.toArray eg) :: (Dl, listOf vl.toArray el) :: (Dr, listOf vr.toArray er) :: (L + 1 + 1 + 1 + 1 + 1, or') :: (L + 1 + 1 + 1 + 1, ol) :: rest) → IntsAre vg ((List.range k).map (groupOf ll rl)) → Q .next { s with heap := h', toks := tk }) :
    wpAny (model Challenge.rw_re0038_01.row.prog w) A (exec (lBody.getD 13 (.Pass default)) (lEnv L fa cd)) Q (fun _ _ => False) s := by
  revert X
  k_fill
  intro X
  dsimp only [lEnv]
  show wpAny _ _ (exec (.Assign _ _ _) _) _ _ _
  refine' lc_assign (cl := ?cl) ?hsw ?hcl rfl ?hnm ?hy ?hp ?_ (fun _ => rfl)
  case hcl => exact rfl
  case hsw => exact rfl
  case hnm => decide
  case hy => exact rfl
  case hp => exact rfl
  ktr_unf
  refine wpAny_Name (wpAny_loadName_local rfl rfl F.ns hm ?_) (by decide)
  ktr_unf
  rename IsRange _ _ _ _ _ _ _ _ => R1
  rename Fr _ _ _ _ => F1
  rename News _ _ _ _ => N1
  refine LcGo.mk (fun _ => true) (fun i => .int (groupOf ll rl i)) F1 N1 (Src.range (n := k) hh R1 rfl (Nat.lt_of_le_of_lt hk (by decide)) (fun _ _ => rfl)) (Nat.le_trans hk (by decide)) (fun s₂ I hle hI => blkCell rfl (fun _ => rfl) (fun _ => rfl) rfl) ?tests ?elts ?fin
  case tests =>
    intro C i own h tk E' b o hi hB F2 N2 hle
    exact wpAny_pure ⟨rfl, ⟨_, _, rfl⟩, F2, (N2 _ (.head _)).1⟩
  case elts =>
    rintro C i own h tk E' bb oo hi _ ⟨oC, m, oK, v, rfl, hC, ⟨t, rfl⟩, hK⟩ F2 N2 hle
    clear F1 N1 R1
    simp only [List.cons_append, List.nil_append] at N2
    ktr_unf
    refine' lc_eval (cl := ?cl2) ?hcl rfl ?hnm ?_ (fun _ => rfl)
    case hcl => exact rfl
    case hnm => decide
    ktr_unf
    rename IsRange _ _ _ _ _ _ _ _ => R1
    rename Fr _ _ _ _ => F1
    rename News _ _ _ _ => N1
    refine LcGo.mk (fun j => inGroup ll rl i j) (fun j => .int ((2 ^ j : Nat) : Int)) F1 N1 (Src.range (n := 6) hh R1 rfl (by decide) (fun _ _ => rfl)) (by decide) (fun s₂ I hle hI => blkName (by decide) rfl rfl) ?tests2 ?elts2 ?fin2
    case tests2 =>
      rintro C2 j own2 h2 tk2 E2 b2 o2 hj ⟨oC2, m2, v2, rfl, hC2, ⟨t2, rfl⟩, hx2⟩ F3 N3 hle3
      clear F1 N1 R1
      simp only [List.cons_append, List.nil_append] at N3
      refine tests_one ?_
      ktr_unf
      all_goals first
        | exact stay_of (by k_asm) (by assumption) (by k_mem) ⟨_, _, rfl⟩
        | (unfold inGroup; simp_all; done)
        | (rename ¬ _ ≤ _ => hq; rw [Int.toNat_natCast] at hq; unfold inGroup; rw [decide_eq_false hq]; rfl)
    case elts2 =>
      rintro C2 j own2 h2 tk2 E2 b2 o2 hj _ ⟨oC2, m2, v2, rfl, hC2, ⟨t2, rfl⟩, hx2⟩ F3 N3 hle3
      clear F1 N1 R1
      simp only [List.cons_append, List.nil_append] at N3
      ktr_unf
      · exact stay_of (by k_asm) (by assumption) (by k_mem) ⟨_, _, rfl⟩
      · exact ⟨_, congrArg (Value.int · _) (by rw [Int.one_mul, Int.toNat_natCast]; exact (Int.natCast_pow 2 j).symm)⟩
    case fin2 =>
      intro s₂ D h2 tk2 ys ts ep es hD hk2 F3 N3 hE
      subst es
      clear F1 N1 R1
      have hst := Els.ints' hE
      have N4 : News g L h2 [(D, W.listOf ys.toArray ep), (bb, oo)] := fun q hq => N3 q (by
        refine mem_sub hq ?_
        repeat' (first | exact List.Subset.refl _ | exact List.nil_subset _ | refine cons_sub (by repeat (first | exact List.Mem.head _ | apply List.Mem.tail | apply List.mem_append_right)) ?_ | apply skip_sub))
      clear N3 hE
      dsimp only
      ktr_unf
      rename Heap.IsList _ _ _ => hL
      refine LSm.sum_ints F3 N4 hh hL hst ?_
      intro h5 tk5 t5 F5 N5
      exact ⟨stay_of F5 N5 (by simp) ⟨_, _, rfl⟩, t5, rfl⟩
  case fin =>
    intro s₂ D3
    refine ⟨rfl, ?_⟩
    intro h' tk ys3 ts ep3 es hD hk2 F2 N2 hE
    subst es
    have hst := Els.ints' hE
    rw [List.filter_eq_self.mpr (fun _ _ => rfl)] at hst
    refine hnext h' tk D3 ep3 ys3 F2 (fun q hq => ?_) hst
    rcases List.mem_cons.mp hq with rfl | hq
    · exact N2 _ (.head _)
    · exact N2 q (.tail _ (List.mem_append_right _ hq))

end Mine
end

-- part LawJ
section
open PySem PySem.W PySem.Calls PyProof.Rows
set_option maxRecDepth 100000
set_option maxHeartbeats 8000000
namespace Mine
local macro_rules | `(tactic| ktr_unf) => `(tactic| repeat' (first | (k_unfold; (try dsimp only)) | ((fail_if_success (with_reducible show wpAny _ _ (call (Value.ref 89) _ _) _ _ _)); (fail_if_success (with_reducible show wpAny _ _ (call (Value.ref 94) _ _) _ _ _)); (fail_if_success (with_reducible show wpAny _ _ (call (Value.ref 82) _ _) _ _ _)); (fail_if_success (with_reducible show wpAny _ _ (call (Value.ref 101) _ _) _ _ _)); (fail_if_success (with_reducible show wpAny _ _ (call (Value.ref 106) _ _) _ _ _)); (fail_if_success (with_reducible show wpAny _ _ (call (Value.ref 111) _ _) _ _ _)); (fail_if_success (with_reducible show wpAny _ _ (call (Value.ref 40) _ _) _ _ _)); (fail_if_success (with_reducible show wpAny _ _ (call (Value.ref 49) _ _) _ _ _)); (fail_if_success (with_reducible show wpAny _ _ (call (Value.ref 58) _ _) _ _ _)); (fail_if_success (with_reducible show wpAny _ _ (call (Value.builtin "str.join") _ _) _ _ _)); (fail_if_success (with_reducible show wpAny _ _ (eval (Expr.ListComp _ _ _ _) _) _ _ _)); (fail_if_success (with_reducible show wpAny _ _ (exec (Stmt.For _ _ _ _ _) _) _ _ _)); (fail_if_success (with_reducible show wpAny _ _ (storeName _ (Str.ofString "places") _) _ _ _)); (fail_if_success (with_reducible show wpAny _ _ (storeName _ (Str.ofString "come") _) _ _ _)); (fail_if_success (with_reducible show wpAny _ _ (storeName _ (Str.ofString "gone") _) _ _ _)); (fail_if_success (with_reducible show wpAny _ _ (storeName _ (Str.ofString "left") _) _ _ _)); (fail_if_success (with_reducible show wpAny _ _ (storeName _ (Str.ofString "right") _) _ _ _)); first | walk1 | (dsimp only; walk1)) | fail "no step"))
local macro_rules | `(tactic| walk_at "eval Name") => `(tactic| (k_here; (with_reducible show wpAny _ _ (eval (Expr.Name _ _) (compEnvC _ _ _ _)) _ _ _); k_dflt (first
  | refine LCgL.ld_own (by k_asm) (by k_mem) (by assumption) (by assumption) ?_
  | refine glob_name (by k_asm) (by k_asm) (by k_asm) (by k_is) ?_
  | refine built_name (by k_asm) (by k_asm) (by k_asm) (by k_is) (by boot_by_name) (by decide) ?_)))
local macro_rules | `(tactic| walk_at "call builtin:min") => `(tactic| (k_here; (with_reducible show wpAny _ _ (call (Value.builtin _) [Value.int _ _, Value.int _ _]) _ _ _); k_dflt (refine' min_two_N ?hh ?F ?N ?_); (case hh => first | rfl | assumption); (case F => k_asm); (case N => k_asm); intro h' tk' F' N'))

theorem law_ret {w : World} {p : Program} {loose : List Str} {mg mb : Str → Option Value} {A : Around} {s : Shared} {Q : Flow → Shared → Prop}
    {g : Heap} {L Gr Sp k k2 : Nat} {fa : Addr} {cd : Value} {m₀ : Str → Option Value} {rest ts : List (Addr × Obj)} {vg vsp : List Value} {eg esp : Nat} {gl : List Int} {t t2 : Tok} {sp : List (Int × Int)}
    (X : (hd.heap_39 w.params).In g) (T : TopRead p loose mg mb g) (hh : A.handled = none) (hC : CodeHd g 110 108) (hB : BMain g mg)
    (F : Fr g L s.heap (fun z => if z = Str.ofString "groups" then some (.ref Gr) else m₀ z)) (hm : m₀ (Str.ofString "many") = some (.int (k : Int) t)) (hm2 : m₀ (Str.ofString "more") = some (.int (k2 : Int) t2)) (hm3 : m₀ (Str.ofString "spans") = some (.ref Sp))
    (N : News g L s.heap ((Gr, listOf vg.toArray eg) :: (108, tabObj #[]) :: rest)) (hig : IntsAre vg gl)
    (hSp : (Sp, listOf vsp.toArray esp) ∈ rest) (hts : ∀ p ∈ ts, p ∈ rest) (hE : Els ts vsp (sp.map fun q => El.pair q.1 q.2)) (hsp : sp.length = 6)
    (hdp : A.depth + 8 < recursionLimit) (hu : A.units + 200 < cLine)
    (hk : k2 = k) (hcr : ∀ ns : List Int, ns.Perm ((whole (crowdsN ((List.range 6).map (meetOf sp)) 6)).map fun c => ((c : Nat) : Int)) → ns.Pairwise (fun x y => keyOf sp x.toNat ≤ keyOf sp y.toNat) → gl = ns)
    (hret : ∀ (h' : Heap) (tk c' : Nat), (∀ (b : Nat) o, g.get? b = some o → h'.get? b = some o) → h'.get? 108 = some (tabObj #[rawInt 98, rawInt 29, .ref c']) → Q (.ret (.bool true)) { s with heap := h', toks := tk }) :
    wpAny (model Challenge.rw_re0038_01.row.prog w) A (exec (lBody.getD 14 (.Pass default)) (lEnv L fa cd)) Q (fun _ _ => False) s := by
  revert X
  k_fill
  intro X
  dsimp only [lEnv]
  show wpAny _ _ (exec (.Return _ _) _) _ _ _
  ktr_unf
  refine wpAny_Name (wpAny_loadName_local rfl rfl F.ns (show (if Str.ofString "spans" = Str.ofString "groups" then _ else m₀ (Str.ofString "spans")) = some (.ref Sp) from hm3) ?_) (by decide)
  ktr_unf
  have z108 := N (108, tabObj #[]) (by repeat (first | exact List.Mem.head _ | apply List.Mem.tail))
  have zG := N (Gr, listOf vg.toArray eg) (.head _)
  have hG108 : (Gr : Nat) ≠ 108 := fun q => by have e1 := zG.1; have e2 := z108.1; dsimp only at e1 e2; rw [q, e2] at e1; cases e1
  refine crowds_C (sp := sp) (X.keeps F.keep) (T.keeps F.keep) hh z108.1 ⟨vsp.toArray, esp, (N _ (.tail _ (.tail _ hSp))).1, ?_, ?_⟩ hsp (hC.keeps F.keep) ?_ (by omega) (by omega) ?_
  · rw [List.size_toArray, hE.length, List.length_map]
  · intro i q hq
    obtain ⟨v, hv⟩ : ∃ v, vsp[i]? = some v := ⟨_, List.getElem?_eq_getElem (by rw [hE.length, List.length_map]; exact (List.getElem?_eq_some_iff.mp hq).1)⟩
    obtain ⟨q', T0, t1, u1, n1, h1, rfl, h3⟩ := els_get' hE i v hv
    rw [hq] at h1
    cases h1
    exact ⟨T0, t1, u1, n1, by simpa using hv, (N _ (.tail _ (.tail _ (hts _ h3)))).1⟩
  · obtain ⟨bm, ob, b1, b2, b3, r⟩ := hB
    exact ⟨bm, ob, b1, b2, F.keep _ _ b3, r⟩
  intro h2 tk2 Dc vc ns ec c' k2' hDc hDc2 h1082 hic hperm hpw
  have hg108 : ∀ (b : Nat) o, g.get? b = some o → b ≠ 108 := fun b o e q => by rw [q, z108.2.2] at e; cases e
  have F2 : Fr g L h2 _ := ⟨F.ns.at' fun o e => k2' L o (Ne.symm z108.2.1) e, fun b o e => k2' b o (hg108 b o e) (F.keep b o e), F.above⟩
  have hgr := hcr ns hperm hpw
  subst hgr
  clear N
  refine eq_intsK (ns := gl) (ms := gl) ⟨_, k2' _ _ hG108 zG.1, rfl, _, rfl⟩ hig ⟨_, hDc2, rfl, _, rfl⟩ hic (by omega) ?_
  rw [decide_eq_true rfl]
  ktr_unf
  refine wpAny_Name (wpAny_loadName_local rfl rfl F2.ns (show (if Str.ofString "more" = Str.ofString "groups" then _ else m₀ (Str.ofString "more")) = some _ from hm2) ?_) (by decide)
  refine wpAny_Name (wpAny_loadName_local rfl rfl F2.ns (show (if Str.ofString "many" = Str.ofString "groups" then _ else m₀ (Str.ofString "many")) = some _ from hm) ?_) (by decide)
  subst hk
  ktr_unf
  have e : ((k2 : Int) == (k2 : Int)) = true := by simp
  rw [e]
  exact hret h2 tk2 c' F2.keep h1082
end Mine
end

-- part P1
section
open PySem PySem.W PySem.Calls PyProof.Rows
set_option maxRecDepth 100000
namespace Mine
def flat (ys : List Str) : List Nat := (ys.map (fun y => y.cps.toList)).flatten
/-- line ends made alike -/
def sub2L : List Nat → List Nat
  | [] => []
  | 13 :: 10 :: r => 13 :: 10 :: sub2L r
  | c :: r => if c = 10 ∨ c = 13 then 13 :: 10 :: sub2L r else c :: sub2L r

theorem sub2L_other {c : Nat} {r : List Nat} (h : ¬ (c = 10 ∨ c = 13)) : sub2L (c :: r) = c :: sub2L r := by
  rw [sub2L.eq_def]
  split
  · rename_i e; cases e
  · rename_i e; cases e; exact absurd (.inr rfl) h
  · rename_i e; cases e; rw [if_neg h]
theorem sub2L_crlf (r : List Nat) : sub2L (13 :: 10 :: r) = 13 :: 10 :: sub2L r := by rw [sub2L]
theorem sub2L_nl {c : Nat} {r : List Nat} (h : c = 10 ∨ c = 13) (h2 : ¬ (c = 13 ∧ r.head? = some 10)) : sub2L (c :: r) = 13 :: 10 :: sub2L r := by
  rw [sub2L.eq_def]
  split
  · rename_i e; cases e
  · rename_i e; cases e; exact absurd ⟨rfl, rfl⟩ h2
  · rename_i e; cases e; rw [if_pos h]

theorem drop_cons {x : Array Nat} {s : Nat} (h : s < x.size) : x.toList.drop s = x.getD s 0 :: x.toList.drop (s + 1) := by
  rw [List.drop_eq_getElem_cons (by simpa using h)]
  simp [h]

theorem scan_none (x : Array Nat) : ∀ (f s : Nat), x.size + 1 ≤ s + f → findNl x f s = none → sub2L (x.toList.drop s) = x.toList.drop s
  | 0, s, hs, _ => by rw [List.drop_eq_nil_of_le (by simp; omega)]; rfl
  | f + 1, s, hs, h => by
    rw [findNl] at h
    split at h
    · rw [List.drop_eq_nil_of_le (by simp; omega)]; rfl
    · split at h
      · cases h
      · rename_i h1 h2
        rw [drop_cons (by omega), sub2L_other h2, scan_none x f (s + 1) (by omega) h]
theorem scan_some (x : Array Nat) : ∀ (f s q : Nat), findNl x f s = some q → sub2L (x.toList.drop s) = (x.toList.drop s).take (q - s) ++ sub2L (x.toList.drop q)
  | 0, s, q, h => by cases h
  | f + 1, s, q, h => by
    have hq := findNl_some h
    rw [findNl] at h
    split at h
    · cases h
    · split at h
      · cases h; rw [Nat.sub_self]; rfl
      · rename_i h1 h2
        have hq2 := findNl_some h
        have e : q - s = (q - (s + 1)) + 1 := by omega
        rw [drop_cons (by omega), sub2L_other h2, scan_some x f (s + 1) q h, e]
        rfl

theorem pieces2 (x : Str) (hx : True) : ∀ (k d : Nat), x.cps.size + 1 ≤ d + k → flat (pieces find2 x (Str.ofString "\r\n") k d) = sub2L (x.cps.toList.drop d)
  | 0, d, h => by rw [List.drop_eq_nil_of_le (by simp; omega)]; rfl
  | k + 1, d, h => by
    rw [pieces]
    cases hf : findNl x.cps (x.cps.size + 1 - d) d with
    | none =>
      have e : find2 x.cps d = none := by unfold find2; rw [hf]; rfl
      rw [e]
      dsimp only
      rw [scan_none x.cps _ d (by omega) hf]
      split
      · simp [flat, List.take_of_length_le]
      · rw [List.drop_eq_nil_of_le (by simp; omega)]; rfl
    | some q =>
      obtain ⟨h1, h2, h3⟩ := findNl_some hf
      have hsc := scan_some x.cps _ d q hf
      have hE : ∃ e, find2 x.cps d = some (q, e) ∧ q < e ∧ sub2L (x.cps.toList.drop q) = 13 :: 10 :: sub2L (x.cps.toList.drop e) := by
        by_cases hc : x.cps.getD q 0 = 13 ∧ x.cps.getD (q + 1) 0 = 10
        · refine ⟨q + 2, by unfold find2; rw [hf, Option.map_some, if_pos hc], by omega, ?_⟩
          have h4 : q + 1 < x.cps.size := by
            rcases Nat.lt_or_ge (q + 1) x.cps.size with h4 | h4
            · exact h4
            · have h5 := hc.2
              rw [Array.getD_eq_getD_getElem?, Array.getElem?_eq_none (by omega)] at h5
              cases h5
          rw [drop_cons h2, drop_cons h4, hc.1, hc.2, sub2L_crlf]
        · refine ⟨q + 1, by unfold find2; rw [hf, Option.map_some, if_neg hc], by omega, ?_⟩
          rw [drop_cons h2]
          refine sub2L_nl h3 fun h5 => hc ⟨h5.1, ?_⟩
          have h6 := h5.2
          rw [List.head?_drop, Array.getElem?_toList] at h6
          rw [Array.getD_eq_getD_getElem?, h6]
          rfl
      obtain ⟨e, he, hqe, hs⟩ := hE
      rw [he]
      dsimp only
      rw [hsc, hs]
      have ih := pieces2 x hx k e (by omega)
      unfold flat at ih ⊢
      rw [List.map_append, List.flatten_append, List.map_cons, List.flatten_cons, ih]
      have e1 : (((if d < q then [(⟨x.cps.extract d q⟩ : Str)] else []).map (fun y => y.cps.toList))).flatten = (x.cps.toList.drop d).take (q - d) := by
        split
        · simp [List.take_drop]
        · have : q - d = 0 := by omega
          rw [this]; rfl
      rw [e1]
      rfl

/-- dots at a line's start doubled -/
def sub1L : Bool → List Nat → List Nat
  | _, [] => []
  | b, c :: r => if b = true ∧ c = 46 then 46 :: 46 :: sub1L false r else c :: sub1L (c == 10) r
def atStart (x : Array Nat) (s : Nat) : Bool := s == 0 || x.getD (s - 1) 0 == 10

theorem sub1L_no {b : Bool} {c : Nat} {r : List Nat} (h : ¬ (b = true ∧ c = 46)) : sub1L b (c :: r) = c :: sub1L (c == 10) r := by rw [sub1L, if_neg h]
theorem sub1L_yes {b : Bool} {c : Nat} {r : List Nat} (h : b = true ∧ c = 46) : sub1L b (c :: r) = 46 :: 46 :: sub1L false r := by rw [sub1L, if_pos h]
theorem dotAt_iff (x : Array Nat) {s : Nat} (h : s < x.size) : dotAt x s = true ↔ (atStart x s = true ∧ x.getD s 0 = 46) := by
  unfold dotAt atStart
  simp [h]
theorem findDot_some1 {x : Array Nat} : ∀ {f s q : Nat}, findDot x f s = some q → s ≤ q ∧ dotAt x q = true
  | 0, _, _, h => nomatch h
  | f + 1, s, q, h => by
    rw [findDot] at h
    split at h
    · cases h; exact ⟨Nat.le_refl _, by assumption⟩
    · have := findDot_some1 h; exact ⟨by omega, this.2⟩
theorem atStart_succ (x : Array Nat) (s : Nat) : atStart x (s + 1) = (x.getD s 0 == 10) := by
  unfold atStart
  simp
theorem scan1_none (x : Array Nat) : ∀ (f s : Nat), x.size + 1 ≤ s + f → findDot x f s = none → sub1L (atStart x s) (x.toList.drop s) = x.toList.drop s
  | 0, s, hs, _ => by rw [List.drop_eq_nil_of_le (by simp; omega)]; rfl
  | f + 1, s, hs, h => by
    rw [findDot] at h
    split at h
    · cases h
    · rename_i h1
      rcases Nat.lt_or_ge s x.size with h2 | h2
      · rw [drop_cons h2, sub1L_no (fun h3 => h1 ((dotAt_iff x h2).mpr h3)), ← atStart_succ, scan1_none x f (s + 1) (by omega) h]
      · rw [List.drop_eq_nil_of_le (by simp; omega)]; rfl
theorem scan1_some (x : Array Nat) : ∀ (f s q : Nat), findDot x f s = some q → sub1L (atStart x s) (x.toList.drop s) = (x.toList.drop s).take (q - s) ++ sub1L (atStart x q) (x.toList.drop q)
  | 0, s, q, h => by cases h
  | f + 1, s, q, h => by
    have hq := findDot_some1 h
    have hq3 : q < x.size := by have := hq.2; unfold dotAt at this; simp at this; omega
    rw [findDot] at h
    split at h
    · cases h; rw [Nat.sub_self]; rfl
    · rename_i h1
      have hq2 := findDot_some1 h
      have e : q - s = (q - (s + 1)) + 1 := by omega
      have h2 : s < x.size := by omega
      rw [drop_cons h2, sub1L_no (fun h3 => h1 ((dotAt_iff x h2).mpr h3)), ← atStart_succ, scan1_some x f (s + 1) q h, e]
      rfl
theorem pieces1 (x : Str) : ∀ (k d : Nat), x.cps.size + 1 ≤ d + k → flat (pieces find1 x (Str.ofString "..") k d) = sub1L (atStart x.cps d) (x.cps.toList.drop d)
  | 0, d, h => by rw [List.drop_eq_nil_of_le (by simp; omega)]; rfl
  | k + 1, d, h => by
    rw [pieces]
    cases hf : findDot x.cps (x.cps.size + 1 - d) d with
    | none =>
      have e : find1 x.cps d = none := by unfold find1; rw [hf]; rfl
      rw [e]
      dsimp only
      rw [scan1_none x.cps _ d (by omega) hf]
      split
      · simp [flat, List.take_of_length_le]
      · rw [List.drop_eq_nil_of_le (by simp; omega)]; rfl
    | some q =>
      obtain ⟨h1, h2⟩ := findDot_some1 hf
      have hq3 : q < x.cps.size := by have := h2; unfold dotAt at this; simp at this; omega
      have h3 := (dotAt_iff x.cps hq3).mp h2
      have he : find1 x.cps d = some (q, q + 1) := by unfold find1; rw [hf]; rfl
      rw [he]
      dsimp only
      have hs : atStart x.cps (q + 1) = false := by rw [atStart_succ, h3.2]; rfl
      rw [scan1_some x.cps _ d q hf, drop_cons hq3, sub1L_yes h3]
      have ih := pieces1 x k (q + 1) (by omega)
      rw [hs] at ih
      unfold flat at ih ⊢
      rw [List.map_append, List.flatten_append, List.map_cons, List.flatten_cons, ih]
      have e1 : (((if d < q then [(⟨x.cps.extract d q⟩ : Str)] else []).map (fun y => y.cps.toList))).flatten = (x.cps.toList.drop d).take (q - d) := by
        split
        · simp [List.take_drop]
        · have : q - d = 0 := by omega
          rw [this]; rfl
      rw [e1]
      rfl
theorem subOf2 (x : Str) : (subOf find2 (Str.ofString "\r\n") x).cps.toList = sub2L x.cps.toList := by
  unfold subOf
  rw [join_cps]
  exact pieces2 x trivial _ 0 (by omega)
theorem subOf1 (x : Str) : (subOf find1 (Str.ofString "..") x).cps.toList = sub1L true x.cps.toList := by
  unfold subOf
  rw [join_cps]
  exact pieces1 x _ 0 (by omega)
end Mine
end

-- part P2
section
open PySem PySem.W PySem.Calls PyProof.Rows
set_option maxRecDepth 100000
namespace Mine
theorem sub2L_bs (k : Nat) (r : List Nat) : sub2L (List.replicate k 98 ++ r) = List.replicate k 98 ++ sub2L r := by
  induction k with
  | zero => rfl
  | succ k ih => rw [List.replicate_succ, List.cons_append, List.cons_append, sub2L_other (by decide), ih]
theorem sub1L_bs (k : Nat) (r : List Nat) : sub1L false (List.replicate k 98 ++ r) = List.replicate k 98 ++ sub1L false r := by
  induction k with
  | zero => rfl
  | succ k ih =>
    rw [List.replicate_succ, List.cons_append, List.cons_append, sub1L_no (by decide)]
    show _ :: sub1L false _ = _
    rw [ih]
theorem sub2L_le {le r : List Nat} (h : le = [10] ∨ le = [13] ∨ le = [13, 10]) (hr : r.head? ≠ some 10) : sub2L (le ++ r) = 13 :: 10 :: sub2L r := by
  rcases h with rfl | rfl | rfl
  · exact sub2L_nl (.inl rfl) fun h => absurd h.1 (by decide)
  · exact sub2L_nl (.inr rfl) fun h => hr h.2
  · exact sub2L_crlf r
theorem row_eq {k : Nat} {e : Bool} {le r : List Nat} (h : le = [10] ∨ le = [13] ∨ le = [13, 10]) (hr : r.head? ≠ some 10) :
    sub1L true (sub2L ((if e then 46 else 97) :: (List.replicate k 98 ++ (le ++ r)))) = (if e then [46, 46] else [97]) ++ (List.replicate k 98 ++ (13 :: 10 :: sub1L true (sub2L r))) := by
  have h2 : ∀ z, sub1L false (13 :: 10 :: z) = 13 :: 10 :: sub1L true z := fun z => by
    rw [sub1L_no (by decide)]
    show 13 :: sub1L false _ = _
    rw [sub1L_no (by decide)]
    rfl
  cases e
  · rw [sub2L_other (by decide), sub2L_bs, sub2L_le h hr, sub1L_no (by decide)]
    show _ :: sub1L false _ = _
    rw [sub1L_bs, h2]
    rfl
  · rw [sub2L_other (by decide), sub2L_bs, sub2L_le h hr, sub1L_yes (by decide), sub1L_bs, h2]
    rfl
theorem app_cps (x y : Str) : (x ++ y).cps.toList = x.cps.toList ++ y.cps.toList := by
  show (_ ++ _ : Array Nat).toList = _
  simp
theorem row_parts (n : Int) {sz : Int} (h : 1 ≤ sz ∧ sz ≤ 4) : ∃ (k : Nat) (e : Bool) (le : List Nat), (le = [10] ∨ le = [13] ∨ le = [13, 10]) ∧
    (rowStr n sz).cps.toList = (if e then 46 else 97) :: (List.replicate k 98 ++ le) ∧ (dueStr n sz).cps.toList = (if e then [46, 46] else [97]) ++ (List.replicate k 98 ++ [13, 10]) := by
  have h1 : ∃ e : Bool, (Txt.item (Str.ofString ".a") (n.fmod 2)).cps.toList = [if e then 46 else 97] ∧ (if n.fmod 2 = 0 then Str.ofString ".." else Str.ofString "a").cps.toList = (if e then [46, 46] else [97]) := by
    rcases (by omega : n % 2 = 0 ∨ n % 2 = 1) with q | q <;> rw [Int.fmod_eq_emod_of_nonneg _ (by decide), q]
    · exact ⟨true, by decide +kernel, by decide +kernel⟩
    · exact ⟨false, by decide +kernel, by decide +kernel⟩
  have h2 : (Txt.mul (Str.ofString "b") (sz - 1)).cps.toList = List.replicate (sz - 1).toNat 98 := by
    rcases (by omega : sz = 1 ∨ sz = 2 ∨ sz = 3 ∨ sz = 4) with rfl | rfl | rfl | rfl <;> decide +kernel
  have h3 : (lineEnd n).cps.toList = [10] ∨ (lineEnd n).cps.toList = [13] ∨ (lineEnd n).cps.toList = [13, 10] := by
    unfold lineEnd
    split
    · exact .inl (by decide +kernel)
    · split
      · exact .inr (.inl (by decide +kernel))
      · exact .inr (.inr (by decide +kernel))
  obtain ⟨e, e1, e2⟩ := h1
  refine ⟨(sz - 1).toNat, e, _, h3, ?_, ?_⟩
  · unfold rowStr
    rw [app_cps, app_cps, e1, h2]
    simp
  · unfold dueStr
    rw [app_cps, app_cps, e2, h2, List.append_assoc]
    rfl
theorem rows_text : ∀ (l : List (Int × Int)), (∀ q ∈ l, 1 ≤ q.2 ∧ q.2 ≤ 4) →
    sub1L true (sub2L ((l.map fun q => (rowStr q.1 q.2).cps.toList).flatten)) = (l.map fun q => (dueStr q.1 q.2).cps.toList).flatten
  | [], _ => rfl
  | q :: l, h => by
    obtain ⟨k, e, le, h1, h2, h3⟩ := row_parts q.1 (h q (.head _))
    have ih := rows_text l fun y hy => h y (.tail _ hy)
    rw [List.map_cons, List.flatten_cons, h2, List.cons_append, List.append_assoc, row_eq h1 ?_, ih, List.map_cons, List.flatten_cons, h3]
    · simp
    · cases l with
      | nil => exact fun h => nomatch h
      | cons y l =>
        obtain ⟨k, e, le, h1, h2, h3⟩ := row_parts y.1 (h y (.tail _ (.head _)))
        rw [List.map_cons, List.flatten_cons, h2]
        cases e <;> exact fun h => by cases h
theorem sz_in {a b c : Int} {i : Nat} (h : i < 7) (ha : 1 ≤ a ∧ a ≤ 4) (hb : 1 ≤ b ∧ b ≤ 4) (hc : 1 ≤ c ∧ c ≤ 4) : 1 ≤ [a, b, c].getD (min i 2) 0 ∧ [a, b, c].getD (min i 2) 0 ≤ 4 := by
  rcases (by omega : i = 0 ∨ i = 1 ∨ i = 2 ∨ i = 3 ∨ i = 4 ∨ i = 5 ∨ i = 6) with q | q | q | q | q | q | q <;> rw [q] <;> first | exact ha | exact hb | exact hc
theorem str_ext {x y : Str} (h : x.cps.toList = y.cps.toList) : x = y := by
  cases x; cases y
  congr 1
  exact Array.toList_inj.mp h
theorem text_law (nu : List Int) (a b c : Int) (hlen : nu.length = 7) (ha : 1 ≤ a ∧ a ≤ 4) (hb : 1 ≤ b ∧ b ≤ 4) (hc : 1 ≤ c ∧ c ≤ 4) : sentOf nu a b c = dueAll nu a b c := by
  apply str_ext
  unfold sentOf
  rw [subOf1, subOf2]
  unfold rowsAll dueAll
  rw [join_cps, join_cps]
  have e := rows_text ((List.range 7).map fun i => (nu.getD i 0, [a, b, c].getD (min i 2) 0)) fun q hq => by
    obtain ⟨i, hi, rfl⟩ := List.mem_map.mp hq
    exact sz_in (List.mem_range.mp hi) ha hb hc
  rw [List.map_map, List.map_map] at e
  rw [List.map_map, List.map_map]
  refine Eq.trans ?_ e
  congr 3
end Mine
end

-- part P3
section
open PySem PySem.W PySem.Calls PyProof.Rows PySem.Builtin.Str PySem.StrLaws
set_option maxRecDepth 100000
namespace Mine
def plcF (acc : List Int) (r : Str) : List Int := acc ++ [acc.getLastD 0 + r.length + 2]
def cntL : List Nat → Nat
  | [] => 0
  | c :: r => (if (c :: r).take 2 = [13, 10] then 1 else 0) + cntL r
theorem cntL_other {c : Nat} {r : List Nat} (h : c ≠ 13) : cntL (c :: r) = cntL r := by
  rw [cntL, if_neg (fun e => by cases r <;> simp at e; exact h e.1), Nat.zero_add]
theorem cntL_bs (k : Nat) (r : List Nat) : cntL (List.replicate k 98 ++ r) = cntL r := by
  induction k with
  | zero => rfl
  | succ k ih => rw [List.replicate_succ, List.cons_append, cntL_other (by decide), ih]
theorem cntL_le : ∀ l : List Nat, cntL l ≤ l.length
  | [] => Nat.le_refl _
  | c :: r => by
    have := cntL_le r
    rw [cntL, List.length_cons]
    split <;> omega
theorem cnt_rows : ∀ (l : List (Int × Int)), (∀ q ∈ l, 1 ≤ q.2 ∧ q.2 ≤ 4) → cntL ((l.map fun q => (dueStr q.1 q.2).cps.toList).flatten) = l.length
  | [], _ => rfl
  | q :: l, h => by
    obtain ⟨k, e, le, h1, h2, h3⟩ := row_parts q.1 (h q (.head _))
    have ih := cnt_rows l fun y hy => h y (.tail _ hy)
    rw [List.map_cons, List.flatten_cons, h3, List.length_cons]
    have e2 : ∀ r, cntL (13 :: 10 :: r) = cntL r + 1 := fun r => by
      rw [cntL, if_pos (by rfl), cntL_other (by decide)]; exact Nat.add_comm _ _
    cases e
    · show cntL ([97] ++ (List.replicate k 98 ++ [13, 10]) ++ _) = _
      rw [List.append_assoc, List.append_assoc]
      show cntL (97 :: (List.replicate k 98 ++ (13 :: 10 :: _))) = _
      rw [cntL_other (by decide), cntL_bs, e2]; exact congrArg (· + 1) ih
    · show cntL ([46, 46] ++ (List.replicate k 98 ++ [13, 10]) ++ _) = _
      rw [List.append_assoc, List.append_assoc]
      show cntL (46 :: 46 :: (List.replicate k 98 ++ (13 :: 10 :: _))) = _
      rw [cntL_other (by decide), cntL_other (by decide), cntL_bs, e2]; exact congrArg (· + 1) ih
theorem at_iff (x : Str) (a : Nat) : (a + (Str.ofString "\r\n").length ≤ x.length ∧ subAt x (Str.ofString "\r\n") a = true) ↔ (x.cps.toList.drop a).take 2 = [13, 10] := by
  have e : (Str.ofString "\r\n").length = 2 := by decide +kernel
  have e2 : (Str.ofString "\r\n").cps = #[13, 10] := by decide +kernel
  have e3 : subAt x (Str.ofString "\r\n") a = true ↔ (x.cps.toList.drop a).take 2 = [13, 10] := by
    unfold subAt
    rw [e, e2, beq_iff_eq, ← Array.toList_inj, Array.toList_extract]
    simp [List.take_drop, List.extract_eq_take_drop]
  rw [e3, e]
  constructor
  · exact fun h => h.2
  · intro h
    refine ⟨?_, h⟩
    have h2 := congrArg List.length h
    simp at h2
    show a + 2 ≤ x.cps.size
    omega
theorem occ_cnt (x : Str) : ∀ (k a : Nat) (st : Array Nat × Nat), k + a = x.length + 1 → st.1.size ≤ a → (st.2 ≤ a ∨ (st.2 = a + 1 ∧ (x.cps.toList.drop a).take 2 ≠ [13, 10])) →
    (forIn (List.range' a k) st (occBody x (Str.ofString "\r\n") x.length (x.length + 1))).run.fst.size = st.1.size + cntL (x.cps.toList.drop a)
  | 0, a, st, hk, _, _ => by
    have : x.length = x.cps.size := rfl
    rw [List.drop_eq_nil_of_le (by simp; omega)]
    rfl
  | k + 1, a, st, hk, hs, hf => by
    have hx : x.length = x.cps.size := rfl
    rw [List.range'_succ, List.forIn_cons]
    unfold occBody
    by_cases h : (x.cps.toList.drop a).take 2 = [13, 10]
    · have hA := (at_iff x a).mpr h
      have hf2 : st.2 ≤ a := by
        rcases hf with hf | hf
        · exact hf
        · exact absurd h hf.2
      rw [if_pos ⟨⟨⟨by omega, hf2⟩, hA.1⟩, hA.2⟩]
      have e : (Str.ofString "\r\n").length = 2 := by decide +kernel
      have ha : a < x.cps.size := by have := hA.1; omega
      have hd := drop_cons ha
      refine Eq.trans (occ_cnt x k (a + 1) _ (by omega) (by simp only [Array.size_push]; omega) (.inr ⟨by rw [e], ?_⟩)) ?_
      · intro h2
        rw [hd] at h
        generalize x.cps.toList.drop (a + 1) = r at h h2
        cases r with
        | nil => cases h2
        | cons y r =>
          simp at h h2
          omega
      · simp only [Array.size_push]
        rw [hd, cntL, if_pos (by rw [← hd]; exact h)]
        omega
    · rw [if_neg fun hc => h ((at_iff x a).mp ⟨hc.1.2, hc.2⟩)]
      refine Eq.trans (occ_cnt x k (a + 1) _ (by omega) (by dsimp only; omega) (.inl (by dsimp only; omega))) ?_
      dsimp only
      rcases Nat.lt_or_ge a x.cps.size with ha | ha
      · rw [drop_cons ha, cntL, if_neg (by rw [← drop_cons ha]; exact h), Nat.zero_add]
      · rw [List.drop_eq_nil_of_le (by simp; omega), List.drop_eq_nil_of_le (by simp; omega)]
theorem split_cnt (x : Str) (h : 0 < cntL x.cps.toList) (h2 : 2 ≤ x.length) : (Txt.split x (Str.ofString "\r\n")).length = cntL x.cps.toList + 1 := by
  have hl : (occurrences x (Str.ofString "\r\n") 0 x.length (x.length + 1)).length = cntL x.cps.toList := by
    rw [occ_eq, Array.length_toList]
    refine Eq.trans (occ_cnt x _ 0 _ (by omega) (Nat.zero_le _) (.inl (Nat.le_refl _))) ?_
    simp
  unfold Txt.split
  have e : (Str.ofString "\r\n").length = 2 := by decide +kernel
  have e2 : Builtin.Str.strKind (Str.ofString "\r\n") = 1 := by decide +kernel
  rw [if_neg, if_neg]
  · rw [length_partsBetween, hl]
  · intro h3
    rw [List.isEmpty_iff] at h3
    rw [h3] at hl
    simp only [List.length_nil] at hl
    omega
  · rw [e, e2]
    have : 1 ≤ Builtin.Str.strKind x := by
      unfold Builtin.Str.strKind
      split
      · exact Nat.le_refl _
      · split
        · decide
        · decide
    simp
    omega
theorem plc_go (ps : List Str) : ∀ acc : List Int, acc.Pairwise (· < ·) → (∀ v ∈ acc, v ≤ acc.getLastD 0) →
    (ps.foldl plcF acc).length = acc.length + ps.length ∧ (ps.foldl plcF acc).Pairwise (· < ·) := by
  induction ps with
  | nil => exact fun acc h _ => ⟨rfl, h⟩
  | cons r ps ih =>
    intro acc h hb
    have := ih (acc ++ [acc.getLastD 0 + r.length + 2]) ?_ ?_
    · refine ⟨?_, this.2⟩
      have h1 := this.1
      rw [List.foldl_cons]
      refine Eq.trans h1 ?_
      rw [List.length_append, List.length_cons, List.length_cons, List.length_nil]
      omega
    · rw [List.pairwise_append]
      refine ⟨h, List.pairwise_singleton _ _, fun v hv y hy => ?_⟩
      rw [List.mem_singleton.mp hy]
      have := hb v hv
      omega
    · intro v hv
      rw [List.getLastD_concat]
      rcases List.mem_append.mp hv with hv | hv
      · have := hb v hv
        omega
      · rw [List.mem_singleton.mp hv]; omega
theorem split_law (nu : List Int) (a b c : Int) (hlen : nu.length = 7) (ha : 1 ≤ a ∧ a ≤ 4) (hb : 1 ≤ b ∧ b ≤ 4) (hc : 1 ≤ c ∧ c ≤ 4) :
    (dueAll nu a b c).length ≤ 1000 ∧ (Txt.split (dueAll nu a b c) (Str.ofString "\r\n")).length ≤ 1000 ∧ (plc (spl (dueAll nu a b c))).length = 8 ∧ (plc (spl (dueAll nu a b c))).Pairwise (· < ·) := by
  have e : cntL (dueAll nu a b c).cps.toList = 7 := by
    unfold dueAll
    rw [join_cps]
    have e := cnt_rows ((List.range 7).map fun i => (nu.getD i 0, [a, b, c].getD (min i 2) 0)) fun q hq => by
      obtain ⟨i, hi, rfl⟩ := List.mem_map.mp hq
      exact sz_in (List.mem_range.mp hi) ha hb hc
    rw [List.map_map] at e
    rw [List.map_map]
    refine Eq.trans ?_ e
    congr 3
  have h7 := cntL_le (dueAll nu a b c).cps.toList
  rw [e] at h7
  have hl : 2 ≤ (dueAll nu a b c).length := by
    show 2 ≤ (dueAll nu a b c).cps.size
    simp at h7
    omega
  have hs := split_cnt (dueAll nu a b c) (by omega) hl
  rw [e] at hs
  have hp := plc_go (spl (dueAll nu a b c)) [0] (List.pairwise_singleton _ _) (fun v hv => by rw [List.mem_singleton.mp hv]; exact Int.le_refl _)
  refine ⟨?_, by omega, ?_, hp.2⟩
  · have h := sum_le7 ((List.range 7).map fun i => dueStr (nu.getD i 0) ([a, b, c].getD (min i 2) 0)) fun x hx => by
      obtain ⟨i, hi, rfl⟩ := List.mem_map.mp hx
      exact dueStr_len _ (sz_in (List.mem_range.mp hi) ha hb hc)
    rw [List.length_map, List.length_range] at h
    unfold dueAll
    show (Txt.join (Str.ofString "") _).cps.size ≤ _
    have := join_size ((List.range 7).map fun i => dueStr (nu.getD i 0) ([a, b, c].getD (min i 2) 0))
    omega
  · refine Eq.trans hp.1 ?_
    unfold spl
    rw [List.length_dropLast, hs]
    rfl
end Mine
end

-- part P4
section
open PySem PySem.W PySem.Calls PyProof.Rows
set_option maxRecDepth 100000
namespace Mine
theorem getD_lt {l : List Int} {i : Nat} (h : i < l.length) : l.getD i 0 = l[i] := by
  simp [h]
theorem bisR_spec {ns : List Int} (x : Int) (hs : ∀ i j, i ≤ j → j < ns.length → ns.getD i 0 ≤ ns.getD j 0) : ∀ (k lo hi : Nat), hi - lo ≤ k → lo ≤ hi → hi ≤ ns.length →
    (∀ i, i < lo → ns.getD i 0 ≤ x) → (∀ i, hi ≤ i → i < ns.length → x < ns.getD i 0) →
    (∀ i, i < bisR ns x lo hi → ns.getD i 0 ≤ x) ∧ (∀ i, bisR ns x lo hi ≤ i → i < ns.length → x < ns.getD i 0) := by
  intro k
  induction k with
  | zero =>
    intro lo hi h1 h2 h3 h4 h5
    rw [bisR_end (by omega)]
    exact ⟨h4, fun i hi => h5 i (by omega)⟩
  | succ k ih =>
    intro lo hi h1 h2 h3 h4 h5
    by_cases h : lo < hi
    · by_cases hx : x < ns.getD ((lo + hi) / 2) 0
      · rw [bisR_left h hx]
        refine ih _ _ (by omega) (by omega) (by omega) h4 fun i h6 h7 => ?_
        have := hs _ i h6 h7
        omega
      · rw [bisR_right h hx]
        refine ih _ _ (by omega) (by omega) (by omega) (fun i h6 => ?_) h5
        have := hs i ((lo + hi) / 2) (by omega) (by omega)
        omega
    · rw [bisR_end h]
      exact ⟨h4, fun i hi => h5 i (by omega)⟩
theorem bisL_spec {ns : List Int} (x : Int) (hs : ∀ i j, i ≤ j → j < ns.length → ns.getD i 0 ≤ ns.getD j 0) : ∀ (k lo hi : Nat), hi - lo ≤ k → lo ≤ hi → hi ≤ ns.length →
    (∀ i, i < lo → ns.getD i 0 < x) → (∀ i, hi ≤ i → i < ns.length → x ≤ ns.getD i 0) →
    (∀ i, i < bisL ns x lo hi → ns.getD i 0 < x) ∧ (∀ i, bisL ns x lo hi ≤ i → i < ns.length → x ≤ ns.getD i 0) := by
  intro k
  induction k with
  | zero =>
    intro lo hi h1 h2 h3 h4 h5
    rw [bisL_end (by omega)]
    exact ⟨h4, fun i hi => h5 i (by omega)⟩
  | succ k ih =>
    intro lo hi h1 h2 h3 h4 h5
    by_cases h : lo < hi
    · by_cases hx : ns.getD ((lo + hi) / 2) 0 < x
      · rw [bisL_right h hx]
        refine ih _ _ (by omega) (by omega) (by omega) (fun i h6 => ?_) h5
        have := hs i ((lo + hi) / 2) (by omega) (by omega)
        omega
      · rw [bisL_left h hx]
        refine ih _ _ (by omega) (by omega) (by omega) h4 fun i h6 h7 => ?_
        have := hs _ i h6 h7
        omega
    · rw [bisL_end h]
      exact ⟨h4, fun i hi => h5 i (by omega)⟩
theorem sorted_getD {ns : List Int} (h : ns.Pairwise (· ≤ ·)) : ∀ i j, i ≤ j → j < ns.length → ns.getD i 0 ≤ ns.getD j 0 := by
  intro i j h1 h2
  rw [getD_lt h2, getD_lt (Nat.lt_of_le_of_lt h1 h2)]
  rcases Nat.lt_or_eq_of_le h1 with h3 | h3
  · exact List.pairwise_iff_getElem.mp h i j _ _ h3
  · subst h3; exact Int.le_refl _
theorem spotR_spec {ns : List Int} (x : Int) (h : ns.Pairwise (· ≤ ·)) : (∀ v ∈ ns.take (spotR ns x), v ≤ x) ∧ (∀ v ∈ ns.drop (spotR ns x), x < v) := by
  obtain ⟨h1, h2⟩ := bisR_spec x (sorted_getD h) _ 0 ns.length (Nat.le_refl _) (Nat.zero_le _) (Nat.le_refl _) (fun i hi => by omega) (fun i hi hj => by omega)
  constructor
  · intro v hv
    obtain ⟨i, hi, rfl⟩ := List.mem_iff_getElem.mp hv
    rw [List.length_take] at hi
    have := h1 i (show i < spotR ns x by omega)
    rw [getD_lt (by omega)] at this
    rw [List.getElem_take]
    exact this
  · intro v hv
    obtain ⟨i, hi, rfl⟩ := List.mem_iff_getElem.mp hv
    rw [List.length_drop] at hi
    have := h2 (spotR ns x + i) (Nat.le_add_right _ _) (by omega)
    rw [getD_lt (by omega)] at this
    rw [List.getElem_drop]
    exact this
theorem spotL_spec {ns : List Int} (x : Int) (h : ns.Pairwise (· ≤ ·)) : (∀ v ∈ ns.take (spotL ns x), v < x) ∧ (∀ v ∈ ns.drop (spotL ns x), x ≤ v) := by
  obtain ⟨h1, h2⟩ := bisL_spec x (sorted_getD h) _ 0 ns.length (Nat.le_refl _) (Nat.zero_le _) (Nat.le_refl _) (fun i hi => by omega) (fun i hi hj => by omega)
  constructor
  · intro v hv
    obtain ⟨i, hi, rfl⟩ := List.mem_iff_getElem.mp hv
    rw [List.length_take] at hi
    have := h1 i (show i < spotL ns x by omega)
    rw [getD_lt (by omega)] at this
    rw [List.getElem_take]
    exact this
  · intro v hv
    obtain ⟨i, hi, rfl⟩ := List.mem_iff_getElem.mp hv
    rw [List.length_drop] at hi
    have := h2 (spotL ns x + i) (Nat.le_add_right _ _) (by omega)
    rw [getD_lt (by omega)] at this
    rw [List.getElem_drop]
    exact this
theorem cut_count {ns : List Int} {r : Nat} (hr : r ≤ ns.length) (p : Int → Bool) (h1 : ∀ v ∈ ns.take r, p v = true) (h2 : ∀ v ∈ ns.drop r, p v = false) : r = ns.countP p := by
  have e : ns.countP p = (ns.take r).countP p + (ns.drop r).countP p := by rw [← List.countP_append, List.take_append_drop]
  have e1 : (ns.take r).countP p = (ns.take r).length := List.countP_eq_length.mpr h1
  have e2 : (ns.drop r).countP p = 0 := List.countP_eq_zero.mpr fun v hv => by rw [h2 v hv]; decide
  rw [List.length_take] at e1
  omega
theorem spotR_count {ns : List Int} (x : Int) (h : ns.Pairwise (· ≤ ·)) : spotR ns x = ns.countP (fun v => decide (v ≤ x)) := by
  obtain ⟨h1, h2⟩ := spotR_spec x h
  exact cut_count (spotR_le ns x) _ (fun v hv => decide_eq_true (h1 v hv)) (fun v hv => decide_eq_false (by have := h2 v hv; omega))
theorem spotL_count {ns : List Int} (x : Int) (h : ns.Pairwise (· ≤ ·)) : spotL ns x = ns.countP (fun v => decide (v < x)) := by
  obtain ⟨h1, h2⟩ := spotL_spec x h
  exact cut_count (spotL_le ns x) _ (fun v hv => decide_eq_true (h1 v hv)) (fun v hv => decide_eq_false (by have := h2 v hv; omega))
theorem insR_perm (ns : List Int) (x : Int) : (insR ns x).Perm (x :: ns) := by
  unfold insR
  refine List.perm_middle.trans ?_
  rw [List.take_append_drop]
theorem insR_sorted {ns : List Int} (x : Int) (h : ns.Pairwise (· ≤ ·)) : (insR ns x).Pairwise (· ≤ ·) := by
  obtain ⟨h1, h2⟩ := spotR_spec x h
  unfold insR
  rw [List.pairwise_append, List.pairwise_cons]
  refine ⟨h.sublist (List.take_sublist _ _), ⟨fun v hv => by have := h2 v hv; omega, h.sublist (List.drop_sublist _ _)⟩, fun a ha b hb => ?_⟩
  have h3 := h1 a ha
  rcases List.mem_cons.mp hb with hb | hb
  · omega
  · have := h2 b hb; omega
theorem insR_strict {ns : List Int} (x : Int) (h : ns.Pairwise (· < ·)) (hx : x ∉ ns) : (insR ns x).Pairwise (· < ·) := by
  obtain ⟨h1, h2⟩ := spotR_spec x (h.imp fun h => Int.le_of_lt h)
  unfold insR
  rw [List.pairwise_append, List.pairwise_cons]
  have h4 : ∀ v ∈ ns.take (spotR ns x), v < x := fun v hv => by
    have h3 := h1 v hv
    have : v ≠ x := fun e => hx (e ▸ List.mem_of_mem_take hv)
    omega
  refine ⟨h.sublist (List.take_sublist _ _), ⟨fun v hv => h2 v hv, h.sublist (List.drop_sublist _ _)⟩, fun a ha b hb => ?_⟩
  have h3 := h4 a ha
  rcases List.mem_cons.mp hb with hb | hb
  · omega
  · have := h2 b hb; omega
theorem fold_ins (f : Int × Int → Int) : ∀ (sp : List (Int × Int)) (ks : List Int), ks.Pairwise (· ≤ ·) → (sp.foldl (fun ks q => insR ks (f q)) ks).Pairwise (· ≤ ·) ∧ (sp.foldl (fun ks q => insR ks (f q)) ks).Perm (sp.map f ++ ks)
  | [], ks, h => ⟨h, List.Perm.refl _⟩
  | q :: sp, ks, h => by
    obtain ⟨h1, h2⟩ := fold_ins f sp (insR ks (f q)) (insR_sorted _ h)
    refine ⟨h1, h2.trans ?_⟩
    refine ((insR_perm ks (f q)).append_left _).trans ?_
    rw [List.map_cons, List.cons_append]
    exact List.perm_middle
/-- the place of a member of a strictly rising list -/
theorem spotL_at {K : List Int} (h : K.Pairwise (· < ·)) {p : Nat} (hp : p < K.length) : spotL K K[p] = p := by
  obtain ⟨h1, h2⟩ := bisL_spec K[p] (sorted_getD (h.imp fun h => Int.le_of_lt h)) _ 0 K.length (Nat.le_refl _) (Nat.zero_le _) (Nat.le_refl _) (fun i hi => by omega) (fun i hi hj => by omega)
  change (∀ i, i < spotL K K[p] → _) at h1
  change (∀ i, spotL K K[p] ≤ i → _) at h2
  have hP := List.pairwise_iff_getElem.mp h
  rcases Nat.lt_trichotomy (spotL K K[p]) p with h3 | h3 | h3
  · have := h2 _ (Nat.le_refl _) (Nat.lt_trans h3 hp)
    rw [getD_lt (Nat.lt_trans h3 hp)] at this
    have := hP _ p (Nat.lt_trans h3 hp) hp h3
    omega
  · exact h3
  · have := h1 p h3
    rw [getD_lt hp] at this
    omega
theorem keep1_spec {ks : List Int} (c : Int) (h : ks.Pairwise (· < ·)) : (keep1 ks c).Pairwise (· < ·) ∧ ∀ v, v ∈ keep1 ks c ↔ (v = c ∨ v ∈ ks) := by
  unfold keep1
  split
  · rename_i hc
    refine ⟨h, fun v => ⟨.inr, fun hv => ?_⟩⟩
    rcases hv with rfl | hv
    · have : v ∈ (ks.drop (spotL ks v)).take 1 := by rw [hc]; exact List.mem_singleton.mpr rfl
      exact List.mem_of_mem_drop (List.mem_of_mem_take this)
    · exact hv
  · rename_i hc
    have hn : c ∉ ks := fun hm => by
      obtain ⟨p, hp, rfl⟩ := List.mem_iff_getElem.mp hm
      apply hc
      rw [spotL_at h hp, List.drop_eq_getElem_cons hp]
      rfl
    exact ⟨insR_strict c h hn, fun v => by rw [(insR_perm ks c).mem_iff, List.mem_cons]⟩
theorem keep_spec : ∀ (cl ks : List Int), ks.Pairwise (· < ·) → (cl.foldl keep1 ks).Pairwise (· < ·) ∧ ∀ v, v ∈ cl.foldl keep1 ks ↔ (v ∈ cl ∨ v ∈ ks)
  | [], ks, h => ⟨h, fun v => by simp⟩
  | c :: cl, ks, h => by
    obtain ⟨h1, h2⟩ := keep1_spec c h
    obtain ⟨h3, h4⟩ := keep_spec cl (keep1 ks c) h1
    refine ⟨h3, fun v => ?_⟩
    rw [List.foldl_cons, h4, h2, List.mem_cons]
    constructor
    · rintro (h | h | h)
      · exact .inl (.inr h)
      · exact .inl (.inl h)
      · exact .inr h
    · rintro ((h | h) | h)
      · exact .inr (.inl h)
      · exact .inl h
      · exact .inr (.inr h)
theorem strict_eq {l k : List Int} (hl : l.Pairwise (· < ·)) (hk : k.Pairwise (· < ·)) (h : ∀ v, v ∈ l ↔ v ∈ k) : l = k := by
  have nl : l.Nodup := hl.imp fun h => by omega
  have nk : k.Nodup := hk.imp fun h => by omega
  exact ((List.perm_ext_iff_of_nodup nl nk).mpr h).eq_of_pairwise (le := (· < ·)) (fun a b _ _ h1 h2 => by omega) hl hk
end Mine
end

-- part P5
section
open PySem PySem.W PySem.Calls PyProof.Rows
set_option maxRecDepth 100000
namespace Mine
theorem count_lt {α : Type} {p r : α → Bool} : ∀ {l : List α}, (∀ q ∈ l, p q = true → r q = true) → (∃ q ∈ l, p q = false ∧ r q = true) → l.countP p < l.countP r
  | [], _, h => by obtain ⟨q, hq, _⟩ := h; cases hq
  | a :: l, h, h2 => by
    have hm : l.countP p ≤ l.countP r := List.countP_mono_left fun q hq => h q (.tail _ hq)
    rw [List.countP_cons, List.countP_cons]
    obtain ⟨q, hq, h3, h4⟩ := h2
    rcases List.mem_cons.mp hq with rfl | hq
    · rw [if_neg (by rw [h3]; decide), if_pos h4]; omega
    · have := count_lt (fun q hq => h q (.tail _ hq)) ⟨q, hq, h3, h4⟩
      have h5 := h a (.head _)
      by_cases h6 : p a = true
      · rw [if_pos h6, if_pos (h5 h6)]; omega
      · rw [if_neg h6]; split <;> omega
theorem count_eq {α : Type} {p r : α → Bool} {l : List α} (h : ∀ q ∈ l, p q = r q) : l.countP p = l.countP r := List.countP_congr fun q hq => by rw [h q hq]
/-- the rows done before x -/
def cA (sp : List (Int × Int)) (x : Int) : Nat := sp.countP fun q => decide (q.2 < x)
/-- the rows begun by x -/
def cB (sp : List (Int × Int)) (x : Int) : Nat := sp.countP fun q => decide (q.1 ≤ x)
def goodB (sp : List (Int × Int)) (t : Int) : Bool := sp.any (fun q => decide (q.1 = t)) && sp.any (fun q => decide (t ≤ q.2) && sp.all (fun r => !(decide (t < r.1) && decide (r.1 ≤ q.2))))
theorem goodB_iff (sp : List (Int × Int)) (t : Int) : goodB sp t = true ↔ (∃ q ∈ sp, q.1 = t) ∧ ∃ q ∈ sp, t ≤ q.2 ∧ ∀ r ∈ sp, t < r.1 → q.2 < r.1 := by
  unfold goodB
  simp only [Bool.and_eq_true, List.any_eq_true, decide_eq_true_eq, List.all_eq_true, Bool.not_eq_true', Bool.and_eq_false_iff, decide_eq_false_iff_not]
  constructor
  · rintro ⟨h1, q, hq, h2, h3⟩
    refine ⟨h1, q, hq, h2, fun r hr h4 => ?_⟩
    rcases h3 r hr with h5 | h5 <;> omega
  · rintro ⟨h1, q, hq, h2, h3⟩
    refine ⟨h1, q, hq, h2, fun r hr => ?_⟩
    by_cases h4 : t < r.1
    · have := h3 r hr h4
      exact .inr (by omega)
    · exact .inl h4
def goods (sp : List (Int × Int)) : List Int := ((List.range 7).map fun (i : Nat) => (i : Int)).filter (goodB sp)
theorem goods_strict (sp : List (Int × Int)) : (goods sp).Pairwise (· < ·) := by
  unfold goods
  refine List.Pairwise.filter _ ?_
  decide
theorem goods_mem {sp : List (Int × Int)} (hb : ∀ q ∈ sp, 0 ≤ q.1 ∧ q.1 ≤ q.2 ∧ q.2 ≤ 6) (t : Int) : t ∈ goods sp ↔ goodB sp t = true := by
  unfold goods
  rw [List.mem_filter]
  refine ⟨fun h => h.2, fun h => ⟨?_, h⟩⟩
  obtain ⟨⟨q, hq, h1⟩, _⟩ := (goodB_iff sp t).mp h
  have := hb q hq
  exact List.mem_map.mpr ⟨t.toNat, List.mem_range.mpr (by omega), by rw [Int.toNat_of_nonneg (by omega)]⟩
theorem cA_mono (sp : List (Int × Int)) {x y : Int} (h : x ≤ y) : cA sp x ≤ cA sp y := List.countP_mono_left fun q _ hp => by
  have := of_decide_eq_true hp
  exact decide_eq_true (by omega)
theorem cB_mono (sp : List (Int × Int)) {x y : Int} (h : x ≤ y) : cB sp x ≤ cB sp y := List.countP_mono_left fun q _ hp => by
  have := of_decide_eq_true hp
  exact decide_eq_true (by omega)
theorem cA_lt {sp : List (Int × Int)} {x y : Int} {q : Int × Int} (hq : q ∈ sp) (h1 : x ≤ q.2) (h2 : q.2 < y) : cA sp x < cA sp y := by
  refine count_lt (fun q _ hp => ?_) ⟨q, hq, decide_eq_false (by omega), decide_eq_true h2⟩
  have := of_decide_eq_true hp
  exact decide_eq_true (by omega)
theorem cB_lt {sp : List (Int × Int)} {x y : Int} {q : Int × Int} (hq : q ∈ sp) (h1 : x < q.1) (h2 : q.1 ≤ y) : cB sp x < cB sp y := by
  refine count_lt (fun q _ hp => ?_) ⟨q, hq, decide_eq_false (by omega), decide_eq_true h2⟩
  have := of_decide_eq_true hp
  exact decide_eq_true (by omega)
theorem cA_eq {sp : List (Int × Int)} {x y : Int} (h : x ≤ y) (h2 : ∀ q ∈ sp, x ≤ q.2 → y ≤ q.2) : cA sp x = cA sp y := by
  refine count_eq fun q hq => ?_
  have := h2 q hq
  by_cases h3 : q.2 < x
  · rw [decide_eq_true h3, decide_eq_true (by omega)]
  · rw [decide_eq_false h3, decide_eq_false (by omega)]
theorem cB_eq {sp : List (Int × Int)} {x y : Int} (h : x ≤ y) (h2 : ∀ q ∈ sp, q.1 ≤ y → q.1 ≤ x) : cB sp x = cB sp y := by
  refine count_eq fun q hq => ?_
  have := h2 q hq
  by_cases h3 : q.1 ≤ x
  · rw [decide_eq_true h3, decide_eq_true (by omega)]
  · rw [decide_eq_false h3, decide_eq_false (by omega)]
/-- a greatest member of those with p -/
theorem max_ex (p : Int → Prop) : ∀ (l : List Int), (∃ x ∈ l, p x) → ∃ x ∈ l, p x ∧ ∀ y ∈ l, p y → y ≤ x
  | [], h => by obtain ⟨x, hx, _⟩ := h; cases hx
  | a :: l, h => by
    by_cases hl : ∃ x ∈ l, p x
    · obtain ⟨x, hx, h1, h2⟩ := max_ex p l hl
      by_cases ha : p a ∧ x < a
      · refine ⟨a, .head _, ha.1, fun y hy hp => ?_⟩
        rcases List.mem_cons.mp hy with rfl | hy
        · exact Int.le_refl _
        · have := h2 y hy hp; omega
      · refine ⟨x, .tail _ hx, h1, fun y hy hp => ?_⟩
        rcases List.mem_cons.mp hy with rfl | hy
        · exact Int.not_lt.mp fun h => ha ⟨hp, h⟩
        · exact h2 y hy hp
    · obtain ⟨x, hx, h1⟩ := h
      rcases List.mem_cons.mp hx with rfl | hx
      · refine ⟨x, .head _, h1, fun y hy hp => ?_⟩
        rcases List.mem_cons.mp hy with rfl | hy
        · exact Int.le_refl _
        · exact absurd ⟨y, hy, hp⟩ hl
      · exact absurd ⟨x, hx, h1⟩ hl
theorem min_ex (p : Int → Prop) (l : List Int) (h : ∃ x ∈ l, p x) : ∃ x ∈ l, p x ∧ ∀ y ∈ l, p y → x ≤ y := by
  obtain ⟨x, hx, h1⟩ := h
  obtain ⟨y, hy, h2, h3⟩ := max_ex (fun v => p (-v)) (l.map fun v => -v) ⟨-x, List.mem_map.mpr ⟨x, hx, rfl⟩, by rw [Int.neg_neg]; exact h1⟩
  obtain ⟨z, hz, rfl⟩ := List.mem_map.mp hy
  rw [Int.neg_neg] at h2
  refine ⟨z, hz, h2, fun w hw hp => ?_⟩
  have := h3 (-w) (List.mem_map.mpr ⟨w, hw, rfl⟩) (by rw [Int.neg_neg]; exact hp)
  omega

theorem good_A {sp : List (Int × Int)} {q : Int × Int} (hb : ∀ q ∈ sp, q.1 ≤ q.2) (hq : q ∈ sp) : ∃ t, goodB sp t = true ∧ cA sp t = cA sp q.1 := by
  obtain ⟨t, ht, h1, h2⟩ := max_ex (fun t => q.1 ≤ t ∧ cA sp t = cA sp q.1) (sp.map (·.1)) ⟨q.1, List.mem_map.mpr ⟨q, hq, rfl⟩, Int.le_refl _, rfl⟩
  obtain ⟨r, hr, rfl⟩ := List.mem_map.mp ht
  obtain ⟨e, he, h3, h4⟩ := min_ex (fun e => r.1 ≤ e) (sp.map (·.2)) ⟨r.2, List.mem_map.mpr ⟨r, hr, rfl⟩, hb r hr⟩
  obtain ⟨j, hj, rfl⟩ := List.mem_map.mp he
  refine ⟨r.1, (goodB_iff sp _).mpr ⟨⟨r, hr, rfl⟩, j, hj, h3, fun k hk h5 => ?_⟩, h1.2⟩
  refine Int.not_le.mp fun h6 => ?_
  have h7 := cA_eq (sp := sp) (Int.le_of_lt h5) fun x hx h8 => by
    have := h4 x.2 (List.mem_map.mpr ⟨x, hx, rfl⟩) h8
    omega
  have := h2 k.1 (List.mem_map.mpr ⟨k, hk, rfl⟩) ⟨by have := h1.1; omega, by rw [← h7]; exact h1.2⟩
  omega
theorem good_A2 {sp : List (Int × Int)} {t : Int} (ht : goodB sp t = true) : ∃ q ∈ sp, cA sp t = cA sp q.1 := by
  obtain ⟨⟨q, hq, h1⟩, _⟩ := (goodB_iff sp t).mp ht
  exact ⟨q, hq, by rw [h1]⟩
theorem good_B {sp : List (Int × Int)} {q : Int × Int} (hb : ∀ q ∈ sp, q.1 ≤ q.2) (hq : q ∈ sp) : ∃ t, goodB sp t = true ∧ cB sp t = cB sp q.2 := by
  obtain ⟨t, ht, h1, h2⟩ := max_ex (fun t => t ≤ q.2) (sp.map (·.1)) ⟨q.1, List.mem_map.mpr ⟨q, hq, rfl⟩, hb q hq⟩
  obtain ⟨r, hr, rfl⟩ := List.mem_map.mp ht
  have h3 : ∀ k ∈ sp, r.1 < k.1 → q.2 < k.1 := fun k hk h5 => by
    refine Int.not_le.mp fun h6 => ?_
    have := h2 k.1 (List.mem_map.mpr ⟨k, hk, rfl⟩) h6
    omega
  refine ⟨r.1, (goodB_iff sp _).mpr ⟨⟨r, hr, rfl⟩, q, hq, h1, h3⟩, cB_eq h1 fun k hk h5 => Int.not_lt.mp fun h6 => ?_⟩
  have := h3 k hk h6
  omega
theorem good_B2 {sp : List (Int × Int)} {t : Int} (ht : goodB sp t = true) : ∃ q ∈ sp, cB sp t = cB sp q.2 := by
  obtain ⟨_, q, hq, h1, h2⟩ := (goodB_iff sp t).mp ht
  exact ⟨q, hq, cB_eq h1 fun k hk h5 => Int.not_lt.mp fun h6 => by have := h2 k hk h6; omega⟩
theorem A_le {sp : List (Int × Int)} {q : Int × Int} {t : Int} (hq : q ∈ sp) (ht : goodB sp t = true) : cA sp q.1 ≤ cA sp t ↔ q.1 ≤ t := by
  refine ⟨fun h => Int.not_lt.mp fun h2 => ?_, fun h => cA_mono sp h⟩
  obtain ⟨_, j, hj, h3, h4⟩ := (goodB_iff sp t).mp ht
  have := cA_lt hj h3 (h4 q hq h2)
  omega
theorem B_le {sp : List (Int × Int)} {q : Int × Int} {t : Int} (ht : goodB sp t = true) : cB sp t ≤ cB sp q.2 ↔ t ≤ q.2 := by
  refine ⟨fun h => Int.not_lt.mp fun h2 => ?_, fun h => cB_mono sp h⟩
  obtain ⟨⟨r, hr, rfl⟩, _⟩ := (goodB_iff sp t).mp ht
  have := cB_lt hr h2 (Int.le_refl _)
  omega
theorem goods_A_strict {sp : List (Int × Int)} : ((goods sp).map fun t => (cA sp t : Int)).Pairwise (· < ·) := by
  rw [List.pairwise_map]
  refine (List.Pairwise.and_mem.mp (goods_strict sp)).imp fun {a b} h => ?_
  obtain ⟨h1, h2, h3⟩ := h
  obtain ⟨⟨r, hr, h4⟩, _⟩ := (goodB_iff sp b).mp (List.mem_filter.mp h2).2
  have := (A_le (sp := sp) hr (List.mem_filter.mp h1).2)
  rw [h4] at this
  omega
theorem goods_B_strict {sp : List (Int × Int)} : ((goods sp).map fun t => (cB sp t : Int)).Pairwise (· < ·) := by
  rw [List.pairwise_map]
  refine (List.Pairwise.and_mem.mp (goods_strict sp)).imp fun {a b} h => ?_
  obtain ⟨h1, h2, h3⟩ := h
  obtain ⟨⟨r, hr, h4⟩, _⟩ := (goodB_iff sp b).mp (List.mem_filter.mp h2).2
  have := cB_lt (x := a) (y := b) hr (by omega) (by omega)
  omega
def leftsOf (sp : List (Int × Int)) : List Int := sp.map fun q => (cA sp q.1 : Int)
def rightsOf (sp : List (Int × Int)) : List Int := sp.map fun q => (cB sp q.2 : Int)
theorem kept_A {sp : List (Int × Int)} (hb : ∀ q ∈ sp, 0 ≤ q.1 ∧ q.1 ≤ q.2 ∧ q.2 ≤ 6) : (leftsOf sp).foldl keep1 [] = (goods sp).map fun t => (cA sp t : Int) := by
  obtain ⟨h1, h2⟩ := keep_spec (leftsOf sp) [] .nil
  refine strict_eq h1 goods_A_strict fun v => ?_
  rw [h2, List.mem_map]
  constructor
  · rintro (h | h)
    · obtain ⟨q, hq, rfl⟩ := List.mem_map.mp h
      obtain ⟨t, h3, h4⟩ := good_A (fun q hq => (hb q hq).2.1) hq
      exact ⟨t, (goods_mem hb t).mpr h3, by rw [h4]⟩
    · cases h
  · rintro ⟨t, ht, rfl⟩
    obtain ⟨q, hq, h3⟩ := good_A2 ((goods_mem hb t).mp ht)
    exact .inl (List.mem_map.mpr ⟨q, hq, by rw [h3]⟩)
theorem kept_B {sp : List (Int × Int)} (hb : ∀ q ∈ sp, 0 ≤ q.1 ∧ q.1 ≤ q.2 ∧ q.2 ≤ 6) : (rightsOf sp).foldl keep1 [] = (goods sp).map fun t => (cB sp t : Int) := by
  obtain ⟨h1, h2⟩ := keep_spec (rightsOf sp) [] .nil
  refine strict_eq h1 goods_B_strict fun v => ?_
  rw [h2, List.mem_map]
  constructor
  · rintro (h | h)
    · obtain ⟨q, hq, rfl⟩ := List.mem_map.mp h
      obtain ⟨t, h3, h4⟩ := good_B (fun q hq => (hb q hq).2.1) hq
      exact ⟨t, (goods_mem hb t).mpr h3, by rw [h4]⟩
    · cases h
  · rintro ⟨t, ht, rfl⟩
    obtain ⟨q, hq, h3⟩ := good_B2 ((goods_mem hb t).mp ht)
    exact .inl (List.mem_map.mpr ⟨q, hq, by rw [h3]⟩)
theorem rank_le {K : List Int} (h : K.Pairwise (· < ·)) {v : Int} (hv : v ∈ K) {i : Nat} (hi : i < K.length) : (spotL K v ≤ i ↔ v ≤ K[i]) ∧ (i ≤ spotL K v ↔ K[i] ≤ v) := by
  obtain ⟨p, hp, rfl⟩ := List.mem_iff_getElem.mp hv
  rw [spotL_at h hp]
  have hP := List.pairwise_iff_getElem.mp h
  rcases Nat.lt_trichotomy p i with h3 | h3 | h3
  · have := hP p i hp hi h3
    omega
  · subst h3; omega
  · have := hP i p hi hp h3
    omega
def maskN (p : Nat → Bool) : Nat := (((List.range 6).filter p).map fun j => 2 ^ j).sum
theorem sum_cast (l : List Nat) : (l.map fun j => ((2 ^ j : Nat) : Int)).sum = (((l.map fun j => 2 ^ j).sum : Nat) : Int) := by
  induction l with
  | nil => rfl
  | cons a l ih => rw [List.map_cons, List.map_cons, List.sum_cons, List.sum_cons, ih, Int.natCast_add]
/-- those of the clique at t -/
def onB (sp : List (Int × Int)) (t : Int) (i : Nat) : Bool := decide ((sp.getD i (0, 0)).1 ≤ t) && decide (t ≤ (sp.getD i (0, 0)).2)
theorem getD_sp {sp : List (Int × Int)} {i : Nat} (h : i < sp.length) : sp.getD i (0, 0) = sp[i] := by simp [h]
theorem getD_map' {sp : List (Int × Int)} (f : Int × Int → Int) {i : Nat} (h : i < sp.length) : (sp.map f).getD i 0 = f (sp.getD i (0, 0)) := by simp [h]
theorem group_eq {sp : List (Int × Int)} (hsp : sp.length = 6) (hb : ∀ q ∈ sp, 0 ≤ q.1 ∧ q.1 ≤ q.2 ∧ q.2 ≤ 6) {h : Nat} (hh : h < (goods sp).length) :
    groupOf (ranksOf (leftsOf sp)) (ranksOf (rightsOf sp)) h = ((maskN (onB sp ((goods sp)[h])) : Nat) : Int) := by
  unfold groupOf maskN
  rw [sum_cast]
  congr 3
  refine List.filter_congr fun i hi => ?_
  have hi6 : i < sp.length := by have := List.mem_range.mp hi; omega
  have hm : sp.getD i (0, 0) ∈ sp := by rw [getD_sp hi6]; exact List.getElem_mem hi6
  have hg : goodB sp ((goods sp)[h]) = true := (goods_mem hb _).mp (List.getElem_mem hh)
  have e1 : (ranksOf (leftsOf sp)).getD i 0 = (spotL ((goods sp).map fun t => (cA sp t : Int)) (cA sp (sp.getD i (0, 0)).1 : Int) : Int) := by
    unfold ranksOf
    rw [kept_A hb]
    unfold leftsOf
    rw [List.map_map]
    exact getD_map' _ hi6
  have e2 : (ranksOf (rightsOf sp)).getD i 0 = (spotL ((goods sp).map fun t => (cB sp t : Int)) (cB sp (sp.getD i (0, 0)).2 : Int) : Int) := by
    unfold ranksOf
    rw [kept_B hb]
    unfold rightsOf
    rw [List.map_map]
    exact getD_map' _ hi6
  have r1 := (rank_le (goods_A_strict (sp := sp)) (v := (cA sp (sp.getD i (0, 0)).1 : Int)) (by
    rw [← kept_A hb, (keep_spec (leftsOf sp) [] .nil).2]
    exact .inl (List.mem_map.mpr ⟨_, hm, rfl⟩)) (i := h) (by rw [List.length_map]; exact hh)).1
  have r2 := (rank_le (goods_B_strict (sp := sp)) (v := (cB sp (sp.getD i (0, 0)).2 : Int)) (by
    rw [← kept_B hb, (keep_spec (rightsOf sp) [] .nil).2]
    exact .inl (List.mem_map.mpr ⟨_, hm, rfl⟩)) (i := h) (by rw [List.length_map]; exact hh)).2
  rw [List.getElem_map] at r1 r2
  have a1 := A_le hm hg
  have b1 := B_le (q := sp.getD i (0, 0)) hg
  unfold inGroup onB
  rw [e1, e2]
  congr 1
  · exact decide_eq_decide.mpr ⟨fun x => a1.mp (by have := r1.mp (by omega); omega), fun x => by have := r1.mpr (by have := a1.mpr x; omega); omega⟩
  · exact decide_eq_decide.mpr ⟨fun x => b1.mp (by have := r2.mp (by omega); omega), fun x => by have := r2.mpr (by have := b1.mpr x; omega); omega⟩
theorem pl_le {pl : List Int} (hs : pl.Pairwise (· < ·)) {i j : Nat} (hi : i < pl.length) (hj : j < pl.length) : (pl.getD i 0 ≤ pl.getD j 0 ↔ i ≤ j) ∧ (pl.getD i 0 < pl.getD j 0 ↔ i < j) := by
  rw [getD_lt hi, getD_lt hj]
  have hP := List.pairwise_iff_getElem.mp hs
  rcases Nat.lt_trichotomy i j with h3 | h3 | h3
  · have := hP i j hi hj h3; omega
  · subst h3; omega
  · have := hP j i hj hi h3; omega
theorem left_eq {pl : List Int} (hpl : pl.length = 8) (hs : pl.Pairwise (· < ·)) {sp : List (Int × Int)} (hb : ∀ q ∈ sp, 0 ≤ q.1 ∧ q.1 ≤ q.2 ∧ q.2 ≤ 6) : leftOf (goneOf pl sp) pl sp = leftsOf sp := by
  unfold leftOf leftsOf goneOf
  obtain ⟨h1, h2⟩ := fold_ins (fun q => pl.getD (q.2 + 1).toNat 0) sp [] .nil
  refine List.map_congr_left fun q hq => ?_
  rw [spotR_count _ h1, h2.countP_eq, List.append_nil, List.countP_map]
  congr 1
  refine count_eq fun r hr => ?_
  have hq2 := hb q hq
  have hr2 := hb r hr
  have := (pl_le hs (i := (r.2 + 1).toNat) (j := q.1.toNat) (by omega) (by omega)).1
  exact decide_eq_decide.mpr (this.trans (by omega))
theorem right_eq {pl : List Int} (hpl : pl.length = 8) (hs : pl.Pairwise (· < ·)) {sp : List (Int × Int)} (hb : ∀ q ∈ sp, 0 ≤ q.1 ∧ q.1 ≤ q.2 ∧ q.2 ≤ 6) : rightOf (comeOf pl sp) pl sp = rightsOf sp := by
  unfold rightOf rightsOf comeOf
  obtain ⟨h1, h2⟩ := fold_ins (fun q => pl.getD q.1.toNat 0) sp [] .nil
  refine List.map_congr_left fun q hq => ?_
  rw [spotL_count _ h1, h2.countP_eq, List.append_nil, List.countP_map]
  congr 1
  refine count_eq fun r hr => ?_
  have hq2 := hb q hq
  have hr2 := hb r hr
  have := (pl_le hs (i := r.1.toNat) (j := (q.2 + 1).toNat) (by omega) (by omega)).2
  exact decide_eq_decide.mpr (this.trans (by omega))
end Mine
end

-- part P6
section
open PySem PySem.W PySem.Calls PyProof.Rows
set_option maxRecDepth 100000
namespace Mine
theorem mask_key : ∀ b0 b1 b2 b3 b4 b5 : Bool, maskN (fun j => [b0, b1, b2, b3, b4, b5].getD j false) < 64 ∧ ∀ i, i < 6 → (maskN (fun j => [b0, b1, b2, b3, b4, b5].getD j false)).testBit i = [b0, b1, b2, b3, b4, b5].getD i false := by
  decide +kernel
theorem mask_as (p : Nat → Bool) : maskN p = maskN (fun j => [p 0, p 1, p 2, p 3, p 4, p 5].getD j false) := by
  unfold maskN
  congr 2
theorem mask_lt (p : Nat → Bool) : maskN p < 64 := by
  rw [mask_as]
  exact (mask_key _ _ _ _ _ _).1
theorem mask_bit (p : Nat → Bool) (i : Nat) : (maskN p).testBit i = (decide (i < 6) && p i) := by
  by_cases h : i < 6
  · rw [mask_as, (mask_key _ _ _ _ _ _).2 i h, decide_eq_true h, Bool.true_and]
    rcases (by omega : i = 0 ∨ i = 1 ∨ i = 2 ∨ i = 3 ∨ i = 4 ∨ i = 5) with rfl | rfl | rfl | rfl | rfl | rfl <;> rfl
  · rw [decide_eq_false h, Bool.false_and]
    refine Nat.testBit_lt_two_pow (Nat.lt_of_lt_of_le (mask_lt p) ?_)
    exact Nat.pow_le_pow_right (n := 2) (by decide) (show 6 ≤ i by omega)
/-- the rows that meet all of c -/
def shN (sp : List (Int × Int)) (c : Nat) : Nat := maskN fun b => (List.range 6).all fun j => !c.testBit j || adj sp j b
theorem shN_bit (sp : List (Int × Int)) (c b : Nat) : (shN sp c).testBit b = true ↔ b < 6 ∧ ∀ j, j < 6 → c.testBit j = true → adj sp j b = true := by
  unfold shN
  rw [mask_bit]
  simp only [Bool.and_eq_true, decide_eq_true_eq, List.all_eq_true, List.mem_range, Bool.or_eq_true, Bool.not_eq_true']
  constructor
  · rintro ⟨h1, h2⟩
    refine ⟨h1, fun j hj h3 => ?_⟩
    rcases h2 j hj with h4 | h4
    · rw [h3] at h4; cases h4
    · exact h4
  · rintro ⟨h1, h2⟩
    refine ⟨h1, fun j hj => ?_⟩
    cases h3 : c.testBit j
    · exact .inl rfl
    · exact .inr (h2 j hj h3)
theorem or_bit (c i j : Nat) : (c ||| 2 ^ i).testBit j = true ↔ (c.testBit j = true ∨ i = j) := by
  rw [Nat.testBit_or, Nat.testBit_two_pow, Bool.or_eq_true, decide_eq_true_eq]
theorem meet_nat (sp : List (Int × Int)) (i : Nat) : (meetOf sp i).toNat = maskN (adj sp i) := by
  unfold meetOf maskN
  rw [sum_cast]
  exact Int.toNat_natCast _
theorem bit_ext {x y : Nat} (h : ∀ b, x.testBit b = true ↔ y.testBit b = true) : x = y :=
  Nat.eq_of_testBit_eq fun b => Bool.eq_iff_iff.mpr (h b)
theorem shN_grow (sp : List (Int × Int)) (c : Nat) {i : Nat} (hi : i < 6) : shN sp (c ||| 2 ^ i) = shN sp c &&& (((List.range 6).map (meetOf sp)).getD i 0).toNat := by
  have e : ((List.range 6).map (meetOf sp)).getD i 0 = meetOf sp i := by
    rcases (by omega : i = 0 ∨ i = 1 ∨ i = 2 ∨ i = 3 ∨ i = 4 ∨ i = 5) with rfl | rfl | rfl | rfl | rfl | rfl <;> rfl
  rw [e, meet_nat]
  refine bit_ext fun b => ?_
  rw [Nat.testBit_and, Bool.and_eq_true, shN_bit, shN_bit, mask_bit, Bool.and_eq_true, decide_eq_true_eq]
  constructor
  · rintro ⟨h1, h2⟩
    exact ⟨⟨h1, fun j hj h3 => h2 j hj ((or_bit c i j).mpr (.inl h3))⟩, h1, h2 i hi ((or_bit c i i).mpr (.inr rfl))⟩
  · rintro ⟨⟨h1, h2⟩, _, h3⟩
    refine ⟨h1, fun j hj h4 => ?_⟩
    rcases (or_bit c i j).mp h4 with h4 | h4
    · exact h2 j hj h4
    · subst h4; exact h3
def clq (sp : List (Int × Int)) : Nat → List Nat
  | 0 => [0]
  | i + 1 => clq sp i ++ ((clq sp i).filter fun c => (shN sp c).testBit i).map fun c => c ||| 2 ^ i
theorem shN_zero (sp : List (Int × Int)) : shN sp 0 = 63 := by
  refine bit_ext fun b => ?_
  rw [shN_bit]
  constructor
  · rintro ⟨h, _⟩
    rcases (by omega : b = 0 ∨ b = 1 ∨ b = 2 ∨ b = 3 ∨ b = 4 ∨ b = 5) with rfl | rfl | rfl | rfl | rfl | rfl <;> decide
  · intro h
    refine ⟨?_, fun j _ h2 => by rw [Nat.zero_testBit] at h2; cases h2⟩
    refine Nat.lt_of_not_le fun h3 => ?_
    rw [Nat.testBit_lt_two_pow (Nat.lt_of_lt_of_le (show 63 < 2 ^ 6 by decide) (Nat.pow_le_pow_right (by decide) h3))] at h
    cases h
theorem crowds_clq (sp : List (Int × Int)) : ∀ k, k ≤ 6 → crowdsN ((List.range 6).map (meetOf sp)) k = (clq sp k).map fun c => (c, shN sp c)
  | 0, _ => by
    unfold crowdsN clq
    rw [List.map_cons, shN_zero, List.map_nil]
  | k + 1, hk => by
    unfold crowdsN clq
    rw [crowds_clq sp k (by omega), List.map_append]
    congr 1
    unfold grow
    rw [List.filter_map, List.map_map, List.map_map]
    have e : (clq sp k).filter ((fun q : Nat × Nat => bit q.2 k) ∘ fun c => (c, shN sp c)) = (clq sp k).filter fun c => (shN sp c).testBit k :=
      List.filter_congr fun c _ => bit_eq _ _
    rw [e]
    refine List.map_congr_left fun c _ => ?_
    show (c ||| 2 ^ k, shN sp c &&& _) = (c ||| 2 ^ k, shN sp (c ||| 2 ^ k))
    rw [shN_grow sp c (by omega)]
theorem whole_clq (sp : List (Int × Int)) : whole (crowdsN ((List.range 6).map (meetOf sp)) 6) = (clq sp 6).filter fun c => decide (c = shN sp c) := by
  rw [crowds_clq sp 6 (Nat.le_refl _)]
  unfold whole
  rw [List.filter_map, List.map_map]
  exact List.map_id _
theorem adj_iff (sp : List (Int × Int)) (i j : Nat) : adj sp i j = true ↔ (sp.getD i (0, 0)).1 ≤ (sp.getD j (0, 0)).2 ∧ (sp.getD j (0, 0)).1 ≤ (sp.getD i (0, 0)).2 := by
  unfold adj
  rw [Bool.and_eq_true, decide_eq_true_eq, decide_eq_true_eq]
theorem low_or {c k : Nat} (h : c < 2 ^ (k + 1)) (hk : c.testBit k = true) : (c % 2 ^ k) ||| 2 ^ k = c := by
  refine bit_ext fun b => ?_
  rw [or_bit, Nat.testBit_mod_two_pow, Bool.and_eq_true, decide_eq_true_eq]
  constructor
  · rintro (h2 | rfl)
    · exact h2.2
    · exact hk
  · intro h2
    rcases Nat.lt_trichotomy b k with h3 | h3 | h3
    · exact .inl ⟨h3, h2⟩
    · exact .inr h3.symm
    · rw [Nat.testBit_lt_two_pow (Nat.lt_of_lt_of_le h (Nat.pow_le_pow_right (by decide) h3))] at h2
      cases h2
theorem low_lt {c k : Nat} (h : c < 2 ^ (k + 1)) (hk : c.testBit k = false) : c < 2 ^ k := by
  have e : c % 2 ^ k = c := bit_ext fun b => by
    rw [Nat.testBit_mod_two_pow, Bool.and_eq_true, decide_eq_true_eq]
    refine ⟨fun h => h.2, fun h2 => ⟨?_, h2⟩⟩
    rcases Nat.lt_trichotomy b k with h3 | h3 | h3
    · exact h3
    · subst h3; rw [hk] at h2; cases h2
    · rw [Nat.testBit_lt_two_pow (Nat.lt_of_lt_of_le h (Nat.pow_le_pow_right (by decide) h3))] at h2
      cases h2
  have := Nat.mod_lt c (Nat.two_pow_pos k)
  omega
theorem clq_mem {sp : List (Int × Int)} (hself : ∀ i, i < 6 → adj sp i i = true) : ∀ k, k ≤ 6 → ∀ c, c ∈ clq sp k ↔ c < 2 ^ k ∧ ∀ i j, c.testBit i = true → c.testBit j = true → adj sp i j = true
  | 0, _, c => by
    unfold clq
    rw [List.mem_singleton]
    constructor
    · rintro rfl
      exact ⟨by decide, fun i j h => by rw [Nat.zero_testBit] at h; cases h⟩
    · rintro ⟨h, _⟩
      rw [Nat.pow_zero] at h
      omega
  | k + 1, hk, c => by
    have ih := clq_mem hself k (by omega)
    unfold clq
    rw [List.mem_append, List.mem_map]
    constructor
    · rintro (h | ⟨c0, h, rfl⟩)
      · obtain ⟨h1, h2⟩ := (ih c).mp h
        exact ⟨Nat.lt_of_lt_of_le h1 (Nat.pow_le_pow_right (by decide) (Nat.le_succ k)), h2⟩
      · obtain ⟨h1, h2⟩ := List.mem_filter.mp h
        obtain ⟨h3, h4⟩ := (ih c0).mp h1
        have h5 := ((shN_bit sp c0 k).mp h2).2
        have hlow : ∀ j, c0.testBit j = true → j < 6 := fun j hj => by
          refine Nat.lt_of_not_le fun h6 => ?_
          rw [Nat.testBit_lt_two_pow (Nat.lt_of_lt_of_le h3 (Nat.pow_le_pow_right (by decide) (by omega)))] at hj
          cases hj
        refine ⟨Nat.or_lt_two_pow (Nat.lt_of_lt_of_le h3 (Nat.pow_le_pow_right (by decide) (Nat.le_succ k))) (Nat.pow_lt_pow_right (by decide) (Nat.lt_succ_self k)), fun i j hi hj => ?_⟩
        rcases (or_bit _ _ _).mp hi with hi | hi <;> rcases (or_bit _ _ _).mp hj with hj | hj
        · exact h4 i j hi hj
        · subst hj; exact h5 i (hlow i hi) hi
        · subst hi
          have := (adj_iff sp j k).mp (h5 j (hlow j hj) hj)
          exact (adj_iff sp k j).mpr ⟨this.2, this.1⟩
        · subst hi; subst hj; exact hself _ (by omega)
    · rintro ⟨h1, h2⟩
      cases h3 : c.testBit k
      · exact .inl ((ih c).mpr ⟨low_lt h1 h3, h2⟩)
      · have hb : ∀ i, (c % 2 ^ k).testBit i = true → c.testBit i = true := fun i hi => by
          rw [Nat.testBit_mod_two_pow, Bool.and_eq_true] at hi
          exact hi.2
        refine .inr ⟨c % 2 ^ k, List.mem_filter.mpr ⟨(ih _).mpr ⟨Nat.mod_lt _ (Nat.two_pow_pos k), fun i j hi hj => h2 i j (hb i hi) (hb j hj)⟩, ?_⟩, low_or h1 h3⟩
        exact (shN_bit sp _ k).mpr ⟨by omega, fun j _ hj => h2 j k (hb j hj) h3⟩
theorem clq_nodup {sp : List (Int × Int)} (hself : ∀ i, i < 6 → adj sp i i = true) : ∀ k, k ≤ 6 → (clq sp k).Nodup
  | 0, _ => by unfold clq; decide
  | k + 1, hk => by
    have ih := clq_nodup hself k (by omega)
    have hm := clq_mem hself k (by omega)
    unfold clq
    rw [List.nodup_append]
    have hk0 : ∀ c, c ∈ clq sp k → c.testBit k = false := fun c hc => Nat.testBit_lt_two_pow ((hm c).mp hc).1
    refine ⟨ih, ?_, ?_⟩
    · unfold List.Nodup
      rw [List.pairwise_map]
      have ih2 : ((clq sp k).filter fun c => (shN sp c).testBit k).Pairwise (· ≠ ·) := List.Pairwise.filter _ ih
      refine (List.Pairwise.and_mem.mp ih2).imp fun {a b} h => ?_
      obtain ⟨h1, h2, h3⟩ := h
      intro e
      refine h3 (bit_ext fun i => ?_)
      have ha := hk0 a (List.mem_filter.mp h1).1
      have hb := hk0 b (List.mem_filter.mp h2).1
      have := or_bit a k i
      rw [e, or_bit b k i] at this
      by_cases hi : k = i
      · subst hi; rw [ha, hb]
      · constructor
        · intro h4
          rcases this.mpr (.inl h4) with h5 | h5
          · exact h5
          · exact absurd h5 hi
        · intro h4
          rcases this.mp (.inl h4) with h5 | h5
          · exact h5
          · exact absurd h5 hi
    · intro a ha b hb e
      obtain ⟨c, hc, rfl⟩ := List.mem_map.mp hb
      have h1 := hk0 a ha
      rw [e, (or_bit c k k).mpr (.inr rfl)] at h1
      cases h1
/-- the whole crowds are those at the good starts -/
theorem whole_mem {sp : List (Int × Int)} (hsp : sp.length = 6) (hb : ∀ q ∈ sp, 0 ≤ q.1 ∧ q.1 ≤ q.2 ∧ q.2 ≤ 6) (c : Nat) :
    c ∈ whole (crowdsN ((List.range 6).map (meetOf sp)) 6) ↔ ∃ t ∈ goods sp, maskN (onB sp t) = c := by
  have hget : ∀ i, i < 6 → sp.getD i (0, 0) ∈ sp := fun i hi => by
    rw [getD_sp (by omega)]; exact List.getElem_mem _
  have hidx : ∀ q ∈ sp, ∃ i, i < 6 ∧ sp.getD i (0, 0) = q := fun q hq => by
    obtain ⟨i, hi, rfl⟩ := List.mem_iff_getElem.mp hq
    exact ⟨i, by omega, getD_sp hi⟩
  have hself : ∀ i, i < 6 → adj sp i i = true := fun i hi => (adj_iff sp i i).mpr ⟨(hb _ (hget i hi)).2.1, (hb _ (hget i hi)).2.1⟩
  have hon : ∀ t i, (maskN (onB sp t)).testBit i = true ↔ i < 6 ∧ (sp.getD i (0, 0)).1 ≤ t ∧ t ≤ (sp.getD i (0, 0)).2 := fun t i => by
    rw [mask_bit]
    unfold onB
    rw [Bool.and_eq_true, Bool.and_eq_true, decide_eq_true_eq, decide_eq_true_eq, decide_eq_true_eq]
  rw [whole_clq, List.mem_filter, clq_mem hself 6 (Nat.le_refl _), decide_eq_true_eq]
  constructor
  · rintro ⟨⟨h1, h2⟩, h3⟩
    have hlow : ∀ j, c.testBit j = true → j < 6 := fun j hj => by
      rw [h3] at hj
      exact ((shN_bit sp c j).mp hj).1
    have hne : ∃ i, c.testBit i = true := by
      refine Classical.byContradiction fun hn => ?_
      have e0 : c = 0 := bit_ext fun b => ⟨fun h => absurd ⟨b, h⟩ hn, fun h => by rw [Nat.zero_testBit] at h; cases h⟩
      rw [e0, shN_zero] at h3
      cases h3
    obtain ⟨i1, hi1⟩ := hne
    obtain ⟨t, ht, ⟨i0, hi0, e0⟩, hmax⟩ := max_ex (fun t => ∃ i, c.testBit i = true ∧ (sp.getD i (0, 0)).1 = t) (sp.map (·.1)) ⟨_, List.mem_map.mpr ⟨_, hget i1 (hlow i1 hi1), rfl⟩, i1, hi1, rfl⟩
    obtain ⟨e, he, ⟨j0, hj0, f0⟩, hmin⟩ := min_ex (fun t => ∃ i, c.testBit i = true ∧ (sp.getD i (0, 0)).2 = t) (sp.map (·.2)) ⟨_, List.mem_map.mpr ⟨_, hget i1 (hlow i1 hi1), rfl⟩, i1, hi1, rfl⟩
    have hs : ∀ i, c.testBit i = true → (sp.getD i (0, 0)).1 ≤ t := fun i hi => hmax _ (List.mem_map.mpr ⟨_, hget i (hlow i hi), rfl⟩) ⟨i, hi, rfl⟩
    have hE : ∀ i, c.testBit i = true → e ≤ (sp.getD i (0, 0)).2 := fun i hi => hmin _ (List.mem_map.mpr ⟨_, hget i (hlow i hi), rfl⟩) ⟨i, hi, rfl⟩
    have hte : t ≤ e := by
      have := ((adj_iff sp i0 j0).mp (h2 i0 j0 hi0 hj0)).1
      omega
    have hin : ∀ k, k < 6 → (∀ j, c.testBit j = true → adj sp j k = true) → c.testBit k = true := fun k hk h4 => by
      rw [h3]
      exact (shN_bit sp c k).mpr ⟨hk, fun j _ hj => h4 j hj⟩
    refine ⟨t, (goods_mem hb t).mpr ((goodB_iff sp t).mpr ⟨⟨_, hget i0 (hlow i0 hi0), e0⟩, _, hget j0 (hlow j0 hj0), by omega, fun r hr h5 => ?_⟩), ?_⟩
    · obtain ⟨k, hk, rfl⟩ := hidx r hr
      refine Int.not_le.mp fun h6 => ?_
      have h7 := hin k hk fun j hj => (adj_iff sp j k).mpr ⟨by have := hs j hj; have := (hb _ hr).2.1; omega, by have := hE j hj; omega⟩
      have := hs k h7
      omega
    · refine bit_ext fun i => ?_
      rw [hon]
      constructor
      · rintro ⟨h4, h5, h6⟩
        exact hin i h4 fun j hj => (adj_iff sp j i).mpr ⟨by have := hs j hj; omega, by have := hE j hj; omega⟩
      · intro h4
        exact ⟨hlow i h4, hs i h4, by have := hE i h4; omega⟩
  · rintro ⟨t, ht, rfl⟩
    obtain ⟨⟨q, hq, h1⟩, r, hr, h2, h3⟩ := (goodB_iff sp t).mp ((goods_mem hb t).mp ht)
    obtain ⟨i0, hi0, rfl⟩ := hidx q hq
    obtain ⟨j0, hj0, rfl⟩ := hidx r hr
    refine ⟨⟨mask_lt _, fun i j hi hj => ?_⟩, bit_ext fun i => ?_⟩
    · have hi := (hon t i).mp hi
      have hj := (hon t j).mp hj
      exact (adj_iff sp i j).mpr ⟨by omega, by omega⟩
    · rw [hon, shN_bit]
      constructor
      · rintro ⟨h4, h5, h6⟩
        refine ⟨h4, fun j hj hjc => ?_⟩
        have hj := (hon t j).mp hjc
        exact (adj_iff sp j i).mpr ⟨by omega, by omega⟩
      · rintro ⟨h4, h5⟩
        have m0 : (maskN (onB sp t)).testBit i0 = true := (hon t i0).mpr ⟨hi0, by omega, by have := (hb _ hq).2.1; omega⟩
        have m1 : (maskN (onB sp t)).testBit j0 = true := (hon t j0).mpr ⟨hj0, Int.not_lt.mp fun h6 => by have := h3 _ hr h6; have := (hb _ hr).2.1; omega, h2⟩
        have a0 := (adj_iff sp i0 i).mp (h5 i0 hi0 m0)
        have a1 := (adj_iff sp j0 i).mp (h5 j0 hj0 m1)
        refine ⟨h4, Int.not_lt.mp fun h6 => ?_, by omega⟩
        have := h3 _ (hget i h4) h6
        omega
theorem key_good {sp : List (Int × Int)} (hsp : sp.length = 6) (hb : ∀ q ∈ sp, 0 ≤ q.1 ∧ q.1 ≤ q.2 ∧ q.2 ≤ 6) {t : Int} (ht : t ∈ goods sp) : keyOf sp (maskN (onB sp t)) = t := by
  obtain ⟨⟨q, hq, h1⟩, _⟩ := (goodB_iff sp t).mp ((goods_mem hb t).mp ht)
  obtain ⟨i, hi, rfl⟩ := List.mem_iff_getElem.mp hq
  have hbit : ∀ i, bit (maskN (onB sp t)) i = (decide (i < 6) && onB sp t i) := fun i => by rw [bit_eq, mask_bit]
  refine (keyOf_is ?_ ?_).symm
  · refine List.mem_map.mpr ⟨i, List.mem_filter.mpr ⟨List.mem_range.mpr (by omega), ?_⟩, ?_⟩
    · rw [hbit]
      unfold onB
      rw [getD_sp hi, decide_eq_true (by omega), decide_eq_true (by omega), decide_eq_true (by have := (hb _ hq).2.1; omega)]
      rfl
    · rw [getD_sp hi]; exact h1
  · intro a ha
    obtain ⟨j, hj, rfl⟩ := List.mem_map.mp ha
    have h2 := (List.mem_filter.mp hj).2
    rw [hbit] at h2
    unfold onB at h2
    rw [Bool.and_eq_true, Bool.and_eq_true, decide_eq_true_eq, decide_eq_true_eq] at h2
    exact h2.2.1
theorem crowd_law (pl : List Int) (hpl : pl.length = 8) (hs : pl.Pairwise (· < ·)) (sp : List (Int × Int)) (hsp : sp.length = 6) (hb : ∀ q ∈ sp, 0 ≤ q.1 ∧ q.1 ≤ q.2 ∧ q.2 ≤ 6) :
    manyOf (leftOf (goneOf pl sp) pl sp) ≤ 6 ∧ manyOf (rightOf (comeOf pl sp) pl sp) = manyOf (leftOf (goneOf pl sp) pl sp) ∧
    ∀ ns : List Int, ns.Perm ((whole (crowdsN ((List.range 6).map (meetOf sp)) 6)).map fun c => ((c : Nat) : Int)) → ns.Pairwise (fun x y => keyOf sp x.toNat ≤ keyOf sp y.toNat) →
      (List.range (manyOf (leftOf (goneOf pl sp) pl sp))).map (groupOf (ranksOf (leftOf (goneOf pl sp) pl sp)) (ranksOf (rightOf (comeOf pl sp) pl sp))) = ns := by
  rw [left_eq hpl hs hb, right_eq hpl hs hb]
  have hA : manyOf (leftsOf sp) = (goods sp).length := by unfold manyOf; rw [kept_A hb, List.length_map]
  have hB : manyOf (rightsOf sp) = (goods sp).length := by unfold manyOf; rw [kept_B hb, List.length_map]
  refine ⟨?_, by rw [hA, hB], fun ns hp hk => ?_⟩
  · have := keep_len (leftsOf sp) []
    unfold manyOf
    have e : (leftsOf sp).length = 6 := by unfold leftsOf; rw [List.length_map, hsp]
    rw [e] at this
    exact this
  · have e : (List.range (manyOf (leftsOf sp))).map (groupOf (ranksOf (leftsOf sp)) (ranksOf (rightsOf sp))) = ((goods sp).map fun t => maskN (onB sp t)).map fun c => ((c : Nat) : Int) := by
      rw [hA, List.map_map]
      apply List.ext_getElem
      · simp
      · intro i h1 h2
        rw [List.length_map, List.length_range] at h1
        rw [List.getElem_map, List.getElem_map, List.getElem_range, group_eq hsp hb h1]
        rfl
    rw [e]
    have hget : ∀ i, i < 6 → sp.getD i (0, 0) ∈ sp := fun i hi => by
      rw [getD_sp (by omega)]; exact List.getElem_mem _
    have hself : ∀ i, i < 6 → adj sp i i = true := fun i hi => (adj_iff sp i i).mpr ⟨(hb _ (hget i hi)).2.1, (hb _ (hget i hi)).2.1⟩
    have hrise : ((goods sp).map fun t => maskN (onB sp t)).Pairwise (fun x y => keyOf sp x < keyOf sp y) := by
      rw [List.pairwise_map]
      refine (List.Pairwise.and_mem.mp (goods_strict sp)).imp fun {a b} h => ?_
      rw [key_good hsp hb h.1, key_good hsp hb h.2.1]
      exact h.2.2
    have hnd : ((goods sp).map fun t => maskN (onB sp t)).Nodup := hrise.imp fun {a b} h e => by subst e; omega
    have hperm : ((goods sp).map fun t => maskN (onB sp t)).Perm (whole (crowdsN ((List.range 6).map (meetOf sp)) 6)) := by
      refine (List.perm_ext_iff_of_nodup hnd ?_).mpr fun c => ?_
      · rw [whole_clq]
        exact List.Pairwise.filter _ (clq_nodup hself 6 (Nat.le_refl _))
      · rw [whole_mem hsp hb, List.mem_map]
    refine ((hperm.map _).trans hp.symm).eq_of_pairwise (le := fun x y : Int => keyOf sp x.toNat ≤ keyOf sp y.toNat) ?_ ?_ hk
    · intro a b ha hb2 h1 h2
      have hb3 := ((hperm.map (fun c : Nat => (c : Int))).trans hp.symm).mem_iff.mpr hb2
      obtain ⟨x, hx, rfl⟩ := List.mem_map.mp ha
      obtain ⟨y, hy, rfl⟩ := List.mem_map.mp hb3
      obtain ⟨u, hu, rfl⟩ := List.mem_map.mp hx
      obtain ⟨v, hv, rfl⟩ := List.mem_map.mp hy
      rw [Int.toNat_natCast, Int.toNat_natCast, key_good hsp hb hu, key_good hsp hb hv] at h1 h2
      have : u = v := by omega
      rw [this]
    · rw [List.pairwise_map]
      exact hrise.imp fun {a b} h => by rw [Int.toNat_natCast, Int.toNat_natCast]; omega
end Mine
end

-- part LawK
section
open PySem PySem.W PySem.Calls PyProof.Rows
set_option maxRecDepth 100000
set_option maxHeartbeats 8000000
namespace Mine
theorem Fr_at {g h : Heap} {L : Nat} {x : Str} {v : Option Value} {m : Str → Option Value} (hm : m x = v) (F : Fr g L h m) : Fr g L h (fun z => if z = x then v else m z) := by
  have e : (fun z => if z = x then v else m z) = m := by
    funext z
    by_cases q : z = x
    · rw [if_pos q, q, hm]
    · rw [if_neg q]
  rw [e]; exact F
def remarksOf (dr : List Int) : List Int := dr.take 6 ++ [7, 15, 2, 17, 16, 12].drop (dr.take 6).length
def numbersOf (dr : List Int) : List Int := (List.take (min 13 dr.length - 6) (List.drop 6 dr)) ++ [0, 3, 4, 2, 1, 5, 0].drop (List.take (min 13 dr.length - 6) (List.drop 6 dr)).length
def sizesOf (dr : List Int) : List Int := (dr.drop 13).map (fun x => 1 + x.fmod 4) ++ [2, 1, 3].drop (dr.drop 13).length
theorem drawsOf_len (ns : List Int) : (drawsOf ns).length ≤ 16 := by unfold drawsOf; rw [List.length_map, List.length_take]; omega
theorem remarksOf_len (dr : List Int) : (remarksOf dr).length = 6 := by
  unfold remarksOf
  simp only [List.length_append, List.length_drop, List.length_take, List.length_cons, List.length_nil]
  omega
theorem numbersOf_len (dr : List Int) : (numbersOf dr).length = 7 := by
  unfold numbersOf
  simp only [List.length_append, List.length_drop, List.length_take, List.length_cons, List.length_nil]
  omega
theorem sizesOf_len (dr : List Int) (h : dr.length ≤ 16) : (sizesOf dr).length = 3 := by
  unfold sizesOf
  simp only [List.length_append, List.length_drop, List.length_map, List.length_cons, List.length_nil]
  omega
theorem sizesOf_bd (dr : List Int) : ∀ x ∈ sizesOf dr, 1 ≤ x ∧ x ≤ 4 := by
  intro x hx
  unfold sizesOf at hx
  rcases List.mem_append.mp hx with hx | hx
  · obtain ⟨y, _, rfl⟩ := List.mem_map.mp hx
    rw [Int.fmod_eq_emod_of_nonneg _ (by decide)]
    omega
  · have := List.mem_of_mem_drop hx
    simp only [List.mem_cons, List.not_mem_nil, or_false] at this
    omega
theorem spanOf_bd (x : Int) : 0 ≤ (spanOf x).1 ∧ (spanOf x).1 ≤ (spanOf x).2 ∧ (spanOf x).2 ≤ 6 := by
  unfold spanOf
  dsimp only
  rw [Int.fmod_eq_emod_of_nonneg _ (by decide), Int.fmod_eq_emod_of_nonneg _ (by decide), Int.fdiv_eq_ediv_of_nonneg _ (by decide)]
  split <;> omega
theorem ints3 {vz : List Value} {sz : List Int} (h : IntsAre vz sz) (hl : sz.length = 3) : ∃ a b c ta tb tc, sz = [a, b, c] ∧ vz = [.int a ta, .int b tb, .int c tc] := by
  cases h with
  | nil => simp at hl
  | cons a ta h =>
    cases h with
    | nil => simp at hl
    | cons b tb h =>
      cases h with
      | nil => simp at hl
      | cons c tc h =>
        cases h with
        | nil => exact ⟨a, b, c, ta, tb, tc, rfl, rfl⟩
        | cons d td h => simp at hl

theorem law_all {w : World} {p : Program} {loose : List Str} {mg mb : Str → Option Value} {A : Around} {s : Shared} {Q : Flow → Shared → Prop}
    {g : Heap} {L Lsc : Nat} {fa : Addr} {cd : Value} {m : Str → Option Value} {o1 o2 o3 o4 o5 : Obj} {vsc : List Value} {ns : List Int} {x1 x2 x3 x4 x5 : Option Value}
    (X : (hd.heap_39 w.params).In g) (T : TopRead p loose mg mb g) (hh : A.handled = none) (hC : CodeHd g 110 108) (hB : BMain g mg)
    (hl : g.IsList Lsc vsc.toArray) (hi : IntsAre vsc ns) (hlen : ns.length ≤ 63) (hL : 108 < L)
    (F : Fr g L s.heap (fun z => if z = Str.ofString "script" then some (.ref Lsc) else m z))
    (N : News g L s.heap [(L + 1 + 1 + 1 + 1 + 1, o5), (L + 1 + 1 + 1 + 1, o4), (L + 1 + 1 + 1, o3), (L + 1 + 1, o2), (L + 1, o1), (108, tabObj #[])])
    (d1 : o1.data = .cell x1) (d2 : o2.data = .cell x2) (d3 : o3.data = .cell x3) (d4 : o4.data = .cell x4) (d5 : o5.data = .cell x5)
    (hdp : A.depth + 8 < recursionLimit) (hu : A.units + 200 < cLine)
    (hret : ∀ (h' : Heap) (tk c' : Nat) (gs : GenState), gs.bare = true → (∀ (b : Nat) o, g.get? b = some o → h'.get? b = some o) → h'.get? 108 = some (tabObj #[rawInt 98, rawInt 29, .ref c']) → Q (.ret (.bool true)) { s with heap := h', toks := tk, gens := s.gens.push gs }) :
    wpAny (model Challenge.rw_re0038_01.row.prog w) A (execs lBody (lEnv L fa cd)) Q (fun _ _ => False) s := by
  show wpAny _ _ (execs (lBody.getD 0 (.Pass default) :: lBody.drop 1) _) _ _ _
  refine wpAny_execs_cons (law_draws X T hh hl hi F N hlen ?_)
  clear F N
  intro h1 tk1 D ep ys F N iy
  show wpAny _ _ (execs (lBody.getD 1 (.Pass default) :: lBody.drop 2) _) _ _ _
  have hdl := drawsOf_len ns
  generalize drawsOf ns = dr at iy hdl
  refine wpAny_execs_cons (law_remarks X T hh F N iy hdl ?_)
  clear F N
  intro h2 tk2 R vr F N ir
  show wpAny _ _ (execs (lBody.getD 2 (.Pass default) :: lBody.drop 3) _) _ _ _
  refine wpAny_execs_cons (law_numbers X T hh F N iy hdl ?_)
  clear F N
  intro h3 tk3 Nu vn F N inu
  show wpAny _ _ (execs (lBody.getD 3 (.Pass default) :: lBody.drop 4) _) _ _ _
  refine wpAny_execs_cons (law_sizes X T hh F N iy hdl ?_)
  clear F N
  intro h4 tk4 Z vz F N iz
  show wpAny _ _ (execs (lBody.getD 4 (.Pass default) :: lBody.drop 5) _) _ _ _
  obtain ⟨a, b, c, ta, tb, tc, hsz, rfl⟩ := ints3 iz (sizesOf_len dr hdl)
  have hbd := sizesOf_bd dr
  unfold sizesOf at hbd
  rw [hsz] at hbd
  have ha := hbd a (by simp)
  have hb := hbd b (by simp)
  have hc := hbd c (by simp)
  clear hbd
  refine wpAny_execs_cons (law_spans X T hh F N ir (remarksOf_len dr) ?_)
  have N4 := N
  clear F N
  intro h5 tk5 Sp esp vsp ts F N hE htsn
  have hspl : ((remarksOf dr).map spanOf).length = 6 := by rw [List.length_map]; exact remarksOf_len dr
  have hsb : ∀ q ∈ (remarksOf dr).map spanOf, 0 ≤ q.1 ∧ q.1 ≤ q.2 ∧ q.2 ≤ 6 := by
    intro q hq
    obtain ⟨x, _, rfl⟩ := List.mem_map.mp hq
    exact spanOf_bd x
  have hnul := numbersOf_len dr
  change Els ts vsp (((remarksOf dr).map spanOf).map fun q => El.pair q.1 q.2) at hE
  change IntsAre vn (numbersOf dr) at inu
  generalize (remarksOf dr).map spanOf = sp at hE hspl hsb
  generalize numbersOf dr = nu at inu hnul
  have hnc : NC L ([(Z, listOf (List.toArray [Value.int a ta, Value.int b tb, Value.int c tc]) 0), (Nu, listOf vn.toArray 0), (Sp, listOf vsp.toArray esp), (108, tabObj #[])] ++ ts) := by
    have k1 : (L + 1, o1) ∈ [(Z, listOf (List.toArray [Value.int a ta, Value.int b tb, Value.int c tc]) 0), (Nu, listOf vn.toArray 0), (R, listOf vr.toArray 0), (D, listOf ys.toArray ep), (L + 1 + 1 + 1 + 1 + 1, o5), (L + 1 + 1 + 1 + 1, o4), (L + 1 + 1 + 1, o3), (L + 1 + 1, o2), (L + 1, o1), (108, tabObj #[])] := by simp
    have y1 := (N4 (L + 1, o1) (by repeat (first | exact List.Mem.head _ | apply List.Mem.tail))).1
    have y2 := (N4 (L + 1 + 1, o2) (by repeat (first | exact List.Mem.head _ | apply List.Mem.tail))).1
    have y3 := (N4 (L + 1 + 1 + 1, o3) (by repeat (first | exact List.Mem.head _ | apply List.Mem.tail))).1
    have y4 := (N4 (L + 1 + 1 + 1 + 1, o4) (by repeat (first | exact List.Mem.head _ | apply List.Mem.tail))).1
    have y5 := (N4 (L + 1 + 1 + 1 + 1 + 1, o5) (by repeat (first | exact List.Mem.head _ | apply List.Mem.tail))).1
    have z1 := (N (L + 1, o1) (by repeat (first | exact List.Mem.head _ | apply List.Mem.tail))).1
    have z2 := (N (L + 1 + 1, o2) (by repeat (first | exact List.Mem.head _ | apply List.Mem.tail))).1
    have z3 := (N (L + 1 + 1 + 1, o3) (by repeat (first | exact List.Mem.head _ | apply List.Mem.tail))).1
    have z4 := (N (L + 1 + 1 + 1 + 1, o4) (by repeat (first | exact List.Mem.head _ | apply List.Mem.tail))).1
    have z5 := (N (L + 1 + 1 + 1 + 1 + 1, o5) (by repeat (first | exact List.Mem.head _ | apply List.Mem.tail))).1
    have ls : ∀ (b : Nat) (x : Array Value) (k : Nat), h5.get? b = some (listOf x k) → @Ne Nat b (L + 1) ∧ @Ne Nat b (L + 1 + 1) ∧ @Ne Nat b (L + 1 + 1 + 1) ∧ @Ne Nat b (L + 1 + 1 + 1 + 1) ∧ @Ne Nat b (L + 1 + 1 + 1 + 1 + 1) := by
      intro b x k e
      exact ⟨not_cell z1 d1 e, not_cell z2 d2 e, not_cell z3 d3 e, not_cell z4 d4 e, not_cell z5 d5 e⟩
    refine NC.append ?_ ?_
    · refine NC.cons (ls _ _ _ (N (Z, _) (by repeat (first | exact List.Mem.head _ | apply List.Mem.tail))).1) (NC.cons (ls _ _ _ (N (Nu, listOf vn.toArray 0) (by repeat (first | exact List.Mem.head _ | apply List.Mem.tail))).1) (NC.cons (ls _ _ _ (N (Sp, listOf vsp.toArray esp) (by repeat (first | exact List.Mem.head _ | apply List.Mem.tail))).1) (NC.cons ?_ fun q hq => nomatch hq)))
      refine ⟨?_, ?_, ?_, ?_, ?_⟩ <;> (dsimp only; omega)
    · intro q hq
      exact NC.new y1 y2 y3 y4 y5 (htsn q hq)
  clear N4
  have N6 : News g L h5 ((Z, listOf (List.toArray [Value.int a ta, Value.int b tb, Value.int c tc]) 0) :: (Nu, listOf vn.toArray 0) :: ([(L + 1 + 1 + 1 + 1 + 1, o5), (L + 1 + 1 + 1 + 1, o4), (L + 1 + 1 + 1, o3), (L + 1 + 1, o2), (L + 1, o1)] ++ ((Sp, listOf vsp.toArray esp) :: (108, tabObj #[]) :: ts))) := by
    refine News_sub N ?_
    repeat' (first | exact List.Subset.refl _ | exact List.nil_subset _ | refine cons_sub (by repeat (first | exact List.Mem.head _ | apply List.Mem.tail)) ?_ | apply skip_sub)
  clear N
  show wpAny _ _ (execs (lBody.getD 5 (.Pass default) :: lBody.drop 6) _) _ _ _
  refine wpAny_execs_cons (law_sent X T hh F N6 inu hnul ha hb hc hdp hu ?_)
  clear F N6
  intro h6 tk6 t6 gs hbare F N
  have htx := text_law nu a b c hnul ha hb hc
  obtain ⟨q1, q2, q3, q4⟩ := split_law nu a b c hnul ha hb hc
  rw [htx] at F
  show wpAny _ _ (execs (lBody.getD 6 (.Pass default) :: lBody.drop 7) _) _ _ _
  refine wpAny_execs_cons (law_if X T hh rfl F N inu hnul ha hb hc hdp hu ?_)
  clear F N
  intro h7 tk7 F N
  have N8 : News g L h7 ([(L + 1 + 1 + 1 + 1 + 1, o5), (L + 1 + 1 + 1 + 1, o4), (L + 1 + 1 + 1, o3), (L + 1 + 1, o2), (L + 1, o1)] ++ ([(Z, listOf (List.toArray [Value.int a ta, Value.int b tb, Value.int c tc]) 0), (Nu, listOf vn.toArray 0), (Sp, listOf vsp.toArray esp), (108, tabObj #[])] ++ ts)) := by
    refine News_sub N ?_
    repeat' (first | exact List.Subset.refl _ | exact List.nil_subset _ | refine cons_sub (by repeat (first | exact List.Mem.head _ | apply List.Mem.tail)) ?_ | apply skip_sub)
  clear N
  generalize dueAll nu a b c = x at F q1 q2 q3 q4
  refine law_prep X T hh q1 q2 F N8 d1 d2 d3 hnc hdp hu ?_
  clear F N8
  intro h8 tk8 P C G epp ecc egg vp op oc og F N ip dp dc dg hCG hCP hGP hnc2 hrest
  generalize plc (spl x) = pl at ip q3 q4
  have hSp : (Sp, listOf vsp.toArray esp) ∈ ([(Z, listOf (List.toArray [Value.int a ta, Value.int b tb, Value.int c tc]) 0), (Nu, listOf vn.toArray 0), (Sp, listOf vsp.toArray esp), (108, tabObj #[])] ++ ts) := by simp
  have hts : ∀ p ∈ ts, p ∈ ([(Z, listOf (List.toArray [Value.int a ta, Value.int b tb, Value.int c tc]) 0), (Nu, listOf vn.toArray 0), (Sp, listOf vsp.toArray esp), (108, tabObj #[])] ++ ts) := fun p hp => List.mem_append_right _ hp
  have F9 := Fr_at (x := Str.ofString "spans") (v := some (.ref Sp)) rfl F
  show wpAny _ _ (execs (lBody.getD 10 (.Pass default) :: lBody.drop 11) _) _ _ _
  refine wpAny_execs_cons (law_for X T hh F9 N ip q3 dp dc dg hCG ?hC ?hG hSp hts hE hspl hsb hdp hu ?_)
  case hC =>
    intro q hq
    rcases List.mem_cons.mp hq with rfl | hq
    · exact Ne.symm hCP
    · rcases List.mem_append.mp hq with hq | hq
      · simp only [List.mem_cons, List.not_mem_nil, or_false] at hq
        have z := hnc2 (C, listOf #[] ecc) (by simp)
        rcases hq with rfl | rfl | rfl | rfl | rfl
        · exact Ne.symm z.2.2.2.2
        · exact Ne.symm z.2.2.2.1
        · exact Ne.symm z.2.2.1
        · exact Ne.symm z.2.1
        · exact Ne.symm z.1
      · exact (hrest q hq).1
  case hG =>
    intro q hq
    rcases List.mem_cons.mp hq with rfl | hq
    · exact Ne.symm hGP
    · rcases List.mem_append.mp hq with hq | hq
      · simp only [List.mem_cons, List.not_mem_nil, or_false] at hq
        have z := hnc2 (G, listOf #[] egg) (by simp)
        rcases hq with rfl | rfl | rfl | rfl | rfl
        · exact Ne.symm z.2.2.2.2
        · exact Ne.symm z.2.2.2.1
        · exact Ne.symm z.2.2.1
        · exact Ne.symm z.2.1
        · exact Ne.symm z.1
      · exact (hrest q hq).2.1
  clear F N F9
  intro h9 tk9 u vc vg ec eg F N ic ig
  have hcl : (comeOf pl sp).length = 6 := by unfold comeOf; rw [foldl_insR_len (fun q => pl.getD q.1.toNat 0), hspl]; rfl
  have hgl : (goneOf pl sp).length = 6 := by unfold goneOf; rw [foldl_insR_len (fun q => pl.getD (q.2 + 1).toNat 0), hspl]; rfl
  obtain ⟨w1, w2, w3⟩ := crowd_law pl q3 q4 sp hspl hsb
  show wpAny _ _ (execs (lBody.getD 11 (.Pass default) :: lBody.drop 12) _) _ _ _
  refine wpAny_execs_cons (law_left X T hh F rfl N ip q3 ic ig hcl hgl dp dc dg d4 d5 (NC.cons (hnc2 (C, listOf #[] ecc) (by repeat (first | exact List.Mem.head _ | apply List.Mem.tail))) (NC.cons (hnc2 (G, listOf #[] egg) (by repeat (first | exact List.Mem.head _ | apply List.Mem.tail))) (NC.cons (hnc2 (P, listOf vp.toArray epp) (by repeat (first | exact List.Mem.head _ | apply List.Mem.tail))) hnc))) hSp hts hE hspl hsb hdp hu ?_)
  clear F N
  intro h10 tk10 tl Dl vl el ol F N dl il hnc3
  show wpAny _ _ (execs (lBody.getD 12 (.Pass default) :: lBody.drop 13) _) _ _ _
  refine wpAny_execs_cons (law_right X T hh F rfl N ip q3 ic ig hcl hgl dp dc dg dl d5 hnc3 (.tail _ hSp) (fun p hp => .tail _ (hts p hp)) hE hspl hsb hdp hu ?_)
  clear F N
  intro h11 tk11 tr Dr vr2 er or' F N dr' ir2 hnc4
  have hll : (ranksOf (leftOf (goneOf pl sp) pl sp)).length = 6 := by unfold ranksOf leftOf; rw [List.length_map, List.length_map]; exact hspl
  have hrl : (ranksOf (rightOf (comeOf pl sp) pl sp)).length = 6 := by unfold ranksOf rightOf; rw [List.length_map, List.length_map]; exact hspl
  have N12 : News g L h11 ((Dl, listOf vl.toArray el) :: (Dr, listOf vr2.toArray er) :: (L + 1 + 1 + 1 + 1 + 1, or') :: (L + 1 + 1 + 1 + 1, ol) :: ([(Z, listOf (List.toArray [Value.int a ta, Value.int b tb, Value.int c tc]) 0), (Nu, listOf vn.toArray 0), (Sp, listOf vsp.toArray esp), (108, tabObj #[])] ++ ts)) := by
    refine News_sub N ?_
    repeat' (first | exact List.Subset.refl _ | exact List.nil_subset _ | refine cons_sub (by repeat (first | exact List.Mem.head _ | apply List.Mem.tail)) ?_ | apply skip_sub)
  clear N
  show wpAny _ _ (execs (lBody.getD 13 (.Pass default) :: lBody.drop 14) _) _ _ _
  refine wpAny_execs_cons (law_groups X T hh F rfl N12 il ir2 hll hrl w1 dl dr' hdp hu ?_)
  clear F N12
  intro h12 tk12 Gr eg2 vg2 F N ig2
  have N13 : News g L h12 ((Gr, listOf vg2.toArray eg2) :: (108, tabObj #[]) :: ([(Z, listOf (List.toArray [Value.int a ta, Value.int b tb, Value.int c tc]) 0), (Nu, listOf vn.toArray 0), (Sp, listOf vsp.toArray esp), (108, tabObj #[])] ++ ts)) := by
    refine News_sub N ?_
    repeat' (first | exact List.Subset.refl _ | exact List.nil_subset _ | refine cons_sub (by repeat (first | exact List.Mem.head _ | apply List.Mem.tail)) ?_ | apply skip_sub)
  clear N
  show wpAny _ _ (execs (lBody.getD 14 (.Pass default) :: []) _) _ _ _
  refine wpAny_execs_cons (law_ret X T hh hC hB F rfl rfl rfl N13 ig2 hSp hts hE hspl hdp hu w2 w3 ?_)
  intro h13 tk13 c' k13 h108
  exact hret h13 tk13 c' gs hbare k13 h108
end Mine
end

-- part Main
open PySem PySem.W PySem.Calls PyProof.Rows
set_option maxRecDepth 100000
set_option maxHeartbeats 8000000
namespace Mine
theorem my_end {cw : ClaimW} {cl : Str → Option Addr} {mean : ExcName → Option Value} {args : List WData} {s₁ s' : Shared} {ps : Array Value} (hT : TabsAt [(110, 108)] s₁.heap) (hr : ∀ cls, cw.raises args cls = false) (hp : cw.post args (.bool true) args = true)
    (k : ∀ b o, (ghostOf s₁.heap [(110, 108)]).get? b = some o → s'.heap.get? b = some o) (h108 : s'.heap.get? 108 = some (tabObj ps)) (hos : s'.os = s₁.os) (hg : AllBare s'.gens) : GoodWG cw cl mean args s₁ (.ok (.ret (.bool true))) s' := by
  have hq := hT (110, 108) (by simp)
  have e0 : s₁.heap.get? 108 = some (tabObj #[]) := hq.2
  have ne : ∀ b o, b ≠ 108 → s₁.heap.get? b = some o → s'.heap.get? b = some o := fun b o hb e => k b o (hideAll_get _ e (by simpa using hb))
  refine ⟨.inl ⟨_, _, [], rfl, hr, ReadsW.bool true, hp, fun _ => ⟨List.nodup_nil, fun _ hm => (nomatch hm)⟩⟩, ⟨fun b o e => ?_, fun b o e => ?_⟩, hos, hg⟩
  · by_cases hb : b = 108
    · subst hb
      rw [e0] at e
      cases e
      exact .inr (.inl ⟨(hq.1.tab hq.2).isCodeTable, rfl, #[], ps, rfl, by rw [Array.empty_append]; exact h108⟩)
    · exact .inl (ne b o hb e)
  · by_cases hb : b = 108
    · subst hb; exact ⟨_, h108⟩
    · exact ⟨o, ne b o hb e⟩
end Mine
open Mine
theorem PySem.Challenge.cw_re0038_01_holds : PySem.Challenge.rw_re0038_01.Holds :=
  Mine.hd (by
  k_fill
  intro w s₀ s₁ mg mb G Y fa o pm cd doc dV kV ho hd hcd hD hmg hg args vals as hpre hlay hrd hwl hlo
  have KX := km_in_of Y
  km_tabs Y
  have X := (Ground.X G).1
  have V := (Ground.X G).2
  refine Ground.open G ?_
  intro T B D TE TW
  try (refine guard_noD D (by decide +kernel) ?_; clear D)
  km_lay T hmg ho hd cd
  clear hmg
  wrow_args hpre hlay hrd hwl hlo
  all_goals (
    first | refine callC_kw (enter_call ?_) | refine enter_call ?_
    w_top on
    w_call any ho hd hcd hD T F
    clear hd
    kn_ghosts F T
    k_drop
    skip)
  rename Frag.In _ _ => X9
  rename Top _ _ _ _ _ _ => T9
  rename Fr _ _ _ _ => F9
  rename News _ _ _ _ => N9
  rename IntsAre _ _ => I9
  rename ¬ _ < _ => hn9
  rename 108 < _ => l9
  refine wpAny_mono (law_all (m := fun _ => none) (Q := fun f s' => GoodWG _ _ _ _ s₁ (Except.ok (Flow.ret (match f with | Flow.ret v => v | _ => Value.none))) s') X9 (topRead_of T9) rfl codeHd (Top.bmain T9) lifted I9 ?len l9 F9 N9 (by assumption) (by assumption) (by assumption) (by assumption) (by assumption) ?d ?u ?r) (fun _ _ x => x) (fun _ _ x => x.elim)
  case len => omega
  case d => exact (show callerA.depth + 1 + 8 < recursionLimit by decide)
  case u => exact (show callerA.units + 3 + 200 < cLine by decide)
  case r =>
    intro h' tk c' gs hb k h108
    refine my_end hT9 (fun _ => rfl) ?_ k h108 rfl ((AllBare.of_eq hg).push hb)
    first | rfl | wrow_post)
