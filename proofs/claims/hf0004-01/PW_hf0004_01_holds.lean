import PyProof.Rows.All
import Wide.All
import OpenK.AllK
import Wide.FinOn
import PySem.Challenge.RW_hf0004_01
set_option Elab.async false
section
open PySem PySem.W PyProof.Rows
namespace Mine
set_option maxRecDepth 100000 in
set_option maxHeartbeats 8000000 in
open_top hd for PySem.Challenge.rw_hf0004_01
end Mine
end
section
open PySem PySem.W PyProof.Rows PySem.Calls
set_option maxRecDepth 100000
namespace Mine


def Stopped (P : Prop) : Prop := P
theorem stop_here {P : Prop} (h : Stopped P) : P := h
theorem news_tl {h₀ h : Heap} {L : Addr} {a : Addr × Obj} {l : List (Addr × Obj)} (N : News h₀ L h (a :: l)) : News h₀ L h l := fun p hp => N p (.tail _ hp)
section
variable {prog : Program} {w : World} {A : Around} {s : Shared} {K : Frag} {p : Program} {loose : List Str} {mean : ExcName → Option Value} {mg mb : Str → Option Value}

/-- a call of a def of the top, the whole heap of the caller frozen -/
theorem call_frozen {Q E : Value → Shared → Prop} {name qual : Str} {params : Arguments} {body : List Stmt} {scope : Scope} {dV kV doc pm cdv ct oc : Value} {an od : Option Addr} {osl : Array (Option Value)} {f : Addr} {args : List Value} {binds : List (Str × Value)}
    (X : K.In s.heap) (T : Top p loose mean mg mb s.heap)
    (ho : K.lookup f = some ⟨oc, od, .func (fnOf name qual params body scope dV kV doc pm an cdv ct), osl⟩) (hcd : codeIn K cdv qual = true) (hroom : A.depth < recursionLimit)
    (hbind : BindsTo s (fnOf name qual params body scope dV kV doc pm an cdv ct) ⟨args, []⟩ binds) (hloc : ∀ y ∈ binds, scope.names.lookup y.1 = some .local)
    (h : ∀ L h₁, Fr s.heap L h₁ (fun y => binds.reverse.lookup y) → News s.heap L h₁ [] →
      wpAny (model prog w) (A.deeper (envOf qual scope L f cdv)) (execs body (envOf qual scope L f cdv))
        (fun fl s' => Q (match fl with | .ret v => v | _ => .none) s')
        (fun e s' => wpAny (model prog w) (A.deeper (envOf qual scope L f cdv)) (leaving (envOf qual scope L f cdv) e) (fun _ s'' => E e s'') (fun e' s'' => E e' s'') s')
        { s with heap := h₁, toks := s.toks + binds.length })
    (hco : scope.isCoroutine = false) (hgen : scope.isGenerator = false) (hk : scope.kind = .function)
    (hcell : ∀ x ∈ scope.names, x.2 ≠ .cell) : wpAny (model prog w) A (call (.ref f) args) Q E s := by
  refine wpAny_call ?_
  refine codeAny_call_def (fd := fnOf name qual params body scope dV kV doc pm an cdv ct) (body := body) (binds := binds) hroom (X _ _ ho) rfl T.nolimit (codeRec_of X hcd) rfl hbind hcell hloc (fun h₁ hns hk₁ => ?_) hco hgen hk
  exact h s.heap.objs.size h₁ ⟨hns, hk₁, Nat.le_refl _⟩ News.nil
end
end Mine
end
section
open PySem PySem.W PyProof.Rows PySem.Calls
set_option maxRecDepth 100000
namespace Mine
noncomputable def goL : Nat → Int → Int → Int
  | 0, _, l => l
  | n + 1, h, l => if h > 1 then goL n (h.fdiv 2) (l.fdiv 2) else l

theorem goL_fuel : ∀ (n : Nat) (h l : Int), 1 ≤ h → h < 2 ^ (n + 1) → goL (n + 1) h l = goL n h l
  | 0, h, l, h1, h2 => by
    have : ¬ h > 1 := by simp at h2; omega
    simp [goL, this]
  | n + 1, h, l, h1, h2 => by
    by_cases hc : h > 1
    · have e : h.fdiv 2 = h / 2 := Int.fdiv_eq_ediv_of_nonneg _ (by decide)
      have h3 : h.fdiv 2 < 2 ^ (n + 1) := by rw [e]; rw [Int.pow_succ] at h2; omega
      have h4 : 1 ≤ h.fdiv 2 := by rw [e]; omega
      have i := goL_fuel n (h.fdiv 2) (l.fdiv 2) h4 h3
      show (if h > 1 then goL (n + 1) (h.fdiv 2) (l.fdiv 2) else l) = (if h > 1 then goL n (h.fdiv 2) (l.fdiv 2) else l)
      rw [if_pos hc, if_pos hc, i]
    · show (if h > 1 then goL (n + 1) (h.fdiv 2) (l.fdiv 2) else l) = (if h > 1 then goL n (h.fdiv 2) (l.fdiv 2) else l)
      rw [if_neg hc, if_neg hc]
theorem half_less {h : Int} (h1 : 1 < h) : (h.fdiv 2).toNat < h.toNat := by
  have e : h.fdiv 2 = h / 2 := Int.fdiv_eq_ediv_of_nonneg _ (by decide)
  rw [e]; omega
theorem goL_end {h l number many : Int} (k : 1 ≤ h ∧ h < 16 ∧ goL 4 h l = goL 4 number many) (hc : ¬ 1 < h) : l = goL 4 number many := by
  rw [← k.2.2]
  show l = (if h > 1 then goL 3 (h.fdiv 2) (l.fdiv 2) else l)
  rw [if_neg hc]
theorem goL_turn {h l number many : Int} (k : 1 ≤ h ∧ h < 16 ∧ goL 4 h l = goL 4 number many) (hc : 1 < h) : 1 ≤ h.fdiv 2 ∧ h.fdiv 2 < 16 ∧ goL 4 (h.fdiv 2) (l.fdiv 2) = goL 4 number many := by
  have e : h.fdiv 2 = h / 2 := Int.fdiv_eq_ediv_of_nonneg _ (by decide)
  refine ⟨by rw [e]; omega, by rw [e]; omega, ?_⟩
  rw [goL_fuel 3 (h.fdiv 2) (l.fdiv 2) (by rw [e]; omega) (by rw [e]; simp; omega), ← k.2.2]
  show _ = (if h > 1 then goL 3 (h.fdiv 2) (l.fdiv 2) else l)
  rw [if_pos hc]

abbrev Ar (dp un : Nat) (fr : Option (List Env)) (gd : Option (List Code)) : Around := { handled := none, depth := dp, frames := fr, guards := gd, units := un }

set_option maxHeartbeats 8000000 in
theorem stretch_c {w : World} {p : Program} {loose : List Str} {mean : ExcName → Option Value} {mg mb : Str → Option Value} {dp un : Nat} {fr : Option (List Env)} {gd : Option (List Code)} {s : Shared} {number many : Int} {t1 t2 : Tok} {Q E : Value → Shared → Prop}
    (hroom : dp + 10 < recursionLimit) (X : (Mine.hd.heap_39 w.params).In s.heap) (T : Top p loose mean mg mb s.heap) (h1 : 1 ≤ number) (h2 : number < 2 * many) (hm : many = 4 ∨ many = 8)
    (h : ∀ a t3 t4 n h' tk', (∀ b o, s.heap.get? b = some o → h'.get? b = some o) → s.heap.get? a = none → h'.get? a = some { cls := .type "tuple", data := .seq #[.int (number * goL 4 number many - many) t3, .int (number * goL 4 number many - many + goL 4 number many) t4] n } →
      Q (.ref a) { s with heap := h', toks := tk' }) :
    wpAny (model PySem.Challenge.rw_hf0004_01.row.prog w) (Ar dp un fr gd) (call (.ref 58) [.int number t1, .int many t2]) Q E s := by
  revert X; k_fill; intro X
  refine' call_frozen X T ?k6 ?k7 ?k8 ?k9 ?kB ?_ ?c2 ?c3 ?c4 ?c5
  case k6 => k_is
  case k7 => k_is
  case k8 => simp only [recursionLimit] at *; omega
  case k9 => exact BindsTo.of_eq rfl
  case c5 => decide
  case kB => exact locs rfl
  case c2 => exact rfl
  case c3 => exact rfl
  case c4 => exact rfl
  intro L' h' F' N'
  k_fold
  k_with_none
  w_top off
  k_with "exec While Compare cons nil" => k_while (fun _ h l => 1 ≤ h ∧ h < 16 ∧ goL 4 h l = goL 4 number many) (fun _ h l => h.toNat) "here" "long"
  k_with "state" => first | exact goL_turn ⟨by assumption, by assumption, by assumption⟩ (by assumption) | exact ⟨by omega, by omega, rfl⟩
  k_with "measure" => exact half_less (by assumption)
  k_steps
  have e := goL_end ⟨by assumption, by assumption, by assumption⟩ (by assumption)
  rename News _ _ _ _ => kN
  rename Fr _ _ _ _ => kF
  exact h _ _ _ _ _ _ kF.keep (kN _ (.head _)).2.2 (by rw [← e]; exact (kN _ (.head _)).1)
end Mine
end
section
open PySem PySem.W PyProof.Rows PySem.Calls
set_option maxRecDepth 100000
namespace Mine
local macro_rules | `(tactic| walk_at "KswEnd") => `(tactic| refine stop_here ?_)
noncomputable def tgo : Nat → Int → Int → List Int → List Int → List Int × List Int
  | 0, _, _, l, r => (l, r)
  | n + 1, lo, hi, l, r => if lo < hi then
      tgo n (if lo.fmod 2 = 1 then (lo + 1).fdiv 2 else lo.fdiv 2) (if hi.fmod 2 = 1 then (hi - 1).fdiv 2 else hi.fdiv 2) (if lo.fmod 2 = 1 then l ++ [lo] else l) (if hi.fmod 2 = 1 then r ++ [hi - 1] else r)
    else (l, r)
theorem fd2 (h : Int) : h.fdiv 2 = h / 2 := Int.fdiv_eq_ediv_of_nonneg _ (by decide)
theorem fm2 (h : Int) : h.fmod 2 = h % 2 := Int.fmod_eq_emod_of_nonneg _ (by decide)
theorem tgo_fuel : ∀ (n : Nat) (lo hi : Int) (l r : List Int), 0 ≤ lo → hi < 2 ^ n → tgo (n + 1) lo hi l r = tgo n lo hi l r
  | 0, lo, hi, l, r, h1, h2 => by
    have : ¬ lo < hi := by simp at h2; omega
    simp [tgo, this]
  | n + 1, lo, hi, l, r, h1, h2 => by
    show (if lo < hi then tgo (n + 1) _ _ _ _ else (l, r)) = (if lo < hi then tgo n _ _ _ _ else (l, r))
    by_cases hc : lo < hi
    · rw [if_pos hc, if_pos hc]
      rw [Int.pow_succ] at h2
      refine tgo_fuel n _ _ _ _ ?_ ?_
      · rw [fd2, fd2]; split <;> omega
      · rw [fd2, fd2]; split <;> omega
    · rw [if_neg hc, if_neg hc]
structure TP (lo0 hi0 lo hi : Int) (l r : List Int) : Prop where
  k1 : 0 ≤ lo
  k2 : lo ≤ 17
  k3 : 0 ≤ hi
  k4 : hi ≤ 16
  k5 : l.length + hi.toNat ≤ 16
  k6 : r.length + hi.toNat ≤ 16
  k7 : tgo 5 lo hi l r = tgo 5 lo0 hi0 [] []
theorem TP.start {lo hi : Int} (h1 : 0 ≤ lo) (h2 : lo ≤ 17) (h3 : 0 ≤ hi) (h4 : hi ≤ 16) : ([] : List Int).length ≤ 16 ∧ ([] : List Int).length ≤ 16 ∧ TP lo hi lo hi [] [] := ⟨by simp, by simp, h1, h2, h3, h4, by simp; omega, by simp; omega, rfl⟩
theorem tgo_turn {lo0 hi0 lo hi lo' hi' : Int} {l r l' r' : List Int} (k : TP lo0 hi0 lo hi l r) (hc : lo < hi)
    (h1 : lo' = if lo.fmod 2 = 1 then (lo + 1).fdiv 2 else lo.fdiv 2) (h2 : hi' = if hi.fmod 2 = 1 then (hi - 1).fdiv 2 else hi.fdiv 2) (h3 : l' = if lo.fmod 2 = 1 then l ++ [lo] else l) (h4 : r' = if hi.fmod 2 = 1 then r ++ [hi - 1] else r) :
    l'.length ≤ 16 ∧ r'.length ≤ 16 ∧ TP lo0 hi0 lo' hi' l' r' := by
  obtain ⟨k1, k2, k3, k4, k5, k6, k7⟩ := k
  have a1 : 0 ≤ lo' ∧ lo' ≤ 17 := by rw [h1, fd2, fd2]; split <;> omega
  have a2 : 0 ≤ hi' ∧ hi' ≤ 8 ∧ hi' < hi := by rw [h2, fd2, fd2]; split <;> omega
  have a3 : l'.length ≤ l.length + 1 := by rw [h3]; split <;> simp
  have a4 : r'.length ≤ r.length + 1 := by rw [h4]; split <;> simp
  refine ⟨by omega, by omega, a1.1, a1.2, a2.1, by omega, by omega, by omega, ?_⟩
  rw [← k7]
  rw [tgo_fuel 4 lo' hi' l' r' a1.1 (by simp; omega)]
  show _ = (if lo < hi then tgo 4 _ _ _ _ else (l, r))
  rw [if_pos hc, h1, h2, h3, h4]
theorem tgo_less {lo0 hi0 lo hi : Int} {l r : List Int} (k : TP lo0 hi0 lo hi l r) (hc : lo < hi) {hi' : Int} (h2 : hi' = if hi.fmod 2 = 1 then (hi - 1).fdiv 2 else hi.fdiv 2) : hi'.toNat < hi.toNat := by
  have := k.k1
  rw [h2, fd2, fd2]; split <;> omega
theorem tgo_end {lo0 hi0 lo hi : Int} {l r : List Int} (k : TP lo0 hi0 lo hi l r) (hc : ¬ lo < hi) : (l, r) = tgo 5 lo0 hi0 [] [] := by
  rw [← k.k7]
  show _ = (if lo < hi then tgo 4 _ _ _ _ else (l, r))
  rw [if_neg hc]
noncomputable def takenL (many low high : Int) : List Int := (tgo 5 (low + many) (high + many) [] []).1 ++ (tgo 5 (low + many) (high + many) [] []).2.reverse

set_option maxHeartbeats 8000000 in
theorem taken_c {w : World} {p : Program} {loose : List Str} {mean : ExcName → Option Value} {mg mb : Str → Option Value} {dp un : Nat} {fr : Option (List Env)} {gd : Option (List Code)} {s : Shared} {many low high : Int} {t1 t2 t3 : Tok} {Q E : Value → Shared → Prop}
    (hroom : dp + 10 < recursionLimit) (X : (Mine.hd.heap_39 w.params).In s.heap) (T : Top p loose mean mg mb s.heap) (h1 : 0 ≤ low) (h2 : low < high) (h3 : high ≤ many) (hm : many = 4 ∨ many = 8)
    (h : ∀ a vs n h' tk', (∀ b o, s.heap.get? b = some o → h'.get? b = some o) → s.heap.get? a = none → h'.get? a = some (W.listOf vs.toArray n) → IntsAre vs (takenL many low high) →
      Q (.ref a) { s with heap := h', toks := tk' }) :
    wpAny (model PySem.Challenge.rw_hf0004_01.row.prog w) (Ar dp un fr gd) (call (.ref 51) [.int many t1, .int low t2, .int high t3]) Q E s := by
  revert X; k_fill; intro X
  refine' call_frozen X T ?k6 ?k7 ?k8 ?k9 ?kB ?_ ?c2 ?c3 ?c4 ?c5
  case k6 => k_is
  case k7 => k_is
  case k8 => simp only [recursionLimit] at *; omega
  case k9 => exact BindsTo.of_eq rfl
  case c5 => decide
  case kB => exact locs rfl
  case c2 => exact rfl
  case c3 => exact rfl
  case c4 => exact rfl
  intro L' h' F' N'
  k_fold
  k_with_none
  w_top off
  k_with "exec While Compare cons nil" => refine stop_here ?_
  k_with "none" => first | exact TP.start (by omega) (by omega) (by omega) (by omega) | exact tgo_turn (by assumption) (by assumption) (by simp [*]) (by simp [*]) (by simp [*]) (by simp [*])
  k_with "measure" => exact tgo_less (by assumption) (by assumption) (by simp [*])
  k_steps
  show wpAny _ _ _ _ _ _
  rename News _ _ _ _ => lN'
  rename Fr _ _ _ _ => lF'
  rename_i tk0 l1 _ _ l2 _ _ _ _ _ _ _ _ tk1 _ _ _ _ _ _
  replace lN' := news_tl (news_tl lN')
  refine ksw_while (σ := Int × Nat × Int × Nat × List Value × List Int × Nat × List Value × List Int × Nat)
    (fun c => [(l2, W.listOf c.2.2.2.2.1.toArray c.2.2.2.2.2.2.1), (l1, W.listOf c.2.2.2.2.2.2.2.1.toArray c.2.2.2.2.2.2.2.2.2)])
    (fun c => [(Str.ofString "low", Value.int c.1 c.2.1), (Str.ofString "high", Value.int c.2.2.1 c.2.2.2.1)])
    (fun c => IntsAre c.2.2.2.2.1 c.2.2.2.2.2.1 ∧ IntsAre c.2.2.2.2.2.2.2.1 c.2.2.2.2.2.2.2.2.1) []
    (fun c => TP (low + many) (high + many) c.1 c.2.2.1 c.2.2.2.2.2.2.2.2.1 c.2.2.2.2.2.1)
    (fun c => c.2.2.1.toNat)
    (low + many, tk1, high + many, tk1 + 1, [], [], 0, [], [], 0)
    lF' ?kn ?kf ?kk ?kp ?_
  case kn => exact lN'
  case kf => exact ⟨.nil, .nil⟩
  case kk => kst_all
  case kp => exact (TP.start (by omega) (by omega) (by omega) (by omega)).2.2
  rintro ⟨lo, tlo, hi, thi, rv, ri, rn, lv, li, ln⟩ kU kH kTk kFacts kInv kFr kNews
  dsimp only [kstB] at kFacts kInv kFr kNews
  obtain ⟨kI1, kI2⟩ := kFacts
  have kL1 := kI1.length
  have kL2 := kI2.length
  have kL3 := kInv.k5
  have kL4 := kInv.k6
  have kB1 := kInv.k1
  have kB2 := kInv.k2
  have kB3 := kInv.k3
  have kB4 := kInv.k4
  show wpAny _ _ _ _ _ _
  k_fold
  k_steps
  iterate 4
    · show KswEnd _ _ _ _ _ _ _ _ _ _ _ _
      rename News _ _ _ _ => kN
      rename Fr _ _ _ _ => kF
      try simp only [List.push_toArray] at kN
      exact ksw_end ⟨_, _, _, _, _, _, _, _, _, _⟩ kF kN (by exact List.forall_mem_cons.mpr ⟨.tail _ (.head _), List.forall_mem_cons.mpr ⟨.tail _ (.tail _ (.head _)), List.forall_mem_nil _⟩⟩)
        (by exact ⟨by k_intsEnd, by k_intsEnd⟩) (by kst_all) (by ksw_same) (by exact (tgo_turn kInv (by assumption) (by simp [*]) (by simp [*]) (by simp [*]) (by simp [*])).2.2) (by exact tgo_less kInv (by assumption) (by simp [*]))
  show Q _ _
  have e := tgo_end kInv (by assumption)
  rename News _ _ _ _ => kN
  rename Fr _ _ _ _ => kF
  refine h _ _ _ _ _ kF.keep (kN _ (.head _)).2.2 (kN _ (.head _)).1 ?_
  show IntsAre _ ((tgo 5 (low + many) (high + many) [] []).1 ++ (tgo 5 (low + many) (high + many) [] []).2.reverse)
  rw [← e]
  assumption
end Mine
end
section
open PySem PySem.W PyProof.Rows PySem.Calls
set_option maxRecDepth 100000
namespace Mine
open Builtin Builtin.Tuple
section
variable {prog : Program} {w : World} {A : Around} {E : Value → Shared → Prop} {s : Shared}
theorem rich_lt_int {a b : Int} {t u : Tok} {Q : Value → Shared → Prop} (h : Q (.bool (decide (a < b))) s) :
    wpAny (model prog w) A (richCompare .Lt (.int a t) (.int b u)) Q E s := wpAny_lt_int h
end
set_option maxHeartbeats 4000000 in
theorem tuple_lt2 (l b : Addr) (n n2 : Nat) (dd dd2 : Option Addr) (sl sl2 : Array (Option Value)) (f g x y : Int) (t1 t2 t3 t4 : Tok) :
    Meets (Builtin.«tuple.__lt__» ⟨[.ref l, .ref b], []⟩)
      (fun _ R s => s.heap.get? l = some { cls := .type "tuple", dict := dd, data := .seq #[.int f t1, .int x t2] n, slots := sl } ∧ s.heap.get? b = some { cls := .type "tuple", dict := dd2, data := .seq #[.int g t3, .int y t4] n2, slots := sl2 } ∧
        R (.ok (.ret (.bool (decide (f < g ∨ (f = g ∧ x < y)))))) s) :=
  .of_wp fun prog w A R s h => by
    obtain ⟨hp, gs, d, tk, os⟩ := s; obtain ⟨hl, hb, h⟩ := h
    have f2 := AutoSeq1.sub_tuple_tuple
    wp_walk using wpAny_loadPart' hl, wpAny_loadPart' hb, wpAny_eqBool_int
    by_cases e1 : f = g
    · rw [beq_iff_eq.mpr e1]
      wp_walk using wpAny_eqBool_int
      by_cases e2 : x = y
      · rw [beq_iff_eq.mpr e2]
        wp_walk
        have hd : decide (f < g ∨ (f = g ∧ x < y)) = false := by simp [e1, e2]
        rw [hd] at h
        exact ⟨_, rfl, h⟩
      · rw [beq_eq_false_iff_ne.mpr e2]
        wp_walk using rich_lt_int
        exact ⟨_, rfl, by simpa [e1] using h⟩
    · rw [beq_eq_false_iff_ne.mpr e1]
      wp_walk using rich_lt_int
      exact ⟨_, rfl, by simpa [e1] using h⟩
section
variable {prog : Program} {w : World} {A : Around} {E : Value → Shared → Prop} {s : Shared}
theorem cmp_lt2 {l b : Addr} {n n2 : Nat} {dd dd2 : Option Addr} {sl sl2 : Array (Option Value)} {f g x y : Int} {t1 t2 t3 t4 : Tok} {Q : Value → Shared → Prop} (hu : A.units < cLine)
    (hl : s.heap.get? l = some { cls := .type "tuple", dict := dd, data := .seq #[.int f t1, .int x t2] n, slots := sl }) (hb : s.heap.get? b = some { cls := .type "tuple", dict := dd2, data := .seq #[.int g t3, .int y t4] n2, slots := sl2 })
    (h : Q (.bool (decide (f < g ∨ (f = g ∧ x < y)))) s) : wpAny (model prog w) A (compareOp .Lt (.ref l) (.ref b)) Q E s := by
  refine cmp_ofLt ?_
  exact richCompare_meets_room (T := "tuple") ⟨_, hl, rfl⟩ ⟨_, hb, rfl⟩ F.slot_tuple_lt F.entry_tuple_lt (F.args_tuple_lt_2 _ _) (tuple_lt2 l b n n2 dd dd2 sl sl2 f g x y t1 t2 t3 t4)
    ⟨hl, hb, fun e => (nomatch e), h⟩ hu
end
end Mine
end
section
open PySem PySem.W PyProof.Rows PySem.Calls
set_option maxRecDepth 100000
namespace Mine
inductive PairsAt (h : Heap) : List Value → List (Int × Int) → Prop
  | nil : PairsAt h [] []
  | cons {a : Addr} {f l : Int} {t u : Tok} {n : Nat} {vs : List Value} {ds : List (Int × Int)} : h.get? a = some { cls := .type "tuple", data := .seq #[.int f t, .int l u] n } → PairsAt h vs ds → PairsAt h (.ref a :: vs) ((f, l) :: ds)
theorem PairsAt.keeps {h h' : Heap} (k : ∀ b o, h.get? b = some o → h'.get? b = some o) : ∀ {vs : List Value} {ds : List (Int × Int)}, PairsAt h vs ds → PairsAt h' vs ds
  | _, _, .nil => .nil
  | _, _, .cons e r => .cons (k _ _ e) (r.keeps k)
theorem PairsAt.length {h : Heap} : ∀ {vs : List Value} {ds : List (Int × Int)}, PairsAt h vs ds → vs.length = ds.length
  | _, _, .nil => rfl
  | _, _, .cons _ r => by rw [List.length_cons, List.length_cons, r.length]
theorem PairsAt.get {h : Heap} : ∀ {vs : List Value} {ds : List (Int × Int)}, PairsAt h vs ds → ∀ (k : Nat), k < ds.length →
    ∃ a t u n, vs[k]? = some (.ref a) ∧ h.get? a = some { cls := .type "tuple", data := .seq #[.int (ds.getD k (0, 0)).1 t, .int (ds.getD k (0, 0)).2 u] n }
  | _, _, .nil, k, hk => absurd hk (Nat.not_lt_zero _)
  | _, _, .cons e r, 0, _ => ⟨_, _, _, _, rfl, e⟩
  | _, _, .cons e r, k + 1, hk => by
    obtain ⟨a, t, u, n, h1, h2⟩ := r.get k (Nat.lt_of_succ_lt_succ hk)
    exact ⟨a, t, u, n, by simpa using h1, by simpa using h2⟩
theorem PairsAt.ins {h : Heap} {b : Addr} {f l : Int} {t u : Tok} {n : Nat} (e : h.get? b = some { cls := .type "tuple", data := .seq #[.int f t, .int l u] n }) :
    ∀ {vs : List Value} {ds : List (Int × Int)}, PairsAt h vs ds → ∀ (k : Nat), PairsAt h (vs.take k ++ .ref b :: vs.drop k) (ds.take k ++ (f, l) :: ds.drop k)
  | _, _, .nil, k => by simpa using PairsAt.cons e .nil
  | _, _, .cons e' r, 0 => .cons e (.cons e' r)
  | _, _, .cons e' r, k + 1 => .cons e' (r.ins e k)
noncomputable def ltp (a b : Int × Int) : Bool := decide (a.1 < b.1 ∨ (a.1 = b.1 ∧ a.2 < b.2))
noncomputable def bgo (ds : List (Int × Int)) (p : Int × Int) : Nat → Int → Int → Int
  | 0, lo, _ => lo
  | n + 1, lo, hi => if lo < hi then (if ltp (ds.getD ((lo + hi).fdiv 2).toNat (0, 0)) p = true then bgo ds p n ((lo + hi).fdiv 2 + 1) hi else bgo ds p n lo ((lo + hi).fdiv 2)) else lo
theorem bgo_fuel (ds : List (Int × Int)) (p : Int × Int) : ∀ (n : Nat) (lo hi : Int), 0 ≤ lo → hi - lo ≤ n → bgo ds p (n + 1) lo hi = bgo ds p n lo hi
  | 0, lo, hi, h1, h2 => by
    have : ¬ lo < hi := by omega
    simp [bgo, this]
  | n + 1, lo, hi, h1, h2 => by
    show (if lo < hi then (if ltp _ p = true then bgo ds p (n + 1) _ _ else bgo ds p (n + 1) _ _) else lo) = (if lo < hi then (if ltp _ p = true then bgo ds p n _ _ else bgo ds p n _ _) else lo)
    by_cases hc : lo < hi
    · rw [if_pos hc, if_pos hc]
      split
      · exact bgo_fuel ds p n _ _ (by rw [fd2]; omega) (by rw [fd2]; omega)
      · exact bgo_fuel ds p n _ _ h1 (by rw [fd2]; omega)
    · rw [if_neg hc, if_neg hc]
noncomputable def bisL (ds : List (Int × Int)) (p : Int × Int) : Int := bgo ds p 20 0 ds.length
structure BP (ds : List (Int × Int)) (p : Int × Int) (lo hi : Int) : Prop where
  k1 : 0 ≤ lo
  k2 : lo ≤ hi
  k3 : hi ≤ ds.length
  k4 : bgo ds p 20 lo hi = bisL ds p
theorem bgo_step {ds : List (Int × Int)} {p : Int × Int} {lo hi : Int} (h1 : 0 ≤ lo) (hc : lo < hi) (h2 : hi - lo ≤ 19) : bgo ds p 20 lo hi = if ltp (ds.getD ((lo + hi).fdiv 2).toNat (0, 0)) p = true then bgo ds p 20 ((lo + hi).fdiv 2 + 1) hi else bgo ds p 20 lo ((lo + hi).fdiv 2) := by
  show (if lo < hi then (if ltp _ p = true then bgo ds p 19 _ _ else bgo ds p 19 _ _) else lo) = _
  rw [if_pos hc]
  split
  · exact (bgo_fuel ds p 19 _ _ (by rw [fd2]; omega) (by rw [fd2]; omega)).symm
  · exact (bgo_fuel ds p 19 _ _ h1 (by rw [fd2]; omega)).symm
theorem BP.yes {ds : List (Int × Int)} {p : Int × Int} {lo hi : Int} (k : BP ds p lo hi) (hl : ds.length ≤ 16) (hc : lo < hi) (ht : ltp (ds.getD ((lo + hi).fdiv 2).toNat (0, 0)) p = true) : BP ds p ((lo + hi).fdiv 2 + 1) hi := by
  have := k.k1; have := k.k3
  refine ⟨by rw [fd2]; omega, by rw [fd2]; omega, k.k3, ?_⟩
  rw [← k.k4, bgo_step k.k1 hc (by omega), if_pos ht]
theorem BP.no {ds : List (Int × Int)} {p : Int × Int} {lo hi : Int} (k : BP ds p lo hi) (hl : ds.length ≤ 16) (hc : lo < hi) (ht : ¬ ltp (ds.getD ((lo + hi).fdiv 2).toNat (0, 0)) p = true) : BP ds p lo ((lo + hi).fdiv 2) := by
  have := k.k1; have := k.k3
  refine ⟨k.k1, by rw [fd2]; omega, by rw [fd2]; omega, ?_⟩
  rw [← k.k4, bgo_step k.k1 hc (by omega), if_neg ht]
theorem BP.start {ds : List (Int × Int)} {p : Int × Int} : BP ds p 0 ds.length := ⟨Int.le_refl _, by omega, Int.le_refl _, rfl⟩
theorem BP.fin {ds : List (Int × Int)} {p : Int × Int} {lo hi : Int} (k : BP ds p lo hi) (hc : ¬ lo < hi) : lo = bisL ds p := by
  rw [← k.k4]
  show lo = (if lo < hi then (if ltp _ p = true then bgo ds p 19 _ _ else bgo ds p 19 _ _) else lo)
  rw [if_neg hc]

section
variable {prog : Program} {w : World} {A : Around} {E : Value → Shared → Prop} {s : Shared} {h₀ : Heap} {L l : Addr} {m : Str → Option Value}
theorem pairs_item {value slice : PySem.Expr} {vs : List Value} {ds : List (Int × Int)} {k : Int} {u : Tok} {Q : Value → Shared → Prop} (F : Fr h₀ L s.heap m) (hl : h₀.IsList l vs.toArray) (P : PairsAt h₀ vs ds)
    (h0 : 0 ≤ k) (h1 : k < (ds.length : Int)) (hfit : (ds.length : Int) < 2 ^ 63)
    (h : ∀ a t t' n, h₀.get? a = some { cls := .type "tuple", data := .seq #[.int (ds.getD k.toNat (0, 0)).1 t, .int (ds.getD k.toNat (0, 0)).2 t'] n } → Q (.ref a) s)
    (hs : subscripted slice false (.ref l) (.int k u) = operate [.ref l, .int k u] (getItem (.ref l) (.int k u)) := by with_unfolding_all rfl) :
    wpAny (model prog w) A (subscriptTail value slice (.ref l) (.int k u)) Q E s := by
  have hl' : s.heap.IsList l vs.toArray := hl.at fun o e => F.keep l o e
  obtain ⟨a, t, t', n, e1, e2⟩ := P.get k.toNat (by omega)
  exact tail_any hl'.typeIs slot_list_getitem.lookup (wpAny_getItem_list hl' h0 (by omega) (by simpa using e1) (h a t t' n e2)) hs
theorem len_fz {vs : List Value} {k : Nat} {Q : Value → Shared → Prop} (F : Fr h₀ L s.heap m) (hl : h₀.IsList l vs.toArray) (e : vs.length = k) (hk : k ≤ 1000) (h : Q (.int (k : Int) (s.toks + 1)) { s with toks := s.toks + 1 + 1 }) :
    wpAny (model prog w) A (call (.builtin "len") [.ref l]) Q E s := by
  have e' : vs.toArray.size = k := by simpa using e
  refine PyProof.Rows.len_list (hl.at fun o e => F.keep l o e) (by rw [e']; omega) ?_
  rw [e']; exact h
end
end Mine
end
section
open PySem PySem.W PyProof.Rows PySem.Calls
set_option maxRecDepth 100000
namespace Mine
local macro_rules | `(tactic| walk_at "KswEnd") => `(tactic| refine stop_here ?_)
local macro_rules | `(tactic| walk_at "subscriptTail") => `(tactic| (k_here; (with_reducible show wpAny _ _ (subscriptTail _ _ (Value.ref _) (Value.int _ _)) _ _ _); k_dflt (refine' pairs_item ?F ?l ?P ?a ?b ?c ?_; (case F => k_asm); (case l => assumption); (case P => assumption); (case a => (simp only [fd2]; omega)); (case b => (simp only [fd2]; omega)); (case c => omega)); intro b' t' u' n' hT'))
local macro_rules | `(tactic| walk_at "compareOp Lt ref ref") => `(tactic| (k_here; k_dflt (refine' cmp_lt2 ?u ?a ?b ?_; (case u => (simp only [units_in1, units_deeper, Around.mark_units]; omega)); (case a => exact Fr.keep (by k_asm) _ _ (by assumption)); (case b => exact Fr.keep (by k_asm) _ _ (by assumption)))))
local macro_rules | `(tactic| walk_at "call builtin:len") => `(tactic| (k_here; (with_reducible show wpAny _ _ (call (Value.builtin "len") [Value.ref _]) _ _ _); k_dflt (refine' len_fz ?F ?l ?e ?k ?_; (case F => k_asm); (case l => assumption); (case e => assumption); (case k => omega))))
set_option maxHeartbeats 8000000 in
theorem bisect_c {w : World} {p : Program} {loose : List Str} {mean : ExcName → Option Value} {mg mb : Str → Option Value} {dp un : Nat} {fr : Option (List Env)} {gd : Option (List Code)} {s : Shared} {a x : Addr} {vs : List Value} {ds : List (Int × Int)} {f l : Int} {t u : Tok} {n : Nat} {Q E : Value → Shared → Prop}
    (hroom : dp + 10 < recursionLimit) (hun : un + 10 < cLine) (X : (Mine.hd.heap_39 w.params).In s.heap) (T : Top p loose mean mg mb s.heap) (hl : s.heap.IsList a vs.toArray) (hP : PairsAt s.heap vs ds) (hds : ds.length ≤ 16)
    (hx : s.heap.get? x = some { cls := .type "tuple", data := .seq #[.int f t, .int l u] n })
    (h : ∀ t' h' tk', (∀ b o, s.heap.get? b = some o → h'.get? b = some o) → Q (.int (bisL ds (f, l)) t') { s with heap := h', toks := tk' }) :
    wpAny (model PySem.Challenge.rw_hf0004_01.row.prog w) (Ar dp un fr gd) (call (.ref 39) [.ref a, .ref x]) Q E s := by
  revert X; k_fill; intro X
  refine' call_frozen X T ?k6 ?k7 ?k8 ?k9 ?kB ?_ ?c2 ?c3 ?c4 ?c5
  case k6 => k_is
  case k7 => k_is
  case k8 => simp only [recursionLimit] at *; omega
  case k9 => exact kp_binds X (fun _ => rfl)
  case c5 => decide
  case kB => exact locs rfl
  case c2 => exact rfl
  case c3 => exact rfl
  case c4 => exact rfl
  intro L' h' F' N'
  have hlen := hP.length
  show wpAny _ _ _ _ _ _
  k_fold
  k_with_none
  w_top off
  k_with "exec While Compare cons nil" => refine stop_here ?_
  k_steps
  show wpAny _ _ _ _ _ _
  rename News _ _ _ _ => lN'
  rename Fr _ _ _ _ => lF'
  refine' ksw_while (σ := Int × Nat × Int × Nat)
    (fun _ => [])
    (fun c => [(Str.ofString "lo", Value.int c.1 c.2.1), (Str.ofString "hi", Value.int c.2.2.1 c.2.2.2)])
    (fun c => True) [Str.ofString "mid"]
    (fun c => BP ds (f, l) c.1 c.2.2.1)
    (fun c => (c.2.2.1 - c.1).toNat)
    ((0 : Int), ?c1, (ds.length : Int), ?c2)
    lF' ?kn ?kf ?kk ?kp ?_
  case kk => kst_all
  case kn => exact lN'
  case kf => trivial
  case kp => exact BP.start
  rintro ⟨lo, tlo, hi, thi⟩ kU kH kTk kFacts kInv kFr kNews
  dsimp only [kstB] at kInv kFr kNews
  have kB1 := kInv.k1
  have kB2 := kInv.k2
  have kB3 := kInv.k3
  show wpAny _ _ _ _ _ _
  k_fold
  k_steps
  · show KswEnd _ _ _ _ _ _ _ _ _ _ _ _
    rename News _ _ _ _ => kN
    rename Fr _ _ _ _ => kF
    exact ksw_end ⟨_, _, _, _⟩ kF kN (fun _ hp => nomatch hp) trivial (by kst_all) (by ksw_same) (by exact kInv.yes hds (by assumption) (decide_eq_true (by assumption))) (by dsimp only; rw [fd2]; omega)
  · show KswEnd _ _ _ _ _ _ _ _ _ _ _ _
    rename News _ _ _ _ => kN
    rename Fr _ _ _ _ => kF
    exact ksw_end ⟨_, _, _, _⟩ kF kN (fun _ hp => nomatch hp) trivial (by kst_all) (by ksw_same) (by exact kInv.no hds (by assumption) (fun e => absurd (of_decide_eq_true e) (by assumption))) (by dsimp only; rw [fd2]; omega)
  · show Q _ _
    have e := kInv.fin (by assumption)
    subst e
    exact h _ _ _ kFr.keep
set_option maxHeartbeats 8000000 in
theorem bisect4_c {w : World} {p : Program} {loose : List Str} {mean : ExcName → Option Value} {mg mb : Str → Option Value} {dp un : Nat} {fr : Option (List Env)} {gd : Option (List Code)} {s : Shared} {a x : Addr} {vs : List Value} {ds : List (Int × Int)} {f l : Int} {t u t0 : Tok} {n : Nat} {Q E : Value → Shared → Prop}
    (hroom : dp + 10 < recursionLimit) (hun : un + 10 < cLine) (X : (Mine.hd.heap_39 w.params).In s.heap) (T : Top p loose mean mg mb s.heap) (hl : s.heap.IsList a vs.toArray) (hP : PairsAt s.heap vs ds) (hds : ds.length ≤ 16)
    (hx : s.heap.get? x = some { cls := .type "tuple", data := .seq #[.int f t, .int l u] n })
    (h : ∀ t' h' tk', (∀ b o, s.heap.get? b = some o → h'.get? b = some o) → Q (.int (bisL ds (f, l)) t') { s with heap := h', toks := tk' }) :
    wpAny (model PySem.Challenge.rw_hf0004_01.row.prog w) (Ar dp un fr gd) (call (.ref 39) [.ref a, .ref x, .int 0 t0, .none]) Q E s := by
  revert X; k_fill; intro X
  refine' call_frozen X T ?k6 ?k7 ?k8 ?k9 ?kB ?_ ?c2 ?c3 ?c4 ?c5
  case k6 => k_is
  case k7 => k_is
  case k8 => simp only [recursionLimit] at *; omega
  case k9 => exact kp_binds X (fun _ => rfl)
  case c5 => decide
  case kB => exact locs rfl
  case c2 => exact rfl
  case c3 => exact rfl
  case c4 => exact rfl
  intro L' h' F' N'
  have hlen := hP.length
  show wpAny _ _ _ _ _ _
  k_fold
  k_with_none
  w_top off
  k_with "exec While Compare cons nil" => refine stop_here ?_
  k_steps
  show wpAny _ _ _ _ _ _
  rename News _ _ _ _ => lN'
  rename Fr _ _ _ _ => lF'
  refine' ksw_while (σ := Int × Nat × Int × Nat)
    (fun _ => [])
    (fun c => [(Str.ofString "lo", Value.int c.1 c.2.1), (Str.ofString "hi", Value.int c.2.2.1 c.2.2.2)])
    (fun c => True) [Str.ofString "mid"]
    (fun c => BP ds (f, l) c.1 c.2.2.1)
    (fun c => (c.2.2.1 - c.1).toNat)
    ((0 : Int), ?c1, (ds.length : Int), ?c2)
    lF' ?kn ?kf ?kk ?kp ?_
  case kk => kst_all
  case kn => exact lN'
  case kf => trivial
  case kp => exact BP.start
  rintro ⟨lo, tlo, hi, thi⟩ kU kH kTk kFacts kInv kFr kNews
  dsimp only [kstB] at kInv kFr kNews
  have kB1 := kInv.k1
  have kB2 := kInv.k2
  have kB3 := kInv.k3
  show wpAny _ _ _ _ _ _
  k_fold
  k_steps
  · show KswEnd _ _ _ _ _ _ _ _ _ _ _ _
    rename News _ _ _ _ => kN
    rename Fr _ _ _ _ => kF
    exact ksw_end ⟨_, _, _, _⟩ kF kN (fun _ hp => nomatch hp) trivial (by kst_all) (by ksw_same) (by exact kInv.yes hds (by assumption) (decide_eq_true (by assumption))) (by dsimp only; rw [fd2]; omega)
  · show KswEnd _ _ _ _ _ _ _ _ _ _ _ _
    rename News _ _ _ _ => kN
    rename Fr _ _ _ _ => kF
    exact ksw_end ⟨_, _, _, _⟩ kF kN (fun _ hp => nomatch hp) trivial (by kst_all) (by ksw_same) (by exact kInv.no hds (by assumption) (fun e => absurd (of_decide_eq_true e) (by assumption))) (by dsimp only; rw [fd2]; omega)
  · show Q _ _
    have e := kInv.fin (by assumption)
    subst e
    exact h _ _ _ kFr.keep
end Mine
end
section
open PySem PySem.W PyProof.Rows PySem.Calls
set_option maxRecDepth 100000
namespace Mine
theorem fr_keeps {h₀ h h' : Heap} {L : Addr} {m : Str → Option Value} (F : Fr h₀ L h m) (k : ∀ b o, h.get? b = some o → h'.get? b = some o) : Fr h₀ L h' m :=
  ⟨F.ns.keeps k, fun b o e => k b o (F.keep b o e), F.above⟩
theorem news_keeps {h₀ h h' : Heap} {L : Addr} {news : List (Addr × Obj)} (N : News h₀ L h news) (k : ∀ b o, h.get? b = some o → h'.get? b = some o) : News h₀ L h' news :=
  fun p hp => ⟨k _ _ (N p hp).1, (N p hp).2⟩
section
variable {prog : Program} {w : World} {A : Around} {s : Shared} {K : Frag} {p : Program} {loose : List Str} {mean : ExcName → Option Value} {mg mb : Str → Option Value}
/-- a call of a def of the top, the whole heap of the caller frozen but for one object -/
theorem call_but {Q E : Value → Shared → Prop} {name qual : Str} {params : Arguments} {body : List Stmt} {scope : Scope} {dV kV doc pm cdv ct oc : Value} {an od : Option Addr} {osl : Array (Option Value)} {f a : Addr} {oa : Obj} {args : List Value} {binds : List (Str × Value)} {h₀ : Heap}
    (hk₀ : ∀ b o, h₀.get? b = some o → s.heap.get? b = some o) (ha : s.heap.get? a = some oa) (hna : h₀.get? a = none) (X₀ : K.In h₀) (T₀ : Top p loose mean mg mb h₀)
    (ho : K.lookup f = some ⟨oc, od, .func (fnOf name qual params body scope dV kV doc pm an cdv ct), osl⟩) (hcd : codeIn K cdv qual = true) (hroom : A.depth < recursionLimit)
    (hbind : BindsTo s (fnOf name qual params body scope dV kV doc pm an cdv ct) ⟨args, []⟩ binds) (hloc : ∀ y ∈ binds, scope.names.lookup y.1 = some .local)
    (h : ∀ g L h₁, (∀ b o, b ≠ a → s.heap.get? b = some o → g.get? b = some o) → Fr g L h₁ (fun y => binds.reverse.lookup y) → News g L h₁ [(a, oa)] → K.In g → Top p loose mean mg mb g →
      wpAny (model prog w) (A.deeper (envOf qual scope L f cdv)) (execs body (envOf qual scope L f cdv))
        (fun fl s' => Q (match fl with | .ret v => v | _ => .none) s')
        (fun e s' => wpAny (model prog w) (A.deeper (envOf qual scope L f cdv)) (leaving (envOf qual scope L f cdv) e) (fun _ s'' => E e s'') (fun e' s'' => E e' s'') s')
        { s with heap := h₁, toks := s.toks + binds.length })
    (hco : scope.isCoroutine = false) (hgen : scope.isGenerator = false) (hk : scope.kind = .function)
    (hcell : ∀ x ∈ scope.names, x.2 ≠ .cell) : wpAny (model prog w) A (call (.ref f) args) Q E s := by
  have X : K.In s.heap := X₀.keeps hk₀
  have T : Top p loose mean mg mb s.heap := T₀.keeps hk₀
  have hg : ∀ b o, h₀.get? b = some o → (s.heap.hide a).get? b = some o := fun b o e => (Heap.hide_ne s.heap (fun q : b = a => by rw [q, hna] at e; cases e)).trans (hk₀ b o e)
  refine wpAny_call ?_
  refine codeAny_call_def (fd := fnOf name qual params body scope dV kV doc pm an cdv ct) (body := body) (binds := binds) hroom (X _ _ ho) rfl T.nolimit (codeRec_of X hcd) rfl hbind hcell hloc (fun h₁ hns hk₁ => ?_) hco hgen hk
  refine h (s.heap.hide a) s.heap.objs.size h₁ (fun b o hb e => (Heap.hide_ne s.heap hb).trans e) ⟨hns, fun b o e => hk₁ b o (Heap.of_hide e), Nat.le_of_eq (Heap.hide_size _ _)⟩ ?_ (X₀.keeps hg) (T₀.keeps hg)
  intro q hq
  rw [List.mem_singleton.mp hq]
  exact ⟨hk₁ _ _ ha, Nat.ne_of_lt (Heap.lt_size ha), Heap.hide_self _ _⟩
end
theorem PairsAt.keepsBut {h h' : Heap} {a : Addr} {o : Obj} (ha : h.get? a = some o) (hc : o.cls = .type "list") (k : ∀ b o, b ≠ a → h.get? b = some o → h'.get? b = some o) : ∀ {vs : List Value} {ds : List (Int × Int)}, PairsAt h vs ds → PairsAt h' vs ds
  | _, _, .nil => .nil
  | _, _, .cons e r => .cons (k _ _ (fun q => by rw [q, ha] at e; cases e; exact absurd (show Value.type "tuple" = Value.type "list" from hc) (by decide)) e) (r.keepsBut ha hc k)
theorem kl_ins_at {vs : List Value} {k : Int} {y : Value} (h0 : 0 ≤ k) (h1 : k ≤ vs.length) : kl_ins vs k y = vs.take k.toNat ++ y :: vs.drop k.toNat := by
  unfold kl_ins
  have e1 : (if k < 0 then (k + (vs.length : Int)).toNat else min k.toNat vs.length) = k.toNat := by
    rw [if_neg (by omega)]; omega
  rw [e1]
theorem bgo_bound (ds : List (Int × Int)) (p : Int × Int) : ∀ (n : Nat) (lo hi : Int), lo ≤ hi → lo ≤ bgo ds p n lo hi ∧ bgo ds p n lo hi ≤ hi
  | 0, lo, hi, h => ⟨Int.le_refl _, h⟩
  | n + 1, lo, hi, h => by
    show lo ≤ (if lo < hi then (if ltp _ p = true then bgo ds p n _ _ else bgo ds p n _ _) else lo) ∧ (if lo < hi then (if ltp _ p = true then bgo ds p n _ _ else bgo ds p n _ _) else lo) ≤ hi
    by_cases hc : lo < hi
    · rw [if_pos hc]
      have e := fd2 (lo + hi)
      split
      · have := bgo_bound ds p n ((lo + hi).fdiv 2 + 1) hi (by rw [e]; omega)
        rw [e] at this ⊢; omega
      · have := bgo_bound ds p n lo ((lo + hi).fdiv 2) (by rw [e]; omega)
        rw [e] at this ⊢; omega
    · rw [if_neg hc]; omega
theorem bisL_bound (ds : List (Int × Int)) (p : Int × Int) : 0 ≤ bisL ds p ∧ bisL ds p ≤ ds.length := bgo_bound ds p 20 0 ds.length (by omega)
end Mine
end
section
open PySem PySem.W PyProof.Rows PySem.Calls
set_option maxRecDepth 100000
namespace Mine
local macro_rules | `(tactic| walk_at "call builtin:list.insert") => `(tactic| (k_here; (with_reducible show wpAny _ _ (call (Value.builtin _) [Value.ref _, Value.int _ _, _]) _ _ _); k_dflt (refine' kl_insert ?F ?N ?f ?e ?U ?z ?_; (case F => k_asm); (case N => k_asm); (case U => k_upd); (case f => (simp [Builtin.List.listFitsIndex]; omega)); (case e => rfl); (case z => (simp [sizeLine]; omega))); intro h' F' N'))
set_option maxHeartbeats 8000000 in
theorem insort_c {w : World} {p : Program} {loose : List Str} {mean : ExcName → Option Value} {mg mb : Str → Option Value} {dp un : Nat} {fr : Option (List Env)} {gd : Option (List Code)} {s : Shared} {a x : Addr} {vs : List Value} {ds : List (Int × Int)} {f l : Int} {t u : Tok} {n n₁ : Nat} {h₀ : Heap} {Q E : Value → Shared → Prop}
    (hroom : dp + 20 < recursionLimit) (hun : un + 20 < cLine) (hk₀ : ∀ b o, h₀.get? b = some o → s.heap.get? b = some o) (hna : h₀.get? a = none) (X₀ : (Mine.hd.heap_39 w.params).In h₀) (T₀ : Top p loose mean mg mb h₀)
    (hl : s.heap.get? a = some (W.listOf vs.toArray n₁)) (hP : PairsAt s.heap vs ds) (hds : ds.length ≤ 16)
    (hx : s.heap.get? x = some { cls := .type "tuple", data := .seq #[.int f t, .int l u] n })
    (h : ∀ n₂ h' tk', (∀ b o, b ≠ a → s.heap.get? b = some o → h'.get? b = some o) → h'.get? a = some (W.listOf (vs.take (bisL ds (f, l)).toNat ++ .ref x :: vs.drop (bisL ds (f, l)).toNat).toArray n₂) → Q .none { s with heap := h', toks := tk' }) :
    wpAny (model PySem.Challenge.rw_hf0004_01.row.prog w) (Ar dp un fr gd) (call (.ref 30) [.ref a, .ref x]) Q E s := by
  revert X₀; k_fill; intro X₀
  refine' call_but hk₀ hl hna X₀ T₀ ?k6 ?k7 ?k8 ?k9 ?kB ?_ ?c2 ?c3 ?c4 ?c5
  case k6 => k_is
  case k7 => k_is
  case k8 => simp only [recursionLimit] at *; omega
  case k9 => exact kp_binds (X₀.keeps hk₀) (fun _ => rfl)
  case c5 => decide
  case kB => exact locs rfl
  case c2 => exact rfl
  case c3 => exact rfl
  case c4 => exact rfl
  intro g L' h' hg F' N' X T
  have hlen := hP.length
  have hP' := hP.keepsBut hl rfl hg
  clear X₀
  show wpAny _ _ _ _ _ _
  k_fold
  k_with_none
  w_top off
  k_with "call ref" => refine stop_here ?_
  k_steps
  show wpAny _ _ _ _ _ _
  rename Fr _ _ _ _ => kF
  rename News _ _ _ _ => kN
  have ka := (kN _ (.head _)).1
  have hxa : x ≠ a := fun q => by
    rw [q, hl] at hx
    have e : Value.type "list" = Value.type "tuple" := congrArg Obj.cls (Option.some.inj hx)
    exact absurd e (by decide)
  have hx' := hg _ _ hxa hx
  refine bisect4_c (by simp only [recursionLimit] at *; omega) (by simp only [cLine] at *; omega) (X.keeps kF.keep) (T.keeps kF.keep) ⟨_, ka, rfl, n₁, rfl⟩ (hP'.keeps kF.keep) hds (kF.keep _ _ hx') ?_
  intro t' h'' tk'' hkk
  replace kF := fr_keeps kF hkk
  replace kN := news_keeps kN hkk
  clear ka hkk
  have hb := bisL_bound ds (f, l)
  show wpAny _ _ _ _ _ _
  k_fold
  k_steps
  rename Fr _ _ _ _ => kF'
  rename News _ _ _ _ => kN'
  refine h (n₁ + 1) _ _ (fun b o hb e => kF'.keep b o (hg b o hb e)) ?_
  rw [← kl_ins_at hb.1 (by omega)]
  exact (kN' _ (.head _)).1
end Mine
end
section
open PySem PySem.W PyProof.Rows PySem.Calls PyProof.V PySem.Spec
set_option maxRecDepth 100000
namespace Mine
/-- a loop over a range: what holds of the ledger between the turns; the stored names are let go -/
def RJ (x : Str) (stored : List Str) (m₀ : Str → Option Value) (J : Nat → List (Addr × Obj) → Prop) (i : Nat) (m : Str → Option Value) (nx : List (Addr × Obj)) : Prop :=
  J i nx ∧ ∀ z, z ≠ x → stored.contains z = false → m z = m₀ z
section
variable {prog : Program} {w : World} {A : Around} {E : Value → Shared → Prop} {s : Shared} {env : Env} {h₀ : Heap} {x : Str} {body : List Stmt} {Q : Flow → Shared → Prop}
theorem rj_fr {h : Heap} {L : Addr} {v : Option Value} {stored : List Str} {m₀ m₁ : Str → Option Value} (hm : ∀ z, z ≠ x → stored.contains z = false → m₁ z = m₀ z) (F : Fr h₀ L h (fun y => if y = x then v else m₁ y)) :
    Fr h₀ L h (fun y => if y = x then v else if stored.contains y then m₁ y else m₀ y) := by
  have e : (fun y => if y = x then v else if stored.contains y then m₁ y else m₀ y) = fun y => if y = x then v else m₁ y := by
    funext y
    by_cases h1 : y = x
    · simp [h1]
    · simp only [if_neg h1]
      cases h3 : stored.contains y with
      | true => simp
      | false => simp only [Bool.false_eq_true, if_false]; exact (hm y h1 h3).symm
  rw [e]; exact F
theorem rloop {r : Addr} {a₀ b₀ c : Int} {t₀ u₀ v₀ : Tok} {n : Nat} {m₀ : Str → Option Value} {news nx₀ : List (Addr × Obj)} (stored : List Str) (J : Nat → List (Addr × Obj) → Prop)
    (hh : A.handled = none) (hr : IsRange s.heap r a₀ b₀ c t₀ u₀ v₀) (hsmall : Builtin.Range.small a₀ b₀ c = true) (hsz : Builtin.Range.rangeSize a₀ b₀ c = (n : Int)) (F : Fr h₀ env.locals s.heap m₀) (N : News h₀ env.locals s.heap news) (hn : ∀ p ∈ nx₀, p ∈ news) (hj : J 0 nx₀)
    (turn : ∀ (i : Nat) t (u : Str → Option Value) nx h tk own, i < n → OwnOff own (nx.map (·.1)) → J i nx →
      Fr h₀ env.locals h (fun y => if y = x then some (.int (a₀ + i * c) t) else if stored.contains y then u y else m₀ y) → News h₀ env.locals h (nx ++ own) →
      wpAny (model prog w) A (execs body env) (InvPostG h₀ env.locals (RJ x stored m₀ J (i + 1)) own { s with heap := h, toks := tk } Q) E { s with heap := h, toks := tk })
    (done : ∀ (u : Str → Option Value) nx h tk, J n nx → Fr h₀ env.locals h (fun y => if y = x then u x else if stored.contains y then u y else m₀ y) → News h₀ env.locals h nx → Q .next { s with heap := h, toks := tk }) :
    wpAny (model prog w) A (pyIter (.ref r)) (fun it s₂ => LoopAtV prog w A h₀ env x body Q E it s₂) E s := by
  refine wpAny_pyIter_range hr hsmall ?_
  have W : Walks prog w A s.heap.objs.size [s.heap.objs.size] [s.heap.objs.size] n (fun i v => i < n ∧ ∃ t, v = .int (a₀ + i * c) t)
      (fun i h => IsRangeIter h s.heap.objs.size (a₀ + (i : Nat) * c) ((n : Int) - (i : Nat)) c) := (Walks.range hh _ a₀ c n).bound
  refine kdr_loop (fun i m nx => RJ x stored m₀ J i m nx) W (fun _ h => h) (fun _ h => h) ?_ ?_ ?_ ?_ (by show IsRangeIter _ _ _ _ _; rw [hsz]; simpa using Heap.get?_push_size _ rfl) (F.push _) (fun p hp => ⟨Heap.get?_push_of_some _ (N p (hn p hp)).1, (N p (hn p hp)).2⟩) ⟨hj, fun _ _ _ => rfl⟩ ?_ ?_
  · intro i h hi b hb
    rw [List.mem_singleton.mp hb]
    exact ⟨_, hi⟩
  · intro hm
    exact absurd F.ns.lt ((List.mem_singleton.mp hm) ▸ Nat.lt_irrefl _)
  · intro b hb
    rw [List.mem_singleton.mp hb]
    exact next_is_new F
  · intro p hp hI
    exact absurd (Heap.lt_size (N p (hn p hp)).1) ((List.mem_singleton.mp hI) ▸ Nat.lt_irrefl _)
  · rintro i v m₁ nx h tk own hi ⟨_, t, rfl⟩ hoff ⟨hj', hm⟩ F₁ N₁
    exact turn i t m₁ nx h tk own hi hoff hj' (rj_fr hm F₁) N₁
  · rintro m₁ nx h tk ⟨hj', hm⟩ F₁ N₁
    refine done m₁ nx h tk hj' ?_ N₁
    have e : m₁ = fun y => if y = x then m₁ x else m₁ y := by
      funext y
      by_cases h1 : y = x
      · simp [h1]
      · simp [h1]
    rw [e] at F₁
    exact rj_fr hm F₁
theorem rj_end {x : Str} {stored : List Str} {m₀ m' : Str → Option Value} {J : Nat → List (Addr × Obj) → Prop} {i : Nat} {L : Addr} {own news' : List (Addr × Obj)} {s₁ : Shared} {h' : Heap} {tk : Nat} (nx : List (Addr × Obj))
    (F : Fr h₀ L h' m') (N : News h₀ L h' news') (hn : ∀ p ∈ nx, p ∈ news') (ho : ∀ p ∈ own, p ∈ news') (hoff : OwnOff own (nx.map (·.1))) (hj : J i nx) (hm : ∀ z, z ≠ x → stored.contains z = false → m' z = m₀ z) :
    InvEndG h₀ L (RJ x stored m₀ J i) own s₁ { s₁ with heap := h', toks := tk } := ⟨h', tk, m', news', nx, rfl, F, N, hn, ho, hoff, hj, hm⟩
end
/-- a comprehension, its turns by induction -/
theorem comp_ind {prog : Program} {w : World} {A : Around} {h₀ : Heap} {L : Addr} {m : Str → Option Value} {env : Env} {elt : Expr} {x : Str} {scope : Scope} {cl : List (Str × Addr)} {s : Shared} {S : List (Addr × Obj) → Prop} {P : Nat → Value → Prop} {Fin : List Value → List (Addr × Obj) → Prop} {news : List (Addr × Obj)} {n : Nat}
    (J : Nat → List Value → List (Addr × Obj) → Prop) (h0 : J 0 [] news)
    (turn : ∀ i v I oI C oC D m₂ ys nx h tk (E' : Value → Shared → Prop), i < n → P i v → J i ys nx → LCg.NsObj oC m₂ → m₂ x = some v → Fr h₀ L h m → News h₀ L h ((I, oI) :: (C, oC) :: (D, LCg.lst ys) :: nx) → LCg.Off3 I C D nx → ((@Ne Nat I C) ∧ (@Ne Nat I D) ∧ (@Ne Nat C D)) →
      wpAny (model prog w) A (eval elt (compEnvC scope cl C env)) (LCg.CompEnd h₀ L m { s with heap := h, toks := tk } I oI C oC D (LCg.lst ys) S (fun y news' => J (i + 1) (ys ++ [y]) news')) E' { s with heap := h, toks := tk })
    (fin : ∀ ys nx, J n ys nx → Fin ys nx) : LCg.CompRest prog w A h₀ L m env elt x scope cl s S P Fin n 0 [] news := by
  have key : ∀ (j i : Nat) (ys : List Value) (nx : List (Addr × Obj)), i + j = n → J i ys nx → LCg.CompRest prog w A h₀ L m env elt x scope cl s S P Fin j i ys nx := by
    intro j
    induction j with
    | zero =>
      intro i ys nx hi hy
      have e : i = n := by omega
      subst e
      exact LCg.CompRest.zero (fin ys nx hy)
    | succ j ih =>
      intro i ys nx hi hy
      refine LCg.CompRest.succ ?_
      intro v I oI C oC D m₂ h tk E' hv hC hx F N off ne
      refine wpAny_mono (turn i v I oI C oC D m₂ ys nx h tk E' (by omega) hv hy hC hx F N off ne) (fun y s₂ hq => ?_) fun _ _ e => e
      obtain ⟨h', tk', nw, e, F', N', off', hS, hJ⟩ := hq
      exact ⟨h', tk', nw, e, F', N', off', hS, ih (i + 1) _ _ (by omega) hJ⟩
  exact key n 0 [] news (by omega) h0
theorem compT_ind {prog : Program} {w : World} {A : Around} {h₀ : Heap} {L : Addr} {m : Str → Option Value} {env : Env} {ct elt : Expr} {x : Str} {scope : Scope} {cl : List (Str × Addr)} {s : Shared} {S : List (Addr × Obj) → Prop} {P : Nat → Value → Prop} {Fin : List Value → List (Addr × Obj) → Prop} {news : List (Addr × Obj)} {n : Nat}
    (J : Nat → List Value → List (Addr × Obj) → Prop) (h0 : J 0 [] news)
    (turn : ∀ i v I oI C oC D m₂ ys nx h tk (E' : Value → Shared → Prop), i < n → P i v → J i ys nx → LCg.NsObj oC m₂ → m₂ x = some v → Fr h₀ L h m → News h₀ L h ((I, oI) :: (C, oC) :: (D, LCg.lst ys) :: nx) → LCg.Off3 I C D nx → ((@Ne Nat I C) ∧ (@Ne Nat I D) ∧ (@Ne Nat C D)) →
      wpAny (model prog w) A (isTrue ct (compEnvC scope cl C env) (eval ct (compEnvC scope cl C env))) (fun ok s' => if ok = true then
        wpAny (model prog w) A (eval elt (compEnvC scope cl C env)) (LCg.CompEnd h₀ L m { s with heap := h, toks := tk } I oI C oC D (LCg.lst ys) S (fun y news' => J (i + 1) (ys ++ [y]) news')) E' s'
        else LCg.CompEnd h₀ L m { s with heap := h, toks := tk } I oI C oC D (LCg.lst ys) S (fun _ news' => J (i + 1) ys news') Value.none s') E' { s with heap := h, toks := tk })
    (fin : ∀ ys nx, J n ys nx → Fin ys nx) : LCt.CompRestT prog w A h₀ L m env ct elt x scope cl s S P Fin n 0 [] news := by
  have key : ∀ (j i : Nat) (ys : List Value) (nx : List (Addr × Obj)), i + j = n → J i ys nx → LCt.CompRestT prog w A h₀ L m env ct elt x scope cl s S P Fin j i ys nx := by
    intro j
    induction j with
    | zero =>
      intro i ys nx hi hy
      have e : i = n := by omega
      subst e
      exact LCt.CompRestT.zero (fin ys nx hy)
    | succ j ih =>
      intro i ys nx hi hy
      refine LCt.CompRestT.succ ?_
      intro v I oI C oC D m₂ h tk E' hv hC hx F N off ne
      refine wpAny_mono (turn i v I oI C oC D m₂ ys nx h tk E' (by omega) hv hy hC hx F N off ne) (fun ok s₂ hq => ?_) fun _ _ e => e
      cases ok with
      | true =>
        simp only [if_true] at hq ⊢
        refine wpAny_mono hq (fun y s₃ hq => ?_) fun _ _ e => e
        obtain ⟨h', tk', nw, e, F', N', off', hS, hJ⟩ := hq
        exact ⟨h', tk', nw, e, F', N', off', hS, ih (i + 1) _ _ (by omega) hJ⟩
      | false =>
        simp only [Bool.false_eq_true, if_false] at hq ⊢
        obtain ⟨h', tk', nw, e, F', N', off', hS, hJ⟩ := hq
        exact ⟨h', tk', nw, e, F', N', off', hS, ih (i + 1) _ _ (by omega) hJ⟩
  exact key n 0 [] news (by omega) h0
end Mine
end
section
open PySem PySem.W PyProof.Rows PySem.Calls PyProof.V PySem.Spec
set_option maxRecDepth 100000
namespace Mine
abbrev tup2 (f : Int) (t : Tok) (l : Int) (u : Tok) (n : Nat) : Obj := { cls := .type "tuple", data := .seq #[.int f t, .int l u] n }
/-- the values of the kept stretches, by their numbers -/
noncomputable def kv (rs : List Int) : Nat → Nat → Int × Int
  | 0, _ => (0, 0)
  | f + 1, j => if rs.length ≤ j then (rs.getD (j - rs.length) 0, rs.getD (j - rs.length) 0) else ((kv rs f (2 * j)).1 + (kv rs f (2 * j + 1)).1, max (kv rs f (2 * j)).2 (kv rs f (2 * j + 1)).2)
theorem kv_fuel (rs : List Int) : ∀ (f j : Nat), rs.length ≤ 2 ^ f * j → kv rs (f + 2) j = kv rs (f + 1) j
  | 0, j, h => by
    have h' : rs.length ≤ j := by simpa using h
    show (if rs.length ≤ j then _ else _) = (if rs.length ≤ j then _ else _)
    rw [if_pos h', if_pos h']
  | f + 1, j, h => by
    show (if rs.length ≤ j then _ else ((kv rs (f + 2) (2 * j)).1 + (kv rs (f + 2) (2 * j + 1)).1, max (kv rs (f + 2) (2 * j)).2 (kv rs (f + 2) (2 * j + 1)).2)) = (if rs.length ≤ j then _ else _)
    by_cases hc : rs.length ≤ j
    · rw [if_pos hc, if_pos hc]
    · rw [if_neg hc, if_neg hc]
      have e : 2 ^ (f + 1) * j = 2 ^ f * (2 * j) := by rw [Nat.pow_succ]; rw [Nat.mul_assoc]
      have h1 : rs.length ≤ 2 ^ f * (2 * j) := e ▸ h
      have h2 : rs.length ≤ 2 ^ f * (2 * j + 1) := Nat.le_trans h1 (Nat.mul_le_mul_left _ (Nat.le_succ _))
      rw [kv_fuel rs f (2 * j) h1, kv_fuel rs f (2 * j + 1) h2]
noncomputable def kvv (rs : List Int) (j : Nat) : Int × Int := kv rs 4 j
theorem kvv_leaf {rs : List Int} {j : Nat} (h : rs.length ≤ j) : kvv rs j = (rs.getD (j - rs.length) 0, rs.getD (j - rs.length) 0) := by
  show (if rs.length ≤ j then _ else _) = _
  rw [if_pos h]
theorem kvv_node {rs : List Int} {j : Nat} (h8 : rs.length ≤ 8) (h1 : 1 ≤ j) (h : j < rs.length) : kvv rs j = ((kvv rs (2 * j)).1 + (kvv rs (2 * j + 1)).1, max (kvv rs (2 * j)).2 (kvv rs (2 * j + 1)).2) := by
  show (if rs.length ≤ j then _ else ((kv rs 3 (2 * j)).1 + (kv rs 3 (2 * j + 1)).1, max (kv rs 3 (2 * j)).2 (kv rs 3 (2 * j + 1)).2)) = _
  rw [if_neg (by omega)]
  have e1 : kv rs 4 (2 * j) = kv rs 3 (2 * j) := kv_fuel rs 2 (2 * j) (by omega)
  have e2 : kv rs 4 (2 * j + 1) = kv rs 3 (2 * j + 1) := kv_fuel rs 2 (2 * j + 1) (by omega)
  show _ = ((kv rs 4 (2 * j)).1 + (kv rs 4 (2 * j + 1)).1, max (kv rs 4 (2 * j)).2 (kv rs 4 (2 * j + 1)).2)
  rw [e1, e2]
/-- the list's items from lo on are pairs of the ledger P -/
def KV (P : List (Addr × Obj)) (vs : List Value) (ov : Nat → Int × Int) (lo hi : Nat) : Prop :=
  vs.length = hi ∧ ∀ j, lo ≤ j → j < hi → ∃ a t u n, vs[j]? = some (.ref a) ∧ (a, tup2 (ov j).1 t (ov j).2 u n) ∈ P
theorem KV.mono {P P' : List (Addr × Obj)} {vs : List Value} {ov : Nat → Int × Int} {lo hi : Nat} (k : KV P vs ov lo hi) (h : ∀ p ∈ P, p ∈ P') : KV P' vs ov lo hi :=
  ⟨k.1, fun j h1 h2 => let ⟨a, t, u, n, e, m⟩ := k.2 j h1 h2; ⟨a, t, u, n, e, h _ m⟩⟩
theorem KV.snoc {P P' : List (Addr × Obj)} {vs : List Value} {ov : Nat → Int × Int} {i : Nat} {a : Addr} {t u : Tok} {n : Nat} (k : KV P vs ov 0 i) (h : ∀ p ∈ P, p ∈ P') (hm : (a, tup2 (ov i).1 t (ov i).2 u n) ∈ P') : KV P' (vs ++ [.ref a]) ov 0 (i + 1) := by
  refine ⟨by rw [List.length_append, k.1]; rfl, fun j h1 h2 => ?_⟩
  by_cases e : j = i
  · subst e
    exact ⟨a, t, u, n, by rw [← k.1]; simp, hm⟩
  · obtain ⟨a', t', u', n', e', m'⟩ := k.2 j h1 (by omega)
    exact ⟨a', t', u', n', by rw [List.getElem?_append_left (by rw [k.1]; omega)]; exact e', h _ m'⟩
/-- nothings ahead, the pairs behind -/
theorem KV.ahead {P : List (Addr × Obj)} {vs ns : List Value} {ov ov' : Nat → Int × Int} {i k : Nat} (h : KV P vs ov 0 i) (hn : ns.length = k) (e : ∀ j, j < i → ov' (k + j) = ov j) : KV P (ns ++ vs) ov' k (k + i) := by
  refine ⟨by rw [List.length_append, h.1, hn], fun j h1 h2 => ?_⟩
  obtain ⟨a, t, u, n, e', m'⟩ := h.2 (j - k) (by omega) (by omega)
  rw [← e (j - k) (by omega), show k + (j - k) = j by omega] at m'
  exact ⟨a, t, u, n, by rw [List.getElem?_append_right (by omega), hn]; exact e', m'⟩
theorem KV.put {P : List (Addr × Obj)} {vs : List Value} {ov : Nat → Int × Int} {lo hi : Nat} {a : Addr} {t u : Tok} {n : Nat} (k : KV P vs ov (lo + 1) hi) (h : lo < hi) (hm : (a, tup2 (ov lo).1 t (ov lo).2 u n) ∈ P) : KV P (vs.set lo (.ref a)) ov lo hi := by
  refine ⟨by rw [List.length_set]; exact k.1, fun j h1 h2 => ?_⟩
  by_cases e : lo = j
  · subst e
    exact ⟨a, t, u, n, by rw [List.getElem?_set_self (by rw [k.1]; exact h)], hm⟩
  · obtain ⟨a', t', u', n', e', m'⟩ := k.2 j (by omega) h2
    exact ⟨a', t', u', n', by rw [List.getElem?_set_ne e]; exact e', m'⟩
section
variable {prog : Program} {w : World} {A : Around} {E : Value → Shared → Prop} {s : Shared} {h₀ : Heap} {L l D : Addr} {m : Str → Option Value} {news news' : List (Addr × Obj)}
theorem kv_item {value slice : PySem.Expr} {P : List (Addr × Obj)} {vs : List Value} {ov : Nat → Int × Int} {lo hi n₁ : Nat} {k : Int} {u : Tok} {Q : Value → Shared → Prop} (N : News h₀ L s.heap news) (hm : (l, W.listOf vs.toArray n₁) ∈ news) (hk : KV P vs ov lo hi)
    (h0 : (lo : Int) ≤ k) (h1 : k < (hi : Int)) (hfit : hi ≤ 1000)
    (h : ∀ a t t' n, (a, tup2 (ov k.toNat).1 t (ov k.toNat).2 t' n) ∈ P → Q (.ref a) s)
    (hs : subscripted slice false (.ref l) (.int k u) = operate [.ref l, .int k u] (getItem (.ref l) (.int k u)) := by with_unfolding_all rfl) :
    wpAny (model prog w) A (subscriptTail value slice (.ref l) (.int k u)) Q E s := by
  have hl' : s.heap.IsList l vs.toArray := ⟨_, (N _ hm).1, rfl, n₁, rfl⟩
  obtain ⟨a, t, t', n, e1, e2⟩ := hk.2 k.toNat (by omega) (by omega)
  exact tail_any hl'.typeIs slot_list_getitem.lookup (wpAny_getItem_list hl' (by omega) (by omega) (by simpa using e1) (h a t t' n e2)) hs
theorem kv_set {vs : List Value} {n : Nat} {k : Int} {t : Tok} {x : Value} {Q : Unit → Shared → Prop} (F : Fr h₀ L s.heap m) (N : News h₀ L s.heap news) (U : Upd D (W.listOf vs.toArray n) (W.listOf (vs.set k.toNat x).toArray n) news news') (h0 : 0 ≤ k) (h1 : k < vs.length) (hfit : vs.length ≤ 1000)
    (h : ∀ h', Fr h₀ L h' m → News h₀ L h' news' → Q () { s with heap := h' }) :
    wpAny (model prog w) A (setItem (.ref D) (.int k t) x) Q E s := by
  obtain ⟨pre, post, rfl, rfl, a, b⟩ := U.split
  have z := N (D, W.listOf vs.toArray n) (List.mem_append.mpr (.inr (.head _)))
  refine ki_setAt z.1 h0 (by omega) (by rw [List.size_toArray]; omega) (h _ (F.change (Heap.SameBut.update ..) z.2.1 z.2.2) (ki_turn _ N a b ?_ ?_))
  · apply Array.toList_inj.mp
    simp
  · simp
end
theorem add_listsD {prog : Program} {w : World} {A : Around} {E : Value → Shared → Prop} {s : Shared} {h₀ : Heap} {L : Addr} {m : Str → Option Value} {news : List (Addr × Obj)} {l b : Addr} {vs ws : List Value} {Q : Value → Shared → Prop} (F : Fr h₀ L s.heap m) (N : News h₀ L s.heap news) (hl : s.heap.IsList l vs.toArray) (hb : s.heap.IsList b ws.toArray)
    (h : ∀ D h', Fr h₀ L h' m → News h₀ L h' ((D, W.listOf (vs ++ ws).toArray 0) :: news) → AllLt D news → Q (.ref D) { s with heap := h' }) (hsz : vs.length + ws.length ≤ sizeLine) :
    wpAny (model prog w) A (binaryOp .Add (.ref l) (.ref b)) Q E s :=
  add_lists F N hl hb (fun h' F' N' => h _ h' F' N' (allLt_of fun p hp => Heap.lt_size (N p hp).1)) hsz
section
variable {prog : Program} {w : World} {A : Around} {E : Value → Shared → Prop} {s : Shared} {h₀ : Heap} {L b : Addr} {m : Str → Option Value} {news : List (Addr × Obj)} {f l : Int} {t u tk : Tok} {n : Nat} {Q : Value → Shared → Prop} {value slice : PySem.Expr}
theorem tup_it0 (hg : s.heap.get? b = some (tup2 f t l u n)) (h : Q (.int f t) s)
    (hs : subscripted slice false (.ref b) (.int 0 tk) = operate [.ref b, .int 0 tk] (getItem (.ref b) (.int 0 tk)) := by with_unfolding_all rfl) :
    wpAny (model prog w) A (subscriptTail value slice (.ref b) (.int 0 tk)) Q E s := item_tupleT (l := [.int f t, .int l u]) ⟨_, hg, rfl, _, rfl⟩ (by decide) (by decide) (j := 0) rfl rfl h hs
theorem tup_it1 (hg : s.heap.get? b = some (tup2 f t l u n)) (h : Q (.int l u) s)
    (hs : subscripted slice false (.ref b) (.int 1 tk) = operate [.ref b, .int 1 tk] (getItem (.ref b) (.int 1 tk)) := by with_unfolding_all rfl) :
    wpAny (model prog w) A (subscriptTail value slice (.ref b) (.int 1 tk)) Q E s := item_tupleT (l := [.int f t, .int l u]) ⟨_, hg, rfl, _, rfl⟩ (by decide) (by decide) (j := 1) rfl rfl h hs
end
theorem flat_none (k : Nat) : (List.replicate ((k : Nat) : Int).toNat [Value.none]).flatten = List.replicate k Value.none := by
  rw [Int.toNat_natCast]
  induction k with
  | zero => rfl
  | succ k ih => rw [List.replicate_succ, List.flatten_cons, ih, List.replicate_succ]; rfl
end Mine
end
section
open PySem PySem.W PyProof.Rows PySem.Calls PyProof.V PySem.Spec
set_option maxRecDepth 100000
namespace Mine
local macro_rules | `(tactic| walk_at "binaryOp Mult ref int") => `(tactic| (k_here; (with_reducible show wpAny _ _ (binaryOp Operator.Mult (Value.ref _) (Value.int _ _)) _ _ _); k_dflt (refine' KMa.mul ?F ?N ?l ?lo ?hi ?z ?e ?_; (case F => k_asm); (case N => k_asm); (case l => is_list); (case lo => omega); (case hi => omega); (case z => (simp; omega)); (case e => exact flat_none _); k_whole); intro D' h' F' N' l1; (try k_lt l1)))
local macro_rules | `(tactic| walk_at "call builtin:len") => `(tactic| (k_here; (with_reducible show wpAny _ _ (call (Value.builtin "len") [Value.ref _]) _ _ _); k_dflt (refine' len_fz ?F ?l ?e ?k ?_; (case F => k_asm); (case l => assumption); (case e => assumption); (case k => omega))))
local macro_rules | `(tactic| walk_at "subscriptTail") => `(tactic| (k_here; (with_reducible show wpAny _ _ (subscriptTail _ _ (Value.ref _) (Value.int _ _)) _ _ _); k_dflt (refine' kv_item ?N ?m ?P ?a ?b ?c ?_; (case N => k_asm); (case m => exact .head _); (case P => assumption); (case a => omega); (case b => omega); (case c => omega)); intro b' t' u' n' hT'))
local macro_rules | `(tactic| tb_rel) => `(tactic| first | assumption | exact List.mem_append.mpr (.inl (by assumption)) | (refine List.Mem.tail _ ?_; tb_rel))
local macro_rules | `(tactic| walk_at "subscriptTail") => `(tactic| (k_here; (with_reducible show wpAny _ _ (subscriptTail _ _ (Value.ref _) (Value.int 0 _)) _ _ _); k_dflt (refine' tup_it0 ?g ?_; (case g => exact News.get (by k_asm) (by tb_rel)))))
local macro_rules | `(tactic| walk_at "subscriptTail") => `(tactic| (k_here; (with_reducible show wpAny _ _ (subscriptTail _ _ (Value.ref _) (Value.int 1 _)) _ _ _); k_dflt (refine' tup_it1 ?g ?_; (case g => exact News.get (by k_asm) (by tb_rel)))))
local macro_rules | `(tactic| walk_at "InvEndG") => `(tactic| refine stop_here ?_)
local macro_rules | `(tactic| walk_at "setItem ref int ref") => `(tactic| refine stop_here ?_)
local macro_rules | `(tactic| walk_at "eval ListComp") => `(tactic| refine stop_here ?_)
set_option maxHeartbeats 8000000 in
theorem kept_c {w : World} {p : Program} {loose : List Str} {mean : ExcName → Option Value} {mg mb : Str → Option Value} {dp un : Nat} {fr : Option (List Env)} {gd : Option (List Code)} {s : Shared} {a : Addr} {vs : List Value} {rs : List Int} {Q E : Value → Shared → Prop}
    (hroom : dp + 20 < recursionLimit) (hun : un + 20 < cLine) (X : (Mine.hd.heap_39 w.params).In s.heap) (T : Top p loose mean mg mb s.heap)
    (hl : s.heap.IsList a vs.toArray) (hI : IntsAre vs rs) (hm : rs.length = 4 ∨ rs.length = 8)
    (h : ∀ kl ks n P h' tk', (∀ b o, s.heap.get? b = some o → h'.get? b = some o) → (∀ q ∈ (kl, W.listOf ks.toArray n) :: P, h'.get? q.1 = some q.2 ∧ s.heap.get? q.1 = none) → KV P ks (kvv rs) 1 (2 * rs.length) → Q (.ref kl) { s with heap := h', toks := tk' }) :
    wpAny (model PySem.Challenge.rw_hf0004_01.row.prog w) (Ar dp un fr gd) (call (.ref 44) [.ref a]) Q E s := by
  revert X; k_fill; intro X
  refine' call_frozen X T ?k6 ?k7 ?k8 ?k9 ?kB ?_ ?c2 ?c3 ?c4 ?c5
  case k6 => k_is
  case k7 => k_is
  case k8 => simp only [recursionLimit] at *; omega
  case k9 => exact kp_binds X (fun _ => rfl)
  case c5 => decide
  case kB => exact locs rfl
  case c2 => exact rfl
  case c3 => exact rfl
  case c4 => exact rfl
  intro L' h' F' N'
  have hlen := hI.length
  show wpAny _ _ _ _ _ _
  k_fold
  k_with_none
  w_top off
  k_steps
  show wpAny _ _ _ _ _ _
  rename Fr _ _ _ _ => kF
  rename News _ _ _ _ => kN
  rename_i D₀ _ _
  refine LCg.ListComp_U kF rfl (by decide) rfl (by decide) rfl ?_
  k_steps
  refine LCg.CompSrc.base rfl kF kN hl (by rw [List.size_toArray]; simp [sizeLine]; omega) (fun gh => comp_ind (fun i ys nx => ∃ tl, nx = (D₀, W.listOf (List.replicate rs.length Value.none).toArray 0) :: tl ∧ KV tl ys (fun j => (rs.getD j 0, rs.getD j 0)) 0 i) ⟨_, rfl, rfl, fun j _ hj => absurd hj (Nat.not_lt_zero _)⟩ ?_ ?_)
  · rintro i v I oI C oC D m₂ ys nx hh tk E' hi hv ⟨tl, rfl, hk⟩ hC hx F' N' off ne
    obtain ⟨r, t, rfl, hr⟩ := IntsAre.at hI i v (by simpa using hv)
    have off' := off.mem
    show wpAny _ _ _ _ _ _
    k_fold
    k_steps
    rename Fr _ _ _ _ => kF'
    rename News _ _ _ _ => kN'
    rename_i T' _ l1'
    have er : rs.getD i 0 = r := by simp [List.getD, hr]
    refine LCg.CompEnd.intro kF' kN' ((D₀, _) :: (T', tup2 r t r t 0) :: tl) ?_ ?_ (.inl hl) ⟨_, rfl, hk.snoc (a := T') (t := t) (u := t) (n := 0) (fun p hp => .tail _ hp) (by show (T', tup2 (rs.getD i 0) t (rs.getD i 0) t 0) ∈ _; rw [er]; exact .head _)⟩
    · intro p hp
      simp only [List.mem_cons] at hp ⊢
      rcases hp with e | e | e | e | e | e <;> simp only [e, true_or, or_true]
    · exact ⟨off.1, ⟨by simp only; omega, by simp only; omega, by simp only; omega⟩, off.2⟩
  · rintro ys nx ⟨tl, rfl, hk⟩ D h₂ tk₂ F₂ N₂ off₂
    rw [List.size_toArray, hlen] at hk
    k_with "binaryOp Add ref ref" => refine stop_here ?_
    show wpAny _ _ _ _ _ _
    k_steps
    show wpAny _ _ _ _ _ _
    have sD := (N₂ _ (.head _)).1
    have s0 := (N₂ _ (.tail _ (.head _))).1
    refine add_listsD F₂ N₂ ⟨_, s0, rfl, _, rfl⟩ ⟨_, sD, rfl, _, rfl⟩ (fun D₃ h₃ F₃ N₃ l₃ => ?_) (by rw [List.length_replicate, hk.1]; simp [sizeLine]; omega)
    clear s0 sD
    have hk₁ := hk.ahead (ns := List.replicate rs.length Value.none) (ov' := kvv rs) List.length_replicate (fun j hj => by rw [kvv_leaf (Nat.le_add_right _ _), Nat.add_sub_cancel_left])
    generalize List.replicate rs.length Value.none ++ ys = ks at N₃ hk₁
    simp only [AllLt] at l₃
    replace N₃ : News s.heap L' h₃ ((D₃, W.listOf ks.toArray 0) :: tl) := fun p hp => N₃ p (by
      rcases List.mem_cons.mp hp with e | e
      · rw [e]; exact .head _
      · exact .tail _ (.tail _ (.tail _ e)))
    have l₄ := l₃.2.2
    clear N₂ l₃
    dsimp only at F₃ ⊢
    show wpAny _ _ _ _ _ _
    k_fold
    k_steps
    rename IsRange _ _ _ _ _ _ _ _ => rgX
    rename Fr _ _ _ _ => F₄
    rename News _ _ _ _ => N₄
    have hrs : rs.length ≤ 8 := by omega
    have hoff₀ : ∀ p ∈ tl, p.1 ≠ D₃ := fun p hp => Nat.ne_of_lt (ktn_ltOf l₄ p hp)
    refine rloop [Str.ofString "one", Str.ofString "other"] (n := rs.length - 1) (fun i nx => ∃ ks tl, nx = (D₃, W.listOf ks.toArray 0) :: tl ∧ (∀ p ∈ tl, p.1 ≠ D₃) ∧ KV tl ks (kvv rs) (rs.length - i) (rs.length + rs.length)) rfl rgX
      (small_down (by omega) (by omega) (by omega) (by omega)) (by show Builtin.Range.rangeSize ((rs.length : Int) - 1) 0 (-1) = _; rw [rangeSize_downNat]; omega) F₄ N₄ (fun p hp => hp) ⟨ks, tl, rfl, hoff₀, hk₁⟩ ?_ ?_
    · rintro i t u nx h₅ tk₅ own hi hoff ⟨ks, tl, rfl, ht, hk⟩ F₅ N₅
      rw [List.cons_append] at N₅
      have hown : ∀ p ∈ own, p.1 ≠ D₃ := fun p hp => hoff p hp _ (.head _)
      have hall : ∀ p ∈ tl ++ own, p.1 ≠ D₃ := fun p hp => (List.mem_append.mp hp).elim (ht p) (hown p)
      have ek : ((rs.length : Int) - 1 + (i : Int) * (0 - 1)) = ((rs.length - i - 1 : Nat) : Int) := by omega
      rw [ek] at F₅
      generalize hj : rs.length - i - 1 = j at F₅
      have hk' : KV tl ks (kvv rs) (j + 1) (rs.length + rs.length) := by rw [← hj, show rs.length - i - 1 + 1 = rs.length - i by omega]; exact hk
      clear hk F₄ N₄ rgX
      show wpAny _ _ _ _ _ _
      k_fold
      k_steps
      show wpAny _ _ _ _ _ _
      rename Fr _ _ _ _ => F₆
      rename News _ _ _ _ => N₆
      rename_i T₁ _ l₆
      have hjl : j < rs.length := by omega
      refine kv_set F₆ N₆ (Upd.tail (by k_ne) (Upd.tail (by k_ne) (Upd.head hall))) (by omega) (by rw [hk'.1]; omega) (by rw [hk'.1]; omega) (fun h₇ F₇ N₇ => ?_)
      clear F₆ N₆
      (try k_fold)
      k_steps
      show InvEndG _ _ _ _ _ _
      have hj1 : 1 ≤ j := by omega
      have c1 : (2 * (j : Int)).toNat = 2 * j := by omega
      have c2 : (2 * (j : Int) + 1).toNat = 2 * j + 1 := by omega
      have c3 : (j : Int).toNat = j := by omega
      have c4 : (if (kvv rs (2 * j + 1)).2 > (kvv rs (2 * j)).2 then (kvv rs (2 * j + 1)).2 else (kvv rs (2 * j)).2) = max (kvv rs (2 * j)).2 (kvv rs (2 * j + 1)).2 := by rw [Int.max_def]; split <;> split <;> omega
      simp only [c1, c2, c3] at N₇
      rw [c4] at N₇
      have en := kvv_node hrs hj1 hjl
      obtain ⟨t₁, u₁, N₈⟩ : ∃ t₁ u₁, News s.heap L' h₇ ((T₁, tup2 (kvv rs j).1 t₁ (kvv rs j).2 u₁ 0) :: (D₃, W.listOf (ks.set j (.ref T₁)).toArray 0) :: (tl ++ own)) :=
        ⟨_, _, by rw [en]; exact fun p hp => N₇ p ((List.mem_cons.mp hp).elim (fun e => by rw [e]; exact .head _) (fun e => .tail _ (.tail _ e)))⟩
      clear N₇
      refine rj_end ((D₃, W.listOf (ks.set j (.ref T₁)).toArray 0) :: (T₁, tup2 (kvv rs j).1 t₁ (kvv rs j).2 u₁ 0) :: tl) F₇ N₈ ?_ ?_ ?_ ⟨_, _, rfl, ?_, ?_⟩ ?_
      · intro p hp
        simp only [List.mem_cons, List.mem_append] at hp ⊢
        rcases hp with e | e | e <;> simp only [e, true_or, or_true]
      · intro p hp
        exact .tail _ (.tail _ (List.mem_append.mpr (.inr hp)))
      · intro p hp b hb
        simp only [List.map_cons, List.mem_cons] at hb
        rcases hb with e | e | e
        · rw [e]; exact hown p hp
        · rw [e]; exact Nat.ne_of_lt (ktn_ltOf l₆.2.2 p (List.mem_append.mpr (.inr hp)))
        · exact hoff p hp b (.tail _ e)
      · intro p hp
        rcases List.mem_cons.mp hp with e | e
        · rw [e]; exact Nat.ne_of_gt l₆.2.1
        · exact ht p e
      · rw [show rs.length - (i + 1) = j by omega]
        exact KV.put (t := t₁) (u := u₁) (n := 0) (hk'.mono (fun p hp => .tail _ hp)) (by omega) (.head _)
      · intro z h1 h2
        simp only [List.contains_cons, List.contains_nil, Bool.or_false, Bool.or_eq_false_iff, beq_eq_false_iff_ne, ne_eq] at h2
        simp [h1, h2]
    · rintro u nx h₅ tk₅ ⟨ks, tl, rfl, ht, hk⟩ F₅ N₅
      show wpAny _ _ _ _ _ _
      (try k_fold)
      k_steps
      show Q _ _
      rw [show rs.length - (rs.length - 1) = 1 by omega, show rs.length + rs.length = 2 * rs.length by omega] at hk
      exact h D₃ ks 0 tl _ _ F₅.keep (fun q hq => ⟨(N₅ q hq).1, (N₅ q hq).2.2⟩) hk
end Mine
end
section
open PySem PySem.W PyProof.Rows PySem.Calls PyProof.V PySem.Spec
set_option maxRecDepth 100000
namespace Mine
theorem law_cut {M : Model} {A : Around} {t : Sem Flow} {Q : Flow → Shared → Prop} {E : Value → Shared → Prop} {s : Shared} {g : Heap} {L : Addr} {m : Str → Option Value} (hF : Fr g L s.heap m)
    (h1 : ∀ (Q : Flow → Shared → Prop) (E : Value → Shared → Prop), (∀ h' tk', (∀ b o, g.get? b = some o → h'.get? b = some o) → (∃ ps, h'.get? 16 = some (tabObj ps)) → Q (.ret (.bool true)) { s with heap := h', toks := tk' }) → wpAny M A t Q E s)
    (h2 : ∀ h' tk', (∀ b o, g.get? b = some o → h'.get? b = some o) → (∃ ps, h'.get? 16 = some (tabObj ps)) → Q (.ret (.bool true)) { s with heap := h', toks := tk' }) : wpAny M A t Q E s := h1 Q E h2
def Pk (m k a b : Int) : Prop := m = (if k = 0 then a else b)
section
variable {prog : Program} {w : World} {A : Around} {E : Value → Shared → Prop} {s : Shared}
theorem pick2 {value slice : PySem.Expr} {l : Addr} {a b k : Int} {t u tk : Tok} {Q : Value → Shared → Prop} (hl : s.heap.IsList l #[.int a t, .int b u]) (hk : 0 ≤ k ∧ k < 2) (ha : 0 ≤ a) (hb : 0 ≤ b)
    (h : ∀ m t', Pk m k a b → 0 ≤ m → Q (.int m t') s)
    (hs : subscripted slice false (.ref l) (.int k tk) = operate [.ref l, .int k tk] (getItem (.ref l) (.int k tk)) := by with_unfolding_all rfl) :
    wpAny (model prog w) A (subscriptTail value slice (.ref l) (.int k tk)) Q E s := by
  have hk' : k = 0 ∨ k = 1 := by omega
  rcases hk' with rfl | rfl
  · exact tail_any hl.typeIs slot_list_getitem.lookup (wpAny_getItem_list (k := 0) (x := .int a t) hl (by decide) (by decide) rfl (h a t rfl ha)) hs
  · exact tail_any hl.typeIs slot_list_getitem.lookup (wpAny_getItem_list (k := 1) (x := .int b u) hl (by decide) (by decide) rfl (h b u rfl hb)) hs
end
theorem fm2_lt (x : Int) : 0 ≤ x.fmod 2 ∧ x.fmod 2 < 2 := ⟨Int.fmod_nonneg_of_pos _ (by decide), Int.fmod_lt_of_pos _ (by decide)⟩
theorem m48 {m k : Int} (h : Pk m k 4 8) : m = 4 ∨ m = 8 := by unfold Pk at h; split at h <;> omega
end Mine
end
section
open PySem PySem.W PyProof.Rows PySem.Calls PyProof.V PySem.Spec
set_option maxRecDepth 100000
namespace Mine
section
variable {prog : Program} {w : World} {A₀ A : Around} {s : Shared} {base h₀ : Heap} {outer : List Env} {L : Addr} {m : Str → Option Value} {env : Env} {K : Frag} {p : Program} {loose : List Str} {mean : ExcName → Option Value} {mg mb : Str → Option Value}
/-- a call of a def of the top that has cells; all frozen but one object -/
theorem call_cellsBut {Q E : Value → Shared → Prop} {name qual : Str} {params : Arguments} {body : List Stmt} {scope : Scope} {dV kV doc pm cdv ct oc : Value} {an od : Option Addr} {osl : Array (Option Value)} {f a : Addr} {oa : Obj} {args : List Value} {binds : List (Str × Value)}
    (B : Below A₀ base outer h₀) (F : Fr h₀ L s.heap m) (X₀ : K.In h₀) (N : News h₀ L s.heap [(a, oa)]) (T : Top p loose mean mg mb h₀) (hA : A.frames = some (env :: outer)) (hf : env.frame = some L) (hke : env.scope.kind = .function)
    (ho : K.lookup f = some ⟨oc, od, .func (fnOf name qual params body scope dV kV doc pm an cdv ct), osl⟩) (hcd : codeIn K cdv qual = true) (hroom : A.depth < recursionLimit)
    (hbind : BindsTo s (fnOf name qual params body scope dV kV doc pm an cdv ct) ⟨args, []⟩ binds) (hkind : (binds.all fun y => scope.names.lookup y.1 == some .local || scope.names.lookup y.1 == some .cell) = true)
    (hnd : ((cellsFrom 0 scope.names []).map (·.1)).Nodup)
    (h : ∀ g L' h₁ tk cells, (∀ b o, b ≠ a → s.heap.get? b = some o → g.get? b = some o) → Fr g L' h₁ (bindL (envOfC qual scope L' f cdv).kindOf binds fun _ => none) → News g L' h₁ (cells ++ [(a, oa)]) →
      CellsAre (bindC (envOfC qual scope L' f cdv).kindOf binds fun _ => none) (cellsFrom (L' + 1) scope.names []) cells → Below A base (env :: outer) g → h₀.StaysIn g → K.In g → Top p loose mean mg mb g → @LT.lt Nat _ a L' →
      wpAny (model prog w) (A.deeper (envOfC qual scope L' f cdv)) (execs body (envOfC qual scope L' f cdv))
        (fun fl s' => Q (match fl with | .ret v => v | _ => .none) s')
        (fun e s' => wpAny (model prog w) (A.deeper (envOfC qual scope L' f cdv)) (leaving (envOfC qual scope L' f cdv) e) (fun _ s'' => E e s'') (fun e' s'' => E e' s'') s')
        { s with heap := h₁, toks := tk })
    (hco : scope.isCoroutine = false) (hgen : scope.isGenerator = false) (hk : scope.kind = .function) : wpAny (model prog w) A (call (.ref f) args) Q E s := by
  have hna : s.heap.get? a = some oa := (N _ (.head _)).1
  have hna₀ : h₀.get? a = none := (N _ (.head _)).2.2
  obtain ⟨FG, BG, st, _⟩ := groundX (R := fun _ _ => True) B F N hA hf hke
  have hg : ∀ b o, b ≠ a → s.heap.get? b = some o → (hideAll s.heap ([(a, oa)].map (·.1))).get? b = some o := fun b o hb e => hideAll_get _ e (fun q => hb (List.mem_singleton.mp q))
  refine wpAny_call ?_
  refine codeAny_call_function hroom ((X₀.keeps F.keep) _ _ ho) rfl hco hgen rfl (codeRec_of (X₀.keeps F.keep) hcd) (hbind _ _ _ _ ?_)
  refine wpAny_newFunctionEnv_cells hk (kindsX hkind _) fun env' he s' x => ?_
  subst he
  refine ⟨(T.nolimit.keeps F.keep).keeps x.toInCall.keep, codeAny_func ?_⟩
  obtain ⟨h₁, tk, rfl, _⟩ := x.done
  have hk₁ := x.toInCall.keep
  obtain ⟨cells, NC, Y⟩ := Cl.news (h₀ := s.heap) (Nat.le_refl _) fun n c hm => ⟨x.cell n c (lookup_of_mem_nodup (cellsFrom_names scope.names 0 (s.heap.objs.size + 1) [] [] rfl ▸ hnd) hm), x.above n c hm⟩
  refine h _ s.heap.objs.size h₁ tk cells hg ⟨x.toInCall.ns, fun b o e => hk₁ b o (of_hideAll _ e), Nat.le_of_eq (hideAll_size _ _)⟩ (fun p hp => ?_) Y BG st (X₀.keeps st) (T.keeps st) (Heap.lt_size hna)
  rcases List.mem_append.mp hp with hp | hp
  · refine ⟨(NC p hp).1, (NC p hp).2.1, ?_⟩
    cases q : (hideAll s.heap ([(a, oa)].map (·.1))).get? p.1 with
    | none => rfl
    | some o => have := of_hideAll _ q; rw [(NC p hp).2.2] at this; cases this
  · exact ⟨hk₁ _ _ (N p hp).1, Nat.ne_of_lt (Heap.lt_size (N p hp).1), hideAll_none _ (List.mem_map_of_mem hp)⟩
end
theorem new_but {h g : Heap} {a D : Addr} (hg : ∀ b o, b ≠ a → h.get? b = some o → g.get? b = some o) (hn : g.get? D = none) (ne : D ≠ a) : h.get? D = none := by
  cases e : h.get? D with
  | none => rfl
  | some o => have := hg D o ne e; rw [hn] at this; cases this
noncomputable def figs (m : Int) : Nat := if m = 4 then 3 else 4
theorem digs3 (t : Tok) : (List.replicate (Int.toNat ((((Builtin.Int.intBits 4 : Nat) : Int) + 1 - 1).fdiv 1)) [Value.int 0 t]).flatten = [.int 0 t, .int 0 t, .int 0 t] := rfl
theorem digs4 (t : Tok) : (List.replicate (Int.toNat ((((Builtin.Int.intBits 8 : Nat) : Int) + 1 - 1).fdiv 1)) [Value.int 0 t]).flatten = [.int 0 t, .int 0 t, .int 0 t, .int 0 t] := rfl
local macro_rules | `(tactic| walk_at "binaryOp Mult ref int") => `(tactic| (k_here; (with_reducible show wpAny _ _ (binaryOp Operator.Mult (Value.ref _) (Value.int _ _)) _ _ _); k_dflt (refine' KMa.mul ?F ?N ?l ?lo ?hi ?z ?e ?_; (case F => k_asm); (case N => k_asm); (case l => is_list); (case lo => decide); (case hi => decide); (case e => (first | exact digs3 _ | exact digs4 _)); (case z => exact Nat.le_of_ble_eq_true rfl); k_whole); intro D' h' F' N' l1; (try k_lt l1)))
set_option maxHeartbeats 8000000 in
theorem digits_c {w : World} {p : Program} {loose : List Str} {mean : ExcName → Option Value} {mg mb : Str → Option Value} {s : Shared} {A₀ : Around} {base h₀ : Heap} {env : Env} {L : Addr} {mm : Str → Option Value} {m : Int} {t1 t2 : Tok} {Q E : Value → Shared → Prop}
    (B : Below A₀ base [] h₀) (hf : env.frame = some L) (hke : env.scope.kind = .function)
    (X : (Mine.hd.heap_39 w.params).In h₀) (T : Top p loose mean mg mb h₀) (C : CodeHd h₀ 20 16) (F : Fr h₀ L s.heap mm) (N : News h₀ L s.heap [(16, tabObj #[])]) (hm : m = 4 ∨ m = 8)
    (h : ∀ l vs n ps h' tk', (∀ b o, b ≠ 16 → s.heap.get? b = some o → h'.get? b = some o) → h'.get? 16 = some (tabObj ps) → h'.get? l = some (W.listOf vs n) → s.heap.get? l = none → vs.size = figs m → Q (.ref l) { s with heap := h', toks := tk' }) :
    wpAny (model PySem.Challenge.rw_hf0004_01.row.prog w) (callerA.deeper env) (call (.ref 21) [.int m t1, .int 1 t2]) Q E s := by
  revert X; k_fill; intro X
  refine' call_cellsBut (A := callerA.deeper env) B F X N T rfl hf hke ?k6 ?k7 ?k8 ?k9 ?kB ?kD ?_ ?c2 ?c3 ?c4
  case k6 => k_is
  case k7 => k_is
  case k8 => simp only [depth_deeper, depth_caller]; decide
  case k9 => exact BindsTo.of_eq rfl
  case kB => exact rfl
  case kD => decide +kernel
  case c2 => exact rfl
  case c3 => exact rfl
  case c4 => exact rfl
  clear X
  intro g L' h₁ tk cells hg F' N' Y' B' st X T' l1
  have C' : CodeHd g 20 16 := CodeHd.keeps C st
  k_cells Y'
  simp only [List.cons_append, List.nil_append] at N'
  clear B C F N T st
  rcases hm with rfl | rfl
  all_goals
    show wpAny _ _ _ _ _ _
    (try k_fold)
    k_with_none
    w_top off
    k_steps
    rename Fr _ _ _ _ => kF
    rename News _ _ _ _ => kN
    show Q _ _
    refine h _ _ _ _ _ _ (fun b o hb e => kF.keep b o (hg b o hb e)) (kN (16, _) (by k_mem)).1 (kN (_, W.listOf _ _) (by k_mem)).1 (new_but hg (kN (_, W.listOf _ _) (by k_mem)).2.2 (by k_ne)) rfl
end Mine
end
section
open PySem PySem.W PyProof.Rows PySem.Calls PyProof.V PySem.Spec
set_option maxRecDepth 100000
namespace Mine
theorem new1 {g h h' : Heap} {L : Addr} {m : Str → Option Value} {q : Addr × Obj} (F : Fr g L h m) (hn : h.get? q.1 = none) (e : h'.get? q.1 = some q.2) : h'.get? q.1 = some q.2 ∧ q.1 ≠ L ∧ g.get? q.1 = none := by
  refine ⟨e, fun hq => ?_, ?_⟩
  · obtain ⟨o, es, ep, e1, _⟩ := F.ns
    rw [hq, e1] at hn; cases hn
  · cases e2 : g.get? q.1 with
    | none => rfl
    | some o => have := F.keep _ _ e2; rw [hn] at this; cases this
theorem fr_but {g h h' : Heap} {L a : Addr} {m : Str → Option Value} (F : Fr g L h m) (hL : a ≠ L) (ha : g.get? a = none) (k : ∀ b o, b ≠ a → h.get? b = some o → h'.get? b = some o) : Fr g L h' m := by
  refine ⟨?_, fun b o e => k b o (fun q => by rw [q, ha] at e; cases e) (F.keep b o e), F.above⟩
  obtain ⟨o, es, ep, e1, e2⟩ := F.ns
  exact ⟨o, es, ep, k _ _ (fun q => hL q.symm) e1, e2⟩
theorem news_but {g h h' : Heap} {L a : Addr} {q : Addr × Obj} (k : ∀ b o, b ≠ a → h.get? b = some o → h'.get? b = some o) (hq : h.get? q.1 = some q.2 ∧ q.1 ≠ L ∧ g.get? q.1 = none) (ne : q.1 ≠ a) : h'.get? q.1 = some q.2 ∧ q.1 ≠ L ∧ g.get? q.1 = none := ⟨k _ _ ne hq.1, hq.2⟩
theorem ne_new {h : Heap} {a b : Addr} {o : Obj} (ha : h.get? a = some o) (hb : h.get? b = none) : b ≠ a := fun q => by rw [q, ha] at hb; cases hb
end Mine
end
section
open PySem PySem.W PyProof.Rows PySem.Calls PyProof.V PySem.Spec
set_option maxRecDepth 100000
namespace Mine
noncomputable def lawFd (w : World) : Option FuncData := match (Mine.hd.heap_39 w.params).lookup 63 with
  | some ⟨_, _, .func fd, _⟩ => some fd
  | _ => none
noncomputable def lawBody (w : World) : List Stmt := match lawFd w with
  | some fd => (match fd.body with | .stmts b => b | _ => [])
  | none => []
noncomputable def lawScope (w : World) : Scope := match lawFd w with
  | some fd => fd.scope
  | none => { kind := .function, names := [], isGenerator := false, isCoroutine := false }
noncomputable def lawAt (w : World) (k : Nat) : Stmt := ((lawBody w).drop k).headD (.Pass ⟨0, 0, 0, 0⟩)
noncomputable abbrev lawEnv (w : World) (L fa : Addr) (cd : Value) : Env := envOfC (Str.ofString "law") (lawScope w) L fa cd
theorem fr_name {g h : Heap} {L : Addr} {m : Str → Option Value} {a : Str} {v : Option Value} (F : Fr g L h m) (e : m a = v) : Fr g L h (fun y => if y = a then v else m y) := by
  have : (fun y => if y = a then v else m y) = m := by
    funext y
    by_cases h1 : y = a
    · rw [if_pos h1, h1, e]
    · rw [if_neg h1]
  rw [this]; exact F
end Mine
end
section
open PySem PySem.W PyProof.Rows PySem.Calls PyProof.V PySem.Spec
set_option maxRecDepth 100000
namespace Mine
theorem m48le {M : Int} (h : M = 4 ∨ M = 8) : M ≤ 8 := by omega
theorem m48ge {M : Int} (h : M = 4 ∨ M = 8) : 4 ≤ M := by omega
theorem r48le {n : Nat} {M : Int} (h : M = 4 ∨ M = 8) (e : (n : Int) = M) : n ≤ 8 := by omega
theorem r48ge {n : Nat} {M : Int} (h : M = 4 ∨ M = 8) (e : (n : Int) = M) : 4 ≤ n := by omega
theorem in0to3 {x : Int} (h1 : 0 ≤ x) (h2 : x < 4) : x = 0 ∨ x = 1 ∨ x = 2 ∨ x = 3 := by omega
theorem in0to7 {x : Int} (h1 : 0 ≤ x) (h2 : x < 8) : x = 0 ∨ x = 1 ∨ x = 2 ∨ x = 3 ∨ x = 4 ∨ x = 5 ∨ x = 6 ∨ x = 7 := by omega
theorem in1to4 {x : Int} (h1 : 1 ≤ x) (h2 : x < 5) : x = 1 ∨ x = 2 ∨ x = 3 ∨ x = 4 := by omega
theorem in1to7 {x : Int} (h1 : 1 ≤ x) (h2 : x < 8) : x = 1 ∨ x = 2 ∨ x = 3 ∨ x = 4 ∨ x = 5 ∨ x = 6 ∨ x = 7 := by omega
theorem in1to8 {x : Int} (h1 : 1 ≤ x) (h2 : x < 9) : x = 1 ∨ x = 2 ∨ x = 3 ∨ x = 4 ∨ x = 5 ∨ x = 6 ∨ x = 7 ∨ x = 8 := by omega
theorem in1to15 {x : Int} (h1 : 1 ≤ x) (h2 : x < 16) : x = 1 ∨ x = 2 ∨ x = 3 ∨ x = 4 ∨ x = 5 ∨ x = 6 ∨ x = 7 ∨ x = 8 ∨ x = 9 ∨ x = 10 ∨ x = 11 ∨ x = 12 ∨ x = 13 ∨ x = 14 ∨ x = 15 := by omega
/-- a list of pairs, its tuples in a part of the ledger -/
inductive PL (P : List (Addr × Obj)) : List Value → List (Int × Int) → Prop
  | nil : PL P [] []
  | cons {a : Addr} {f l : Int} {t u : Tok} {n : Nat} {vs : List Value} {ds : List (Int × Int)} : (a, tup2 f t l u n) ∈ P → PL P vs ds → PL P (.ref a :: vs) ((f, l) :: ds)
theorem PL.mono {P P' : List (Addr × Obj)} (k : ∀ q ∈ P, q ∈ P') : ∀ {vs : List Value} {ds : List (Int × Int)}, PL P vs ds → PL P' vs ds
  | _, _, .nil => .nil
  | _, _, .cons e r => .cons (k _ e) (r.mono k)
theorem PL.pairs {P : List (Addr × Obj)} {h : Heap} (k : ∀ q ∈ P, h.get? q.1 = some q.2) : ∀ {vs : List Value} {ds : List (Int × Int)}, PL P vs ds → PairsAt h vs ds
  | _, _, .nil => .nil
  | _, _, .cons e r => .cons (k _ e) (r.pairs k)
theorem PL.ins {P : List (Addr × Obj)} {b : Addr} {f l : Int} {t u : Tok} {n : Nat} (e : (b, tup2 f t l u n) ∈ P) :
    ∀ {vs : List Value} {ds : List (Int × Int)}, PL P vs ds → ∀ (k : Nat), PL P (vs.take k ++ .ref b :: vs.drop k) (ds.take k ++ (f, l) :: ds.drop k)
  | _, _, .nil, k => by simpa using PL.cons e .nil
  | _, _, .cons e' r, 0 => .cons e (.cons e' r)
  | _, _, .cons e' r, k + 1 => .cons e' (r.ins e k)
theorem PL.snoc {P : List (Addr × Obj)} {b : Addr} {f l : Int} {t u : Tok} {n : Nat} (e : (b, tup2 f t l u n) ∈ P) :
    ∀ {vs : List Value} {ds : List (Int × Int)}, PL P vs ds → PL P (vs ++ [.ref b]) (ds ++ [(f, l)])
  | _, _, .nil => .cons e .nil
  | _, _, .cons e' r => .cons e' (r.snoc e)
theorem PL.length {P : List (Addr × Obj)} : ∀ {vs : List Value} {ds : List (Int × Int)}, PL P vs ds → vs.length = ds.length
  | _, _, .nil => rfl
  | _, _, .cons _ r => by rw [List.length_cons, List.length_cons, r.length]
theorem PL.get {P : List (Addr × Obj)} : ∀ {vs : List Value} {ds : List (Int × Int)}, PL P vs ds → ∀ (k : Nat), k < ds.length →
    ∃ a t u n, vs[k]? = some (.ref a) ∧ (a, tup2 (ds.getD k (0, 0)).1 t (ds.getD k (0, 0)).2 u n) ∈ P
  | _, _, .nil, k, hk => absurd hk (Nat.not_lt_zero _)
  | _, _, .cons e r, 0, _ => ⟨_, _, _, _, rfl, e⟩
  | _, _, .cons e r, k + 1, hk => by
    obtain ⟨a, t, u, n, h1, h2⟩ := r.get k (Nat.lt_of_succ_lt_succ hk)
    exact ⟨a, t, u, n, by simpa using h1, by simpa using h2⟩
/-- the stretch of a number -/
noncomputable def stp (M j : Int) : Int × Int := (j * goL 4 j M - M, j * goL 4 j M - M + goL 4 j M)
noncomputable def insL (ds : List (Int × Int)) (p : Int × Int) : List (Int × Int) := ds.take (bisL ds p).toNat ++ p :: ds.drop (bisL ds p).toNat
noncomputable def ordL (M : Int) : Nat → List (Int × Int)
  | 0 => []
  | i + 1 => insL (ordL M i) (stp M (i + 1))
theorem insL_len (ds : List (Int × Int)) (p : Int × Int) : (insL ds p).length = ds.length + 1 := by
  unfold insL
  have := bisL_bound ds p
  simp only [List.length_append, List.length_take, List.length_cons, List.length_drop]
  omega
theorem ordL_len (M : Int) : ∀ i, (ordL M i).length = i
  | 0 => rfl
  | i + 1 => by show (insL _ _).length = _; rw [insL_len, ordL_len M i]
theorem stp_facts {M j : Int} (hM : M = 4 ∨ M = 8) (h1 : 1 ≤ j) (h2 : j < 2 * M) : 0 ≤ (stp M j).1 ∧ (stp M j).1 < (stp M j).2 ∧ (stp M j).2 ≤ M ∧ (stp M j).1.fmod ((stp M j).2 - (stp M j).1) = 0 := by
  rcases hM with rfl | rfl
  · have : j = 1 ∨ j = 2 ∨ j = 3 ∨ j = 4 ∨ j = 5 ∨ j = 6 ∨ j = 7 := in1to7 (by omega) (by omega)
    rcases this with rfl | rfl | rfl | rfl | rfl | rfl | rfl <;> decide
  · have : j = 1 ∨ j = 2 ∨ j = 3 ∨ j = 4 ∨ j = 5 ∨ j = 6 ∨ j = 7 ∨ j = 8 ∨ j = 9 ∨ j = 10 ∨ j = 11 ∨ j = 12 ∨ j = 13 ∨ j = 14 ∨ j = 15 := in1to15 (by omega) (by omega)
    rcases this with rfl | rfl | rfl | rfl | rfl | rfl | rfl | rfl | rfl | rfl | rfl | rfl | rfl | rfl | rfl <;> decide
end Mine
end
section
open PySem PySem.W PyProof.Rows PySem.Calls PyProof.V PySem.Spec PySem.SeqAt
set_option maxRecDepth 100000
namespace Mine
section
variable {prog : Program} {w : World} {A : Around} {E : Value → Shared → Prop} {s : Shared}
theorem cmp_ne2 {a b : Addr} {f l f' l' : Int} {t u t' u' : Tok} {n n' : Nat} {Q : Value → Shared → Prop} (hu : A.units < cLine) (ha : s.heap.get? a = some (tup2 f t l u n)) (hb : s.heap.get? b = some (tup2 f' t' l' u' n'))
    (h : Q (.bool (!(decide (f = f') && decide (l = l')))) s) : wpAny (model prog w) A (compareOp .NotEq (.ref a) (.ref b)) Q E s := by
  refine cmp_ofNotEq ?_
  refine RcNeAt.tuples (e := fun j => if j = 0 then f == f' else l == l') ⟨_, ha, rfl, n, rfl⟩ ⟨_, hb, rfl, n', rfl⟩ hu ?_ prog w E Q ?_
  · intro j h1 h2
    have : j = 0 ∨ j = 1 := by simp only [List.size_toArray, List.length_cons, List.length_nil] at h1; omega
    rcases this with rfl | rfl
    · exact EqAt.int_int _ _ _ _
    · exact EqAt.int_int _ _ _ _
  · have e : (!((List.range (min 2 2)).all (fun j => if j = 0 then f == f' else l == l') && (2 : Nat) == 2)) = (!(decide (f = f') && decide (l = l'))) := by
      rw [show List.range (min 2 2) = [0, 1] from rfl]
      simp only [List.all_cons, List.all_nil, Bool.and_true, if_true, beq_self_eq_true]
      rw [if_neg (by decide)]
      by_cases h1 : f = f' <;> by_cases h2 : l = l' <;> simp [h1, h2]
    show Q (.bool (!((List.range (min 2 2)).all (fun j => if j = 0 then f == f' else l == l') && (2 : Nat) == 2))) s
    rw [e]; exact h
theorem cmp_ne2s {a b : Addr} {f l f' l' : Int} {t u t' u' : Tok} {n n' : Nat} {Q : Value → Shared → Prop} (hu : A.units < cLine) (ha : s.heap.get? a = some (tup2 f t l u n)) (hb : s.heap.get? b = some (tup2 f' t' l' u' n')) (e1 : f = f') (e2 : l = l')
    (h : Q (.bool false) s) : wpAny (model prog w) A (compareOp .NotEq (.ref a) (.ref b)) Q E s := by
  refine cmp_ne2 hu ha hb ?_
  rw [decide_eq_true e1, decide_eq_true e2]; exact h
end
noncomputable def slN (rs : List Int) : Nat → Nat → List Int
  | 0, _ => []
  | f + 1, j => if rs.length ≤ j then [rs.getD (j - rs.length) 0] else slN rs f (2 * j) ++ slN rs f (2 * j + 1)
theorem kv_sum (rs : List Int) : ∀ f j, (kv rs f j).1 = (slN rs f j).sum
  | 0, _ => rfl
  | f + 1, j => by
    show (if rs.length ≤ j then _ else ((kv rs f (2 * j)).1 + (kv rs f (2 * j + 1)).1, max (kv rs f (2 * j)).2 (kv rs f (2 * j + 1)).2) : Int × Int).1 = (if rs.length ≤ j then _ else _ : List Int).sum
    by_cases hc : rs.length ≤ j
    · rw [if_pos hc, if_pos hc]; simp
    · rw [if_neg hc, if_neg hc, List.sum_append, ← kv_sum rs f, ← kv_sum rs f]
theorem kv_max (rs : List Int) : ∀ f j, rs.length ≤ 2 ^ f * j → (kv rs (f + 1) j).2 ∈ slN rs (f + 1) j ∧ ∀ a ∈ slN rs (f + 1) j, a ≤ (kv rs (f + 1) j).2
  | 0, j, h => by
    have h' : rs.length ≤ j := by simpa using h
    show (if rs.length ≤ j then _ else _ : Int × Int).2 ∈ (if rs.length ≤ j then _ else _ : List Int) ∧ ∀ a ∈ (if rs.length ≤ j then _ else _ : List Int), a ≤ (if rs.length ≤ j then _ else _ : Int × Int).2
    rw [if_pos h', if_pos h']
    simp
  | f + 1, j, h => by
    show (if rs.length ≤ j then _ else ((kv rs (f + 1) (2 * j)).1 + (kv rs (f + 1) (2 * j + 1)).1, max (kv rs (f + 1) (2 * j)).2 (kv rs (f + 1) (2 * j + 1)).2) : Int × Int).2 ∈ (if rs.length ≤ j then _ else slN rs (f + 1) (2 * j) ++ slN rs (f + 1) (2 * j + 1) : List Int) ∧ ∀ a ∈ (if rs.length ≤ j then _ else slN rs (f + 1) (2 * j) ++ slN rs (f + 1) (2 * j + 1) : List Int), a ≤ (if rs.length ≤ j then _ else _ : Int × Int).2
    by_cases hc : rs.length ≤ j
    · rw [if_pos hc, if_pos hc]; simp
    · rw [if_neg hc, if_neg hc]
      have e : 2 ^ (f + 1) * j = 2 ^ f * (2 * j) := by rw [Nat.pow_succ]; rw [Nat.mul_assoc]
      have h1 : rs.length ≤ 2 ^ f * (2 * j) := e ▸ h
      have h2 : rs.length ≤ 2 ^ f * (2 * j + 1) := Nat.le_trans h1 (Nat.mul_le_mul_left _ (Nat.le_succ _))
      obtain ⟨a1, a2⟩ := kv_max rs f (2 * j) h1
      obtain ⟨b1, b2⟩ := kv_max rs f (2 * j + 1) h2
      simp only
      refine ⟨?_, fun a ha => ?_⟩
      · rw [Int.max_def]
        split
        · exact List.mem_append_right _ b1
        · exact List.mem_append_left _ a1
      · rcases List.mem_append.mp ha with q | q
        · exact Int.le_trans (a2 a q) (Int.le_max_left ..)
        · exact Int.le_trans (b2 a q) (Int.le_max_right ..)
theorem max_unique {l : List Int} {x y : Int} (hx : x ∈ l) (hx' : ∀ a ∈ l, a ≤ x) (hy : y ∈ l) (hy' : ∀ a ∈ l, a ≤ y) : x = y := Int.le_antisymm (hy' x hx) (hx' y hy)
theorem len4 {rs : List Int} (h : rs.length = 4) : ∃ a b c d, rs = [a, b, c, d] := by
  match rs, h with
  | [a, b, c, d], _ => exact ⟨a, b, c, d, rfl⟩
theorem len8 {rs : List Int} (h : rs.length = 8) : ∃ a b c d e f g i, rs = [a, b, c, d, e, f, g, i] := by
  match rs, h with
  | [a, b, c, d, e, f, g, i], _ => exact ⟨a, b, c, d, e, f, g, i, rfl⟩
noncomputable def slcI (rs : List Int) (x y : Int) : List Int := (rs.drop x.toNat).take (min y.toNat rs.length - x.toNat)
theorem slN_slc {rs : List Int} {M j : Int} (hM : M = 4 ∨ M = 8) (hl : (rs.length : Int) = M) (h1 : 1 ≤ j) (h2 : j < 2 * M) : slN rs 4 j.toNat = slcI rs (stp M j).1 (stp M j).2 := by
  rcases hM with rfl | rfl
  · obtain ⟨a, b, c, d, rfl⟩ := len4 (rs := rs) (by omega)
    have : j = 1 ∨ j = 2 ∨ j = 3 ∨ j = 4 ∨ j = 5 ∨ j = 6 ∨ j = 7 := in1to7 (by omega) (by omega)
    rcases this with rfl | rfl | rfl | rfl | rfl | rfl | rfl <;> rfl
  · obtain ⟨a, b, c, d, e, f, g, i, rfl⟩ := len8 (rs := rs) (by omega)
    have : j = 1 ∨ j = 2 ∨ j = 3 ∨ j = 4 ∨ j = 5 ∨ j = 6 ∨ j = 7 ∨ j = 8 ∨ j = 9 ∨ j = 10 ∨ j = 11 ∨ j = 12 ∨ j = 13 ∨ j = 14 ∨ j = 15 := in1to15 (by omega) (by omega)
    rcases this with rfl | rfl | rfl | rfl | rfl | rfl | rfl | rfl | rfl | rfl | rfl | rfl | rfl | rfl | rfl <;> rfl
theorem kvv_law {rs : List Int} {M j : Int} (hM : M = 4 ∨ M = 8) (hl : (rs.length : Int) = M) (h1 : 1 ≤ j) (h2 : j < 2 * M) :
    (kvv rs j.toNat).1 = (slcI rs (stp M j).1 (stp M j).2).sum ∧ (kvv rs j.toNat).2 ∈ slcI rs (stp M j).1 (stp M j).2 ∧ ∀ a ∈ slcI rs (stp M j).1 (stp M j).2, a ≤ (kvv rs j.toNat).2 := by
  rw [← slN_slc hM hl h1 h2]
  exact ⟨kv_sum rs 4 j.toNat, kv_max rs 3 j.toNat (by omega)⟩
end Mine
end
section
open PySem PySem.W PyProof.Rows PySem.Calls PyProof.V PySem.Spec
set_option maxRecDepth 100000
namespace Mine
theorem miss_keys : typeLookup (.type "list") (Str.ofString "keys") = pure none := am_miss_of_fast (by decide +kernel)
theorem q_sub_attr : isSubtype (.type "AttributeError") (.type "AttributeError") = pure true := by rw [isSubtype_type]; kernel_rfl
theorem gak_list {prog : Program} {w : World} {A : Around} {E : Value → Shared → Prop} {s : Shared} {a : Addr} {o : Obj} {xs : Array Value} {k : Nat} {Q : Option Value → Shared → Prop}
    (hx : s.heap.get? a = some o) (hc : o.cls = .type "list") (hdat : o.data = .seq xs k) (hd : o.dict = none) (hA : A.handled = none)
    (h : ∀ h' tk, (∀ b o, s.heap.get? b = some o → h'.get? b = some o) → Q none { s with heap := h', toks := tk }) :
    wpAny (model prog w) A (getAttr? (.ref a) "keys") Q E s := by
  obtain ⟨c, dct, dat, sl⟩ := o
  simp only at hc hdat hd
  subst hc hdat hd
  obtain ⟨hp, g, d, tk, os⟩ := s
  have hT : ∀ tk', (⟨hp, g, d, tk', os⟩ : Shared).TypeIs (.ref a) "list" := fun _ => ⟨_, hx, rfl⟩
  have f1 := sub_AttributeError
  have f3 := F.slot_list_getattribute.lookup
  have f4 := F.slot_list_getattribute.bind (.ref a)
  have f5 := am_list_getattr_none
  have hmiss := miss_keys
  have hname : (["__module__", "__name__", "__qualname__", "__doc__", "__annotations__"] : List Str).contains (Str.ofString "keys") = false := by decide
  have hsz : (Str.ofString "keys").length + 100 ≤ sizeLine := by decide
  unfold getAttr? getAttrBy? getAttrBy
  repeat (any_goals (first | assumption | exact hT _ | ((with_reducible show wpAny _ _ (call (Value.builtin "list.__getattribute__") _ _) _ _ _); refine call_meets F.slot_list_getattribute (hT _) am_entry_list_getattribute (F.args_list_getattribute_2 _ _) (meets_getattribute_miss_list a xs k sl (Str.ofString "keys") _ hmiss hname hsz) ⟨hx, hA, fun h' tk' e hx' => ?_⟩) | wp_step))
  obtain ⟨t', u', he⟩ := hx'.there
  show wpAny _ _ (getattributeRaised _ _ _ _ _ _ _) _ _ _
  unfold getattributeRaised
  repeat (any_goals (first | assumption | wp_step))
  exact h _ _ hx'.keeps

theorem entry_dul : entryFor table "dict.update.loop" = some Builtin.«dict.update.loop» := entryFor_of_tree (by kernel_rfl)
theorem plain_dul : plainId "dict.update.loop" = true := by decide +kernel
/-- a pair (tuple of ints, something) at an address -/
def PairAt (prog : Program) (w : World) (h : Heap) (v : Value) (κ : List Int) : Prop :=
  ∃ b a x m, v = .ref b ∧ h.get? b = some { cls := .type "tuple", data := .seq #[.ref a, x] m } ∧ IsTupleKey (intKind prog w) h κ a
section
variable {prog : Program} {w : World} {A : Around} {s : Shared}
theorem pairItems_at {E : Value → Shared → Prop} {b : Addr} {x y : Value} {m : Nat} {Q : List Value → Shared → Prop} (hb : s.heap.get? b = some { cls := .type "tuple", data := .seq #[x, y] m }) (h : Q [x, y] s) :
    wpAny (model prog w) A (Builtin.Dict.pairItems (.ref b)) Q E s := by
  unfold Builtin.Dict.pairItems
  refine wpAny_bind (wpAny_typeOf (T := "tuple") ⟨_, hb, rfl⟩ ?_)
  rw [if_pos (by decide)]
  refine wpAny_bind (wpAny_seqItems hb rfl ?_)
  exact wpAny_pure h
theorem tupleKey_keeps {h h' : Heap} {κ : List Int} {a : Addr} (k : ∀ o, h.get? a = some o → h'.get? a = some o) (x : IsTupleKey (intKind prog w) h κ a) : IsTupleKey (intKind prog w) h' κ a := by
  obtain ⟨o, items, n, ho, r⟩ := x
  exact ⟨o, items, n, k o ho, r⟩
theorem tupleKey_lt {h : Heap} {κ : List Int} {a : Addr} (x : IsTupleKey (intKind prog w) h κ a) : a < h.objs.size := by
  obtain ⟨o, items, n, ho, r⟩ := x
  exact Heap.lt_size ho
def DictNow (prog : Program) (w : World) (h₀ h : Heap) (d : Addr) (κ : Nat → List Int) (i : Nat) : Prop :=
  ∃ xs, h.DictOfH (tupleKind (intKind prog w)) d xs ∧ xs.map (·.1) = (List.range i).map κ ∧ ∀ x ∈ xs, IsTupleKey (intKind prog w) h₀ x.1 x.2.1
theorem DictNow.keeps {h₀ h h' : Heap} {d : Addr} {κ : Nat → List Int} {i : Nat} (x : DictNow prog w h₀ h d κ i) (hd : ∀ o, h.get? d = some o → h'.get? d = some o) (k : ∀ b o, b < h₀.objs.size → h₀.get? b = some o → h'.get? b = some o) : DictNow prog w h₀ h' d κ i := by
  obtain ⟨xs, ⟨o, es, ep, ho, a1, a2, a3, a4, a5⟩, h2, h3⟩ := x
  exact ⟨xs, ⟨o, es, ep, hd _ ho, a1, a2, a3, fun y hy => tupleKey_keeps (fun o => k _ o (tupleKey_lt (h3 y hy))) (h3 y hy), a5⟩, h2, h3⟩
theorem dict_loop {R : Result → Shared → Prop} {I d : Addr} {fp wr : List Addr} {G : Array GenState → Array GenState → Prop} {n : Nat} {P : Nat → Value → Prop} {St : Nat → Shared → Prop} {h₀ : Heap} {κ : Nat → List Int}
    (W : WalksS prog w A.in1 I fp wr G n P St) (hd : d ∉ fp) (hu : A.units + 8 < cLine) (hwr : ∀ b ∈ wr, h₀.objs.size ≤ b) (hd₀ : h₀.objs.size ≤ d)
    (hP : ∀ i v, P i v → PairAt prog w h₀ v (κ i)) (hinj : ∀ i j, i < n → j < n → κ i = κ j → i = j) (hn : n ≤ 1000) :
    ∀ (k i : Nat) (s : Shared), n - i = k → i ≤ n → St i s → (∀ b o, b < h₀.objs.size → h₀.get? b = some o → s.heap.get? b = some o) → DictNow prog w h₀ s.heap d κ i →
      (∀ s', Moved (d :: wr) G s s' → DictNow prog w h₀ s'.heap d κ n → R (.ok (.ret .none)) s') →
      codeAny (model prog w) A (.builtin "dict.update.loop" ⟨[.ref d, .ref I, rawInt i, .none], []⟩) R s := by
  have hdw : d ∉ wr := fun h => hd (W.sub _ h)
  have hsub : ∀ b ∈ wr, b ∈ d :: wr := fun b hb => List.mem_cons_of_mem _ hb
  intro k
  induction k with
  | zero =>
    rintro i s hk hi hst h0 hx hR
    have hin : i = n := by omega
    subst hin
    refine codeAny_builtin entry_dul ?_
    rw [Around.under_plainId plain_dul _]
    show wpAny _ A.in1 (pyNext (.ref I) >>= _) _ _ s
    refine wpAny_bind (W.done s _ _ hst fun s' hm => ?_)
    show wpAny _ A.in1 (Builtin.Dict.addKeywords d [] >>= _) _ _ s'
    refine wpAny_bind (wpAny_pure ?_)
    exact wpAny_pure (hR s' (hm.mono hsub) (hx.keeps (fun o => hm.heap d o hdw) fun c o hc e => hm.heap c o (fun q => absurd (hwr _ q) (Nat.not_le_of_lt hc)) (h0 c o hc e)))
  | succ k ih =>
    rintro i s hk hi hst h0 hx hR
    have hlt : i < n := by omega
    refine codeAny_builtin entry_dul ?_
    rw [Around.under_plainId plain_dul _]
    show wpAny _ A.in1 (pyNext (.ref I) >>= _) _ _ s
    refine wpAny_bind (W.item i s _ _ hlt hst fun v s' hv hst' hm => ?_)
    obtain ⟨b, a, x, m, rfl, hb, ha⟩ := hP i v hv
    have k1 : ∀ c o, c < h₀.objs.size → h₀.get? c = some o → s'.heap.get? c = some o := fun c o hc e => hm.heap c o (fun q => absurd (hwr _ q) (Nat.not_le_of_lt hc)) (h0 c o hc e)
    show wpAny _ A.in1 (holding _ _ >>= _) _ _ s'
    refine wpAny_bind (wpAny_holding ?_)
    refine wpAny_bind (wpAny_tryCatch (pairItems_at (k1 _ _ (Heap.lt_size hb) hb) ?_))
    dsimp only
    refine wpAny_holding ?_
    have ha' : (tupleKind (intKind prog w)).is s'.heap (κ i) a := tupleKey_keeps (fun o => k1 a o (tupleKey_lt ha)) ha
    obtain ⟨xs, hx', hxs, hxk⟩ := hx.keeps (fun o => hm.heap d o hdw) k1
    have hlen : xs.length = i := by have := congrArg List.length hxs; simpa using this
    refine wpAny_dictSet_heap (knd := tupleKind (intKind prog w)) (by show A.units + 1 < cLine; omega) ha' hx' (fun h' hd' hs' => ?_) (by rw [hlen]; show i ≤ 2 ^ 24; omega)
    have hnew : atKey xs (κ i) = none := by
      refine atKey_none_of_get fun j p hj => ?_
      have hj' : (xs.map (·.1))[j]? = some (κ i) := by rw [List.getElem?_map, hj]; rfl
      rw [hxs, List.getElem?_map] at hj'
      have hji : j < i := by
        rcases Nat.lt_or_ge j i with q | q
        · exact q
        · rw [List.getElem?_eq_none (by simpa using q)] at hj'; cases hj'
      rw [List.getElem?_range hji] at hj'
      have := hinj j i (by omega) hlt (Option.some.inj hj')
      omega
    rw [storedH_new hnew] at hd'
    have hN : DictNow prog w h₀ h' d κ (i + 1) := by
      refine ⟨_, hd', by rw [List.map_append, hxs, List.range_succ, List.map_append]; rfl, fun y hy => ?_⟩
      rcases List.mem_append.mp hy with q | q
      · exact hxk y q
      · rw [List.mem_singleton.mp q]; exact ha
    refine wpAny_pure ⟨plainId_quiet plain_dul _, ih (i + 1) _ (by omega) hlt (W.frame _ s' _ _ hst' (Nat.le_add_right _ _) fun c hc o e => ?_) (fun c o hc e => ?_) hN fun s'' hm'' hS'' => ?_⟩
    · rw [hs'.2 c (fun q => hd (by rw [← q]; exact hc))]; exact e
    · show h'.get? c = some o
      rw [hs'.2 c (fun q => absurd hd₀ (Nat.not_le_of_lt (q ▸ hc)))]; exact k1 c o hc e
    · refine hR s'' (Moved.trans W.gtrans ((hm.mono hsub).then_heap (Nat.le_add_right _ _) fun c o hc e => ?_) hm'') hS''
      rw [hs'.2 c (fun q => hc (by rw [q]; exact List.mem_cons_self))]; exact e
end
end Mine
end
section
open PySem PySem.W PyProof.Rows PySem.Calls PyProof.V PySem.Spec
set_option maxRecDepth 100000
namespace Mine
section
variable {prog : Program} {w : World} {A : Around} {E : Value → Shared → Prop} {s : Shared}
theorem call_dict_pairs {l : Addr} {items : Array Value} {κ : Nat → List Int} {nl : Nat} {Q : Value → Shared → Prop}
    (hh : A.handled = none) (hu : A.units + 16 < cLine) (hl : s.heap.get? l = some (W.listOf items nl)) (hP : ∀ i v, items[i]? = some v → PairAt prog w s.heap v (κ i)) (hinj : ∀ i j, i < items.size → j < items.size → κ i = κ j → i = j) (hn : items.size ≤ 1000)
    (h : ∀ D (h' : Heap) (tk : Nat), (∃ xs, h'.DictOfH (tupleKind (intKind prog w)) D xs ∧ xs.length = items.size) → (∀ b o, s.heap.get? b = some o → h'.get? b = some o) → s.heap.objs.size ≤ D → Q (.ref D) { s with heap := h', toks := tk }) :
    wpAny (model prog w) A (call (.type "dict") [.ref l]) Q E s := by
  refine callType_codes (Q₁ := fun obj s₁ => obj = .ref s.heap.objs.size ∧ s₁ = { s with heap := s.heap.push { cls := .type "dict", data := .dict #[] } }) F.kt_called_dict (F.kt_typeCall_dict_1 _) F.entry_dict_init (kt_code_dict_new _ ⟨rfl, rfl⟩) ?_
  rintro obj s₁ ⟨rfl, rfl⟩
  have hnew : (s.heap.push { cls := .type "dict", data := .dict #[] }).DictOfH (tupleKind (intKind prog w)) s.heap.objs.size [] := Heap.DictOfH.new s.heap
  have hl' : (s.heap.push { cls := .type "dict", data := .dict #[] }).get? l = some (W.listOf items nl) := Heap.get?_push_of_some _ hl
  refine ⟨hnew.typeIs, F.args_dict_init_2 _ _, ?_⟩
  unfold Builtin.«dict.__init__»
  refine wpAny_bind ?_
  unfold Builtin.Dict.selfAndRest
  refine wpAny_bind (wpAny_notOrdered_dict hnew.typeIs ?_)
  show wpAny _ _ (pure (s.heap.objs.size, [Value.ref l])) _ _ _
  refine wpAny_pure ?_
  show wpAny _ _ (Builtin.Dict.updateFrom "dict.__init__" s.heap.objs.size (.ref l) [] .none) _ _ _
  unfold Builtin.Dict.updateFrom
  refine wpAny_bind (wpAny_typeOf (T := "list") ⟨_, hl', rfl⟩ ?_)
  rw [if_pos (by decide)]
  refine wpAny_bind (gak_list hl' rfl rfl rfl hh fun h₁ tk₁ hk₁ => ?_)
  rw [if_pos (by decide)]
  refine wpAny_bind (wpAny_rule ?_)
  have hl₁ : h₁.IsList l items := ⟨_, hk₁ _ _ hl', rfl, nl, rfl⟩
  refine wpAny_bind (wpAny_pyIter_list (s := { s with heap := h₁, toks := tk₁ }) hl₁ ?_)
  have hd1 : s.heap.objs.size < h₁.objs.size := by
    have e : (s.heap.push { cls := .type "dict", data := .dict #[] }).get? s.heap.objs.size = some { cls := .type "dict", data := .dict #[] } := Heap.get?_push_size _ rfl
    exact Heap.lt_size (hk₁ _ _ e)
  have hl1 : l < s.heap.objs.size := Heap.lt_size hl
  have k0 : ∀ b o, s.heap.get? b = some o → h₁.get? b = some o := fun b o e => hk₁ _ _ (Heap.get?_push_of_some _ e)
  refine wpAny_pure ⟨plainId_quiet plain_dul _, ?_⟩
  refine dict_loop (A := A.in1) (h₀ := s.heap) (κ := κ) ((Walks.list (A := A.in1.in1) (by simp [hh]) h₁.objs.size l (Nat.ne_of_lt (Nat.lt_trans hl1 hd1)) items).toS) (d := s.heap.objs.size) ?_ ?_ ?_ (Nat.le_refl _) hP hinj hn (items.size - 0) 0 _ rfl (Nat.zero_le _) ?_ ?_ ?_ ?_
  · simp only [List.mem_cons, List.not_mem_nil, or_false, not_or]
    exact ⟨Nat.ne_of_lt hd1, Nat.ne_of_gt hl1⟩
  · show A.units + 1 + 8 < cLine; omega
  · intro b hb
    rw [List.mem_singleton.mp hb]; exact Nat.le_of_lt hd1
  · exact ⟨⟨_, Heap.get?_push_size _ rfl, rfl, rfl⟩, hl₁.push _⟩
  · intro b o hb e
    exact Heap.get?_push_of_some _ (k0 b o e)
  · exact ⟨[], ⟨_, #[], 0, Heap.get?_push_of_some _ (hk₁ _ _ (Heap.get?_push_size _ rfl)), ⟨rfl, rfl, rfl⟩, rfl, rfl, fun _ hx => by simp at hx, List.nodup_nil⟩, rfl, fun _ hx => by simp at hx⟩
  · intro s' hm hS
    obtain ⟨h', g', d', tk', os'⟩ := s'
    have eg : g' = s.gens := hm.gens
    have ed : d' = s.drawn := hm.drawn
    have eo : os' = s.os := hm.os
    subst eg; subst ed; subst eo
    obtain ⟨xs, h1, h2, h3⟩ := hS
    refine ⟨rfl, h _ h' tk' ⟨xs, h1, by have := congrArg List.length h2; simpa using this⟩ (fun b o e => ?_) (Nat.le_refl _)⟩
    have hb : b < s.heap.objs.size := Heap.lt_size e
    refine hm.heap b o ?_ (Heap.get?_push_of_some _ (k0 b o e))
    simp only [List.mem_cons, List.not_mem_nil, or_false, not_or]
    exact ⟨Nat.ne_of_lt hb, Nat.ne_of_lt (Nat.lt_trans hb hd1)⟩
end
end Mine
end
section
open PySem PySem.W PyProof.Rows PySem.Calls PyProof.V PySem.Spec PySem.SeqAt
set_option maxRecDepth 100000
namespace Mine
noncomputable def kasRun {α : Type} (f : Nat → Nat → Bool) (n : Nat) : KasT α → Option α
  | .ret a => some a
  | .ask i j k => if i < n ∧ j < n then kasRun f n (k (f i j)) else none
theorem kas_plain {α : Type} {cmp : Nat → Nat → (Bool → Shared → Prop) → Shared → Prop} {f : Nat → Nat → Bool} {n : Nat} {s : Shared} (hc : ∀ i j (C : Bool → Shared → Prop), i < n → j < n → C (f i j) s → cmp i j C s) {Q : α → Shared → Prop} {a : α} (hq : Q a s) :
    ∀ t : KasT α, kasRun f n t = some a → t.kasWp cmp Q s
  | .ret b, h => by
    have e : b = a := Option.some.inj h
    subst e; exact hq
  | .ask i j k, h => by
    have h' : (if i < n ∧ j < n then kasRun f n (k (f i j)) else none) = some a := h
    by_cases hij : i < n ∧ j < n
    · rw [if_pos hij] at h'
      exact hc i j _ hij.1 hij.2 (kas_plain hc hq (k (f i j)) h')
    · rw [if_neg hij] at h'; cases h'
theorem sorted4 : kasRun (fun i j => ltp ((ordL 4 7).getD i (0, 0)) ((ordL 4 7).getD j (0, 0))) 7 (kas_sort 7) = some (List.toArray (List.range 7)) := by decide +kernel
theorem sorted8 : kasRun (fun i j => ltp ((ordL 8 15).getD i (0, 0)) ((ordL 8 15).getD j (0, 0))) 15 (kas_sort 15) = some (List.toArray (List.range 15)) := by decide +kernel
/-- the pairs (tuple, 1) of a list's items -/
abbrev prO (a : Addr) (t : Tok) (n : Nat) : Obj := { cls := .type "tuple", data := .seq #[.ref a, .int 1 t] n }
def PR (P : List (Addr × Obj)) (ys vs : List Value) (i : Nat) : Prop :=
  ys.length = i ∧ ∀ j, j < i → ∃ b a t n, ys[j]? = some (.ref b) ∧ vs[j]? = some (.ref a) ∧ (b, prO a t n) ∈ P
theorem PR.mono {P P' : List (Addr × Obj)} {ys vs : List Value} {i : Nat} (k : PR P ys vs i) (h : ∀ q ∈ P, q ∈ P') : PR P' ys vs i :=
  ⟨k.1, fun j hj => let ⟨b, a, t, n, e1, e2, m⟩ := k.2 j hj; ⟨b, a, t, n, e1, e2, h _ m⟩⟩
theorem PR.snoc {P P' : List (Addr × Obj)} {ys vs : List Value} {i : Nat} {a b : Addr} {t : Tok} {n : Nat} (k : PR P ys vs i) (h : ∀ q ∈ P, q ∈ P') (hv : vs[i]? = some (.ref a)) (hm : (b, prO a t n) ∈ P') : PR P' (ys ++ [.ref b]) vs (i + 1) := by
  refine ⟨by rw [List.length_append, k.1]; rfl, fun j hj => ?_⟩
  by_cases e : j = i
  · subst e
    exact ⟨b, a, t, n, by rw [← k.1]; simp, hv, hm⟩
  · obtain ⟨b', a', t', n', e1, e2, m'⟩ := k.2 j (by omega)
    exact ⟨b', a', t', n', by rw [List.getElem?_append_left (by rw [k.1]; omega)]; exact e1, e2, h _ m'⟩
noncomputable def kap (ds : List (Int × Int)) (i : Nat) : List Int := [(ds.getD i (0, 0)).1, (ds.getD i (0, 0)).2]
theorem kap4 : ∀ i, i < 7 → ∀ j, j < 7 → kap (ordL 4 7) i = kap (ordL 4 7) j → i = j := by decide +kernel
theorem kap8 : ∀ i, i < 15 → ∀ j, j < 15 → kap (ordL 8 15) i = kap (ordL 8 15) j → i = j := by decide +kernel
theorem PR.pairs {prog : Program} {w : World} {h : Heap} {P P' : List (Addr × Obj)} {ys vs : List Value} {ds : List (Int × Int)} {n : Nat} (k : PR P ys vs n) (hPL : PL P' vs ds) (hn : n ≤ ds.length) (hP : ∀ q ∈ P, h.get? q.1 = some q.2) (hP' : ∀ q ∈ P', h.get? q.1 = some q.2) :
    ∀ i v, ys.toArray[i]? = some v → PairAt prog w h v (kap ds i) := by
  intro i v hv
  have hv' : ys[i]? = some v := by simpa using hv
  have hi : i < n := by
    rcases Nat.lt_or_ge i n with q | q
    · exact q
    · rw [List.getElem?_eq_none (by rw [k.1]; exact q)] at hv'; cases hv'
  obtain ⟨b, a, t, m, e1, e2, m1⟩ := k.2 i hi
  obtain ⟨a', t1, t2, m', e3, m2⟩ := hPL.get i (by omega)
  rw [hv'] at e1
  rw [e2] at e3
  injection e1 with e1
  injection e3 with e3
  injection e3 with e3
  subst e1; subst e3
  exact ⟨b, a, _, _, rfl, hP _ m1, _, _, _, hP' _ m2, rfl, rfl, .cons (intKind_is _ _ _ _) (.cons (intKind_is _ _ _ _) .nil)⟩
section
variable {prog : Program} {w : World} {A : Around} {E : Value → Shared → Prop} {s : Shared}
theorem ask_pl {P : List (Addr × Obj)} {vs : List Value} {ds : List (Int × Int)} {i j : Nat} {C : Bool → Shared → Prop} (hPL : PL P vs ds) (hP : ∀ q ∈ P, s.heap.get? q.1 = some q.2) (hi : i < ds.length) (hj : j < ds.length)
    (h : C (ltp (ds.getD i (0, 0)) (ds.getD j (0, 0))) s) : kas_ask prog w A (tuples' true) vs i j C s := by
  obtain ⟨a, t, u, n, e1, m1⟩ := hPL.get i hi
  obtain ⟨b, t', u', n', e2, m2⟩ := hPL.get j hj
  unfold kas_ask
  rw [List.getD_eq_getElem?_getD, List.getD_eq_getElem?_getD, e1, e2]
  generalize hp : ds.getD i (0, 0) = p at *
  generalize hq : ds.getD j (0, 0) = q at *
  obtain ⟨f, l⟩ := p
  obtain ⟨g, r⟩ := q
  refine kat_lt (hP _ m1) rfl (hP _ m2) rfl ?_
  show KatLex _ _ _ _ _ _ [(.int f t, .int g t'), (.int l u, .int r u')] 0 s
  refine kat_cons (wpAny_eqBool_int ?_)
  by_cases h1 : f = g
  · rw [beq_iff_eq.mpr h1]
    refine kat_yes (kat_cons (wpAny_eqBool_int ?_))
    by_cases h2 : l = r
    · rw [beq_iff_eq.mpr h2]
      refine kat_yes (kat_nil ?_)
      have e : ltp (f, l) (g, r) = false := by unfold ltp; simp [h1, h2]
      rw [e] at h
      exact h
    · rw [beq_eq_false_iff_ne.mpr h2]
      refine kat_no (kat_one _ _ (cmp_ofLt (rich_lt_int ?_)))
      have e : ltp (f, l) (g, r) = decide (l < r) := by unfold ltp; simp [h1]
      rw [e] at h
      exact h
  · rw [beq_eq_false_iff_ne.mpr h1]
    refine kat_no (oneLt_int ?_)
    have e : ltp (f, l) (g, r) = decide (f < g) := by unfold ltp; simp [h1]
    rw [e] at h
    exact h
theorem tups_pl {P : List (Addr × Obj)} {h : Heap} (hP : ∀ q ∈ P, h.get? q.1 = some q.2) : ∀ {vs : List Value} {ds : List (Int × Int)}, PL P vs ds → ∃ fs, KatTups h vs fs ∧ fs.length = ds.length ∧ ∀ v ∈ fs, ∃ x t, v = Value.int x t
  | _, _, .nil => ⟨[], KatTups.nil, rfl, fun _ hv => by cases hv⟩
  | _, _, .cons (f := f) (t := t) m r => by
    obtain ⟨fs, h1, h2, h3⟩ := tups_pl hP r
    refine ⟨.int f t :: fs, KatTups.cons (hP _ m) rfl rfl rfl h1, by rw [List.length_cons, List.length_cons, h2], fun v hv => ?_⟩
    rcases List.mem_cons.mp hv with e | e
    · exact ⟨f, t, e⟩
    · exact h3 v e
theorem map_getD (vs : List Value) : (List.range vs.length).map (fun i => vs.getD i Value.none) = vs := by
  apply List.ext_getElem
  · simp
  · intro i h1 h2
    simp [h2]
theorem sorted_pl {h₀ : Heap} {L l : Addr} {m : Str → Option Value} {news P : List (Addr × Obj)} {vs : List Value} {ds : List (Int × Int)} {Q : Value → Shared → Prop} (F : Fr h₀ L s.heap m) (N : News h₀ L s.heap news) (hl : s.heap.IsList l vs.toArray)
    (hPL : PL P vs ds) (hP : ∀ q ∈ P, q ∈ news) (h2 : 2 ≤ ds.length) (h64 : ds.length < 64)
    (hrun : kasRun (fun i j => ltp (ds.getD i (0, 0)) (ds.getD j (0, 0))) ds.length (kas_sort ds.length) = some (List.toArray (List.range ds.length)))
    (h : ∀ D c h', Fr h₀ L h' m → News h₀ L h' ((D, W.listOf vs.toArray c) :: news) → AllLt D news → Q (.ref D) { s with heap := h' }) :
    wpAny (model prog w) A (call (.builtin "sorted") [.ref l]) Q E s := by
  have hlen := hPL.length
  refine kat_sorted F N hl (by omega) (by omega) fun D e1 h' F' N' hlt => ?_
  have hP' : ∀ q ∈ P, h'.get? q.1 = some q.2 := fun q hq => (N' q (.tail _ (hP q hq))).1
  obtain ⟨fs, k1, k2, k3⟩ := tups_pl hP' hPL
  refine kat_kind (T := .type "int") k1 (by omega) (fun v hv => ?_) rfl ?_
  · obtain ⟨x, t, rfl⟩ := k3 v hv
    exact Looks.of_pure rfl
  · refine kas_plain (f := fun i j => ltp (ds.getD i (0, 0)) (ds.getD j (0, 0))) (n := ds.length) (fun i j C hi hj hc => ask_pl hPL hP' hi hj hc) (a := List.toArray (List.range ds.length)) ?_ _ (by rw [hlen]; exact hrun)
    refine KasFin.intro F' N' (.head fun p hp => Nat.ne_of_lt (hlt p hp)) fun h'' c F'' N'' => ?_
    refine h D c h'' F'' ?_ (allLt_of hlt)
    have e : (List.toArray (List.range ds.length)).toList.map (fun i => vs.getD i Value.none) = vs := by rw [← hlen]; exact map_getD vs
    rw [e] at N''
    exact N''
theorem ne_same {a b : Addr} {items : Array Value} {Q : Value → Shared → Prop} (hu : A.units < cLine) (ha : s.heap.IsList a items) (hb : s.heap.IsList b items) (h : Q (.bool false) s) : wpAny (model prog w) A (compareOp .NotEq (.ref a) (.ref b)) Q E s := by
  refine cmp_ofNotEq ?_
  refine RcNeAt.lists (e := fun _ => true) ha hb rfl hu (fun j h1 h2 => EqAt.same _) prog w E Q ?_
  have e : (!(List.range items.size).all fun _ => true) = false := by simp
  rw [e]; exact h
theorem len_dictH {K : Type} [DecidableEq K] {knd : HeapKind prog w K} {d : Addr} {xs : List (K × Addr × Value)} {Q : Value → Shared → Prop} (hd : (d == sysModules) = false) (hm : s.heap.DictOfH knd d xs) (hfit : (xs.length : Int) < 2 ^ 63)
    (h : Q (.int xs.length (s.toks + 1)) { s with toks := s.toks + 1 + 1 }) : wpAny (model prog w) A (call (.builtin "len") [.ref d]) Q E s := by
  refine Calls.call_function_entry kind_len plain_len entry_len (args_len1 _) ?_
  unfold Builtin.«len»
  refine wpAny_bind (m := oneArg "len" _) (wpAny_pure ?_)
  have key : MeetsIn prog w (Builtin.«dict.__len__» ⟨[.ref d], []⟩) (fun _ R s => ∃ xs, s.heap.DictOfH knd d xs ∧ R (.ok (.ret (.int xs.length s.toks))) { s with toks := s.toks + 1 }) :=
    .of_wp fun A R s ⟨xs, hm, h⟩ => by
      obtain ⟨o, es, ep, ho, hc, hdat, he, hi, hn⟩ := hm
      show wpAny _ _ (dictSize d >>= _) _ _ s
      unfold dictSize
      refine wpAny_bind (wpAny_bind (wpAny_dictEntries ho hdat (wpAny_pure ?_)))
      show wpAny _ _ (Builtin.Dict.pendingCount d >>= _) _ _ s
      refine wpAny_bind (wpAny_pendingCount_other hd ?_)
      refine wpAny_ret_mkInt ?_
      have : es.size = xs.length := size_of_entries he
      rw [Nat.add_zero, this]; exact h
  refine wpAny_bind (m := callSpecial? (.ref d) (Str.ofString "__len__")) (wpAny_callSpecial?_slot (name := Str.ofString "__len__") hm.typeIs F.slot_dict_len
    (call_meetsIn F.slot_dict_len hm.typeIs F.entry_dict_len (F.args_dict_len_1 _) key ⟨xs, hm, ?_⟩))
  show wpAny _ _ _ _ _ { s with toks := s.toks + 1 }
  refine wpAny_bind (wpAny_holding (wpAny_pure ?_))
  refine wpAny_bind (wpAny_letGo ?_)
  show wpAny _ _ (if ((xs.length : Nat) : Int) < 0 then _ else _) _ _ _
  rw [if_neg (by omega)]
  show wpAny _ _ (if ((xs.length : Nat) : Int) ≥ 2 ^ 63 then _ else _) _ _ _
  rw [if_neg (by omega)]
  exact wpAny_bind (wpAny_mkInt (wpAny_pure ⟨_, rfl, h⟩))
end
end Mine
end
section
open PySem PySem.W PyProof.Rows PySem.Calls PyProof.V PySem.Spec
set_option maxRecDepth 100000
namespace Mine
noncomputable def bodyOf : Stmt → List Stmt
  | .For _ _ b _ _ => b
  | _ => []
noncomputable def innerBody (w : World) : List Stmt := bodyOf ((bodyOf (lawAt w 7)).headD (.Pass ⟨0, 0, 0, 0⟩))
noncomputable def ordAll (M : Int) : List (Int × Int) := ordL M (2 * M - 1).toNat
end Mine
end
section
open PySem PySem.W PyProof.Rows PySem.Calls PyProof.V PySem.Spec
set_option maxRecDepth 100000
namespace Mine
theorem off1_mem {D : Addr} {l : List (Addr × Obj)} (x : LCg.Off1 D l) : ∀ p ∈ l, p.1 ≠ D := by
  induction l with
  | nil => intro p hp; cases hp
  | cons q r ih =>
    intro p hp
    rcases List.mem_cons.mp hp with h | h
    · rw [h]; exact x.1
    · exact ih x.2 p h
theorem fg4 : figs 4 = 3 := rfl
theorem fg8 : figs 8 = 4 := rfl
/-- what the walk of the inner loop needs to know of the taken numbers -/
def TF (M lo hi : Int) (js : List Int) : Prop :=
  (∀ j ∈ js, 1 ≤ j ∧ j < 2 * M) ∧ 0 < js.length ∧ (js.length : Int) ≤ 4 ∧ (stp M (js.getD 0 0)).1 = lo ∧ (stp M (js.getD (js.length - 1) 0)).2 = hi ∧
  (∀ k, k < 4 → 1 ≤ k → k < js.length → (stp M (js.getD (k - 1) 0)).2 = (stp M (js.getD k 0)).1) ∧ (js.length : Int) ≤ max 1 (2 * ((figs M : Int) - 2)) ∧
  (∀ j ∈ js, (bisL (ordAll M) (stp M j)).toNat < (ordAll M).length ∧ (ordAll M).getD (bisL (ordAll M) (stp M j)).toNat (0, 0) = stp M j)
theorem takenL_facts {M lo hi : Int} (hM : M = 4 ∨ M = 8) (h0 : 0 ≤ lo) (h1 : lo < hi) (h2 : hi ≤ M) : TF M lo hi (takenL M lo hi) := by
  rcases hM with rfl | rfl
  · have a : lo = 0 ∨ lo = 1 ∨ lo = 2 ∨ lo = 3 := in0to3 (by omega) (by omega)
    have b : hi = 1 ∨ hi = 2 ∨ hi = 3 ∨ hi = 4 := in1to4 (by omega) (by omega)
    rcases a with rfl | rfl | rfl | rfl <;> rcases b with rfl | rfl | rfl | rfl <;> first | (exfalso; revert h1; decide) | (unfold TF; decide +kernel)
  · have a : lo = 0 ∨ lo = 1 ∨ lo = 2 ∨ lo = 3 ∨ lo = 4 ∨ lo = 5 ∨ lo = 6 ∨ lo = 7 := in0to7 (by omega) (by omega)
    have b : hi = 1 ∨ hi = 2 ∨ hi = 3 ∨ hi = 4 ∨ hi = 5 ∨ hi = 6 ∨ hi = 7 ∨ hi = 8 := in1to8 (by omega) (by omega)
    rcases a with rfl | rfl | rfl | rfl | rfl | rfl | rfl | rfl <;> rcases b with rfl | rfl | rfl | rfl | rfl | rfl | rfl | rfl <;> first | (exfalso; revert h1; decide) | (unfold TF; decide +kernel)
end Mine
end
section
open PySem PySem.W PyProof.Rows PySem.Calls PyProof.V PySem.Spec PySem.SeqAt
set_option maxRecDepth 100000
namespace Mine
section
variable {prog : Program} {w : World} {A : Around} {E : Value → Shared → Prop} {s : Shared} {l : Addr} {vs : List Value} {ds : List (Int × Int)} {js : List Int} {M k : Int} {P : List (Addr × Obj)} {value slice : PySem.Expr} {u : Tok} {Q : Value → Shared → Prop}
theorem pl_item (hl : s.heap.IsList l vs.toArray) (hk : PL P vs (js.map (stp M))) (h0 : 0 ≤ k) (h1 : k < js.length) (h2 : js.length ≤ 1000)
    (h : ∀ a t t' n, (a, tup2 (stp M (js.getD k.toNat 0)).1 t (stp M (js.getD k.toNat 0)).2 t' n) ∈ P → Q (.ref a) s)
    (hs : subscripted slice false (.ref l) (.int k u) = operate [.ref l, .int k u] (getItem (.ref l) (.int k u)) := by with_unfolding_all rfl) :
    wpAny (model prog w) A (subscriptTail value slice (.ref l) (.int k u)) Q E s := by
  obtain ⟨a, t, t', n, e1, e2⟩ := hk.get k.toNat (by rw [List.length_map]; omega)
  have e3 : (js.map (stp M)).getD k.toNat (0, 0) = stp M (js.getD k.toNat 0) := by
    have hlt : k.toNat < js.length := by omega
    simp [List.getD, List.getElem?_map, List.getElem?_eq_getElem hlt]
  rw [e3] at e2
  exact tail_any hl.typeIs slot_list_getitem.lookup (wpAny_getItem_list hl (by omega) (by omega) (by simpa using e1) (h a t t' n e2)) hs
theorem pl_itemD (hl : s.heap.IsList l vs.toArray) (hk : PL P vs ds) (h0 : 0 ≤ k) (h1 : k.toNat < ds.length) (h2 : ds.length ≤ 1000)
    (h : ∀ a t t' n, (a, tup2 (ds.getD k.toNat (0, 0)).1 t (ds.getD k.toNat (0, 0)).2 t' n) ∈ P → Q (.ref a) s)
    (hs : subscripted slice false (.ref l) (.int k u) = operate [.ref l, .int k u] (getItem (.ref l) (.int k u)) := by with_unfolding_all rfl) :
    wpAny (model prog w) A (subscriptTail value slice (.ref l) (.int k u)) Q E s := by
  obtain ⟨a, t, t', n, e1, e2⟩ := hk.get k.toNat h1
  exact tail_any hl.typeIs slot_list_getitem.lookup (wpAny_getItem_list hl (by omega) (by omega) (by simpa using e1) (h a t t' n e2)) hs
theorem pl_last (hl : s.heap.IsList l vs.toArray) (hk : PL P vs (js.map (stp M))) (h1 : 0 < js.length) (h2 : js.length ≤ 1000)
    (h : ∀ a t t' n, (a, tup2 (stp M (js.getD (js.length - 1) 0)).1 t (stp M (js.getD (js.length - 1) 0)).2 t' n) ∈ P → Q (.ref a) s)
    (hs : subscripted slice false (.ref l) (.int (-1) u) = operate [.ref l, .int (-1) u] (getItem (.ref l) (.int (-1) u)) := by with_unfolding_all rfl) :
    wpAny (model prog w) A (subscriptTail value slice (.ref l) (.int (-1) u)) Q E s := by
  have hvl : vs.length = js.length := by rw [hk.length, List.length_map]
  obtain ⟨a, t, t', n, e1, e2⟩ := hk.get (js.length - 1) (by rw [List.length_map]; omega)
  have e3 : (js.map (stp M)).getD (js.length - 1) (0, 0) = stp M (js.getD (js.length - 1) 0) := by
    have hlt : js.length - 1 < js.length := by omega
    simp [List.getD, List.getElem?_map, List.getElem?_eq_getElem hlt]
  rw [e3] at e2
  refine tail_any hl.typeIs slot_list_getitem.lookup (wpAny_getItem_list_neg hl (by omega) (by rw [List.size_toArray, hvl]; omega) (by omega) ?_ (h a t t' n e2)) hs
  rw [List.size_toArray, hvl, show ((-1 : Int) + (js.length : Int)).toNat = js.length - 1 by omega]
  simpa using e1
theorem len_n {n : Nat} (hl : s.heap.IsList l vs.toArray) (e : vs.length = n) (hn : n ≤ 1000) (h : Q (.int n (s.toks + 1)) { s with toks := s.toks + 1 + 1 }) : wpAny (model prog w) A (call (.builtin "len") [.ref l]) Q E s := by
  have e' : (List.toArray vs).size = n := by rw [List.size_toArray]; exact e
  exact call_len_list hl (by rw [e']; omega) (by rw [e']; exact h)
theorem ne_nil {a b : Addr} (ha : s.heap.IsList a ([] : List Value).toArray) (hb : s.heap.IsList b ([] : List Value).toArray) (hu : A.units + 64 < cLine) (h : Q (.bool false) s) : wpAny (model prog w) A (compareOp .NotEq (.ref a) (.ref b)) Q E s :=
  ke_ne_ints ha hb .nil .nil hu h
end
end Mine
end
section
open PySem PySem.W PyProof.Rows PySem.Calls PyProof.V PySem.Spec PySem.SeqAt
set_option maxRecDepth 100000
namespace Mine
set_option maxHeartbeats 4000000 in
theorem taken_flat {rs : List Int} {M lo hi : Int} (hM : M = 4 ∨ M = 8) (hl : (rs.length : Int) = M) (h0 : 0 ≤ lo) (h1 : lo < hi) (h2 : hi ≤ M) : ((takenL M lo hi).map (fun j => slN rs 4 j.toNat)).flatten = slcI rs lo hi := by
  rcases hM with rfl | rfl
  · obtain ⟨a, b, c, d, rfl⟩ := len4 (rs := rs) (by omega)
    have a : lo = 0 ∨ lo = 1 ∨ lo = 2 ∨ lo = 3 := in0to3 (by omega) (by omega)
    have b : hi = 1 ∨ hi = 2 ∨ hi = 3 ∨ hi = 4 := in1to4 (by omega) (by omega)
    rcases a with rfl | rfl | rfl | rfl <;> rcases b with rfl | rfl | rfl | rfl <;> first | (exfalso; revert h1; decide) | rfl
  · obtain ⟨a, b, c, d, e, f, g, i, rfl⟩ := len8 (rs := rs) (by omega)
    have a : lo = 0 ∨ lo = 1 ∨ lo = 2 ∨ lo = 3 ∨ lo = 4 ∨ lo = 5 ∨ lo = 6 ∨ lo = 7 := in0to7 (by omega) (by omega)
    have b : hi = 1 ∨ hi = 2 ∨ hi = 3 ∨ hi = 4 ∨ hi = 5 ∨ hi = 6 ∨ hi = 7 ∨ hi = 8 := in1to8 (by omega) (by omega)
    rcases a with rfl | rfl | rfl | rfl | rfl | rfl | rfl | rfl <;> rcases b with rfl | rfl | rfl | rfl | rfl | rfl | rfl | rfl <;> first | (exfalso; revert h1; decide) | rfl
theorem sum_flat (rs : List Int) : ∀ js : List Int, (js.map (fun j => (kvv rs j.toNat).1)).sum = ((js.map (fun j => slN rs 4 j.toNat)).flatten).sum
  | [] => rfl
  | j :: r => by
    rw [List.map_cons, List.sum_cons, List.map_cons, List.flatten_cons, List.sum_append, sum_flat rs r]
    have := kv_sum rs 4 j.toNat
    rw [← this]; rfl
theorem max_flat {rs js : List Int} {x y : Int} (h8 : rs.length ≤ 8) (hj : ∀ j ∈ js, 1 ≤ j) (hx : x ∈ js.map (fun j => (kvv rs j.toNat).2)) (hx' : ∀ a ∈ js.map (fun j => (kvv rs j.toNat).2), a ≤ x)
    (hy : y ∈ (js.map (fun j => slN rs 4 j.toNat)).flatten) (hy' : ∀ a ∈ (js.map (fun j => slN rs 4 j.toNat)).flatten, a ≤ y) : x = y := by
  refine Int.le_antisymm ?_ ?_
  · obtain ⟨j, h1, rfl⟩ := List.mem_map.mp hx
    have := hj j h1
    exact hy' _ (List.mem_flatten.mpr ⟨_, List.mem_map.mpr ⟨j, h1, rfl⟩, (kv_max rs 3 j.toNat (by omega)).1⟩)
  · obtain ⟨l, h1, h2⟩ := List.mem_flatten.mp hy
    obtain ⟨j, h3, rfl⟩ := List.mem_map.mp h1
    have := hj j h3
    exact Int.le_trans ((kv_max rs 3 j.toNat (by omega)).2 _ h2) (hx' _ (List.mem_map.mpr ⟨j, h3, rfl⟩))
theorem ints_snoc {x : Int} {t : Tok} : ∀ {vs : List Value} {ns : List Int}, IntsAre vs ns → IntsAre (vs ++ [.int x t]) (ns ++ [x])
  | _, _, .nil => .cons x t .nil
  | _, _, .cons y u r => .cons y u (ints_snoc r)
end Mine
end
section
open PySem PySem.W PyProof.Rows PySem.Calls PyProof.V PySem.Spec PySem.SeqAt
set_option maxRecDepth 100000
namespace Mine
/-- the row, one entry raised -/
noncomputable def bump (rs : List Int) (pl : Int) : List Int := rs.take pl.toNat ++ [rs.getD pl.toNat 0 + 1] ++ rs.drop (pl + 1).toNat
theorem bump_len {rs : List Int} {pl : Int} (h0 : 0 ≤ pl) (h1 : pl < rs.length) : (bump rs pl).length = rs.length := by
  unfold bump
  simp only [List.length_append, List.length_take, List.length_cons, List.length_nil, List.length_drop]
  omega
theorem bump_get {rs : List Int} {pl : Int} (h0 : 0 ≤ pl) (h1 : pl < rs.length) (k : Nat) : (bump rs pl).getD k 0 = rs.getD k 0 + (if k = pl.toNat then 1 else 0) := by
  obtain ⟨n, rfl⟩ : ∃ n : Nat, pl = n := ⟨pl.toNat, by omega⟩
  have hn : n < rs.length := by omega
  unfold bump
  have e1 : ((n : Int)).toNat = n := by omega
  have e2 : ((n : Int) + 1).toNat = n + 1 := by omega
  rw [e1, e2]
  have ht : (rs.take n).length = n := by rw [List.length_take]; omega
  have hx : rs[n]?.getD 0 = rs.getD n 0 := List.getD_eq_getElem?_getD.symm
  generalize rs.getD n 0 = x at hx ⊢
  have ht1 : (rs.take n ++ [x + 1]).length = n + 1 := by rw [List.length_append, ht]; rfl
  rw [List.getD_eq_getElem?_getD, List.getD_eq_getElem?_getD]
  by_cases hk : k < n
  · rw [if_neg (by omega), List.getElem?_append_left (by omega), List.getElem?_append_left (by omega), List.getElem?_take_of_lt hk, Int.add_zero]
  · by_cases hk2 : k = n
    · subst hk2
      rw [if_pos rfl, List.getElem?_append_left (by omega), List.getElem?_append_right (by omega), ht, Nat.sub_self]
      rw [hx]; rfl
    · rw [if_neg hk2, List.getElem?_append_right (by omega), ht1, List.getElem?_drop, show n + 1 + (k - (n + 1)) = k by omega, Int.add_zero]
noncomputable def cnt (len pl : Nat) : Nat → Nat → Int
  | 0, _ => 0
  | f + 1, j => if len ≤ j then (if j - len = pl then 1 else 0) else cnt len pl f (2 * j) + cnt len pl f (2 * j + 1)
theorem kv_bump {rs : List Int} {pl : Int} (h0 : 0 ≤ pl) (h1 : pl < rs.length) : ∀ f j, (kv (bump rs pl) f j).1 = (kv rs f j).1 + cnt rs.length pl.toNat f j
  | 0, _ => rfl
  | f + 1, j => by
    show (if (bump rs pl).length ≤ j then _ else ((kv (bump rs pl) f (2 * j)).1 + (kv (bump rs pl) f (2 * j + 1)).1, max (kv (bump rs pl) f (2 * j)).2 (kv (bump rs pl) f (2 * j + 1)).2) : Int × Int).1 = (if rs.length ≤ j then _ else ((kv rs f (2 * j)).1 + (kv rs f (2 * j + 1)).1, max (kv rs f (2 * j)).2 (kv rs f (2 * j + 1)).2) : Int × Int).1 + (if rs.length ≤ j then _ else _)
    rw [bump_len h0 h1]
    by_cases hc : rs.length ≤ j
    · rw [if_pos hc, if_pos hc, if_pos hc]
      exact bump_get h0 h1 _
    · rw [if_neg hc, if_neg hc, if_neg hc, kv_bump h0 h1 f, kv_bump h0 h1 f]
      simp only
      omega
/-- the numbers whose stretch holds a place -/
noncomputable def holds (M pl j : Int) : Bool := decide ((stp M j).1 ≤ pl ∧ pl < (stp M j).2)
theorem cnt_holds {M pl j : Int} (hM : M = 4 ∨ M = 8) (h0 : 0 ≤ pl) (h1 : pl < M) (h2 : 1 ≤ j) (h3 : j < 2 * M) : cnt M.toNat pl.toNat 4 j.toNat = if holds M pl j then 1 else 0 := by
  rcases hM with rfl | rfl
  · have a : pl = 0 ∨ pl = 1 ∨ pl = 2 ∨ pl = 3 := in0to3 (by omega) (by omega)
    have b : j = 1 ∨ j = 2 ∨ j = 3 ∨ j = 4 ∨ j = 5 ∨ j = 6 ∨ j = 7 := in1to7 (by omega) (by omega)
    rcases a with rfl | rfl | rfl | rfl <;> rcases b with rfl | rfl | rfl | rfl | rfl | rfl | rfl <;> decide +kernel
  · have a : pl = 0 ∨ pl = 1 ∨ pl = 2 ∨ pl = 3 ∨ pl = 4 ∨ pl = 5 ∨ pl = 6 ∨ pl = 7 := in0to7 (by omega) (by omega)
    have b : j = 1 ∨ j = 2 ∨ j = 3 ∨ j = 4 ∨ j = 5 ∨ j = 6 ∨ j = 7 ∨ j = 8 ∨ j = 9 ∨ j = 10 ∨ j = 11 ∨ j = 12 ∨ j = 13 ∨ j = 14 ∨ j = 15 := in1to15 (by omega) (by omega)
    rcases a with rfl | rfl | rfl | rfl | rfl | rfl | rfl | rfl <;> rcases b with rfl | rfl | rfl | rfl | rfl | rfl | rfl | rfl | rfl | rfl | rfl | rfl | rfl | rfl | rfl <;> decide +kernel
theorem bump_ne {rs : List Int} {M pl j : Int} (hM : M = 4 ∨ M = 8) (hl : (rs.length : Int) = M) (h0 : 0 ≤ pl) (h1 : pl < M) (h2 : 1 ≤ j) (h3 : j < 2 * M) : ((kvv (bump rs pl) j.toNat).1 ≠ (kvv rs j.toNat).1) ↔ holds M pl j = true := by
  have e : (kvv (bump rs pl) j.toNat).1 = (kvv rs j.toNat).1 + cnt rs.length pl.toNat 4 j.toNat := kv_bump h0 (by omega) 4 j.toNat
  rw [e, show rs.length = M.toNat by omega, cnt_holds hM h0 h1 h2 h3]
  cases holds M pl j
  · simp
  · constructor
    · intro _; rfl
    · intro _ q; simp only [if_true] at q; omega
noncomputable def chg (M pl : Int) (i : Nat) : List Int := ((List.range i).map (fun k : Nat => (1 + (k : Int)))).filter (fun j => holds M pl j)
theorem chg_succ (M pl : Int) (i : Nat) : chg M pl (i + 1) = chg M pl i ++ (if holds M pl (1 + (i : Int)) then [1 + (i : Int)] else []) := by
  unfold chg
  rw [List.range_succ, List.map_append, List.filter_append]
  congr 1
  simp [List.filter]
  split <;> simp_all
theorem chg_len {M pl : Int} (hM : M = 4 ∨ M = 8) (h0 : 0 ≤ pl) (h1 : pl < M) : (chg M pl (2 * M - 1).toNat).length = figs M := by
  rcases hM with rfl | rfl
  · have a : pl = 0 ∨ pl = 1 ∨ pl = 2 ∨ pl = 3 := in0to3 (by omega) (by omega)
    rcases a with rfl | rfl | rfl | rfl <;> decide +kernel
  · have a : pl = 0 ∨ pl = 1 ∨ pl = 2 ∨ pl = 3 ∨ pl = 4 ∨ pl = 5 ∨ pl = 6 ∨ pl = 7 := in0to7 (by omega) (by omega)
    rcases a with rfl | rfl | rfl | rfl | rfl | rfl | rfl | rfl <;> decide +kernel
theorem chg_mem {M pl j : Int} {i : Nat} (h : j ∈ chg M pl i) : 1 ≤ j ∧ j ≤ i ∧ holds M pl j = true := by
  unfold chg at h
  obtain ⟨h1, h2⟩ := List.mem_filter.mp h
  obtain ⟨k, h3, rfl⟩ := List.mem_map.mp h1
  have := List.mem_range.mp h3
  exact ⟨by omega, by omega, h2⟩
end Mine
end
section
open PySem PySem.W PyProof.Rows PySem.Calls PyProof.V PySem.Spec
namespace Mine
local macro_rules | `(tactic| k_all) => `(tactic| assumption)
local macro_rules | `(tactic| walk_at "subscriptTail") => `(tactic| (k_here; (with_reducible show wpAny _ _ (subscriptTail _ _ (Value.ref _) (Value.int 0 _)) _ _ _); k_dflt (refine' tup_it0 ?g ?_; (case g => exact News.get (by k_asm) (by tb_rel)))))
local macro_rules | `(tactic| walk_at "subscriptTail") => `(tactic| (k_here; (with_reducible show wpAny _ _ (subscriptTail _ _ (Value.ref _) (Value.int 1 _)) _ _ _); k_dflt (refine' tup_it1 ?g ?_; (case g => exact News.get (by k_asm) (by tb_rel)))))
local macro_rules | `(tactic| walk_at "call builtin:len") => `(tactic| (k_here; (with_reducible show wpAny _ _ (call (Value.builtin "len") [Value.ref _]) _ _ _); k_dflt (refine' len_n ?l ?e ?k ?_; (case l => exact ⟨_, News.get (by k_asm) (by k_mem), rfl, _, rfl⟩); (case e => assumption); (case k => omega))))
local macro_rules | `(tactic| walk_at "call ref") => `(tactic| refine stop_here ?_)
local macro_rules | `(tactic| walk_at "compareOp NotEq ref ref") => `(tactic| refine stop_here ?_)
section
open PySem PySem.W PyProof.Rows PySem.Calls PyProof.V PySem.Spec
set_option maxRecDepth 100000
local macro_rules | `(tactic| walk_at "subscriptTail") => `(tactic| (k_here; (with_reducible show wpAny _ _ (subscriptTail _ _ (Value.ref _) (Value.int _ _)) _ _ _); k_dflt (refine' kv_item ?N ?m ?P ?a ?b ?c ?_; (case N => k_asm); (case m => k_mem); (case P => assumption); (case a => omega); (case b => omega); (case c => omega)); intro b' t' u' n' hT'))
local macro_rules | `(tactic| walk_at "InvEndG") => `(tactic| refine stop_here ?_)
def Apt (ord L a : Addr) : Prop := @Ne Nat a ord ∧ @Ne Nat a (L + 1 + 1 + 1 + 1) ∧ @Ne Nat a (L + 1 + 1 + 1 + 1 + 1) ∧ @Ne Nat a (L + 1 + 1 + 1 + 1 + 1 + 1)
set_option maxHeartbeats 8000000 in
theorem segB {w : World} {p : Program} {loose : List Str} {mean : ExcName → Option Value} {mg mb : Str → Option Value} {s : Shared} {g : Heap} {L fa rowA kl ord : Addr} {cd : Value} {m : Str → Option Value} {rowV ks : List Value} {rs : List Int} {kn rn on : Nat} {o1 o2 o3 o4 o5 o6 : Obj} {ps : Array Value} {P : List (Addr × Obj)} {M : Int} {t : Tok} {Q : Flow → Shared → Prop} {E : Value → Shared → Prop}
    (X : (Mine.hd.heap_39 w.params).In g) (T : Top p loose mean mg mb g) (B : Below callerA g [] g) (F : Fr g L s.heap m) (hrow : m (Str.ofString "row") = some (.ref rowA))
    (N : News g L s.heap ((ord, W.listOf #[] on) :: (kl, W.listOf ks.toArray kn) :: (rowA, W.listOf rowV.toArray rn) :: (L + 1 + 1 + 1 + 1 + 1 + 1, o6) :: (L + 1 + 1 + 1 + 1 + 1, o5) :: (L + 1 + 1 + 1 + 1, o4) :: (L + 1 + 1 + 1, o3) :: (L + 1 + 1, o2) :: (L + 1, o1) :: (16, tabObj ps) :: P))
    (d1 : o1.data = .cell (some (.int M t))) (d2 : o2.data = .cell (some (.ref kl))) (d3 : o3.data = .cell (some (.ref ord)))
    (hM : M = 4 ∨ M = 8) (hI : IntsAre rowV rs) (hlen : (rs.length : Int) = M) (hK : KV P ks (kvv rs) 1 (2 * rs.length))
    (hE : PassesOwn (model PySem.Challenge.rw_hf0004_01.row.prog w) (callerA.deeper (lawEnv w L fa cd)) (lawEnv w L fa cd) E) (hap : ∀ q ∈ ((kl, W.listOf ks.toArray kn) :: (rowA, W.listOf rowV.toArray rn) :: (L + 1 + 1 + 1 + 1 + 1 + 1, o6) :: (L + 1 + 1 + 1 + 1 + 1, o5) :: (L + 1 + 1 + 1 + 1, o4) :: (L + 1 + 1 + 1, o3) :: (L + 1 + 1, o2) :: (L + 1, o1) :: (16, tabObj ps) :: P), q.1 ≠ ord) (hapP : ∀ q ∈ P, Apt ord L q.1)
    (h : ∀ m' ov on' P' h' tk', Fr g L h' m' → (∀ z, z ≠ Str.ofString "number" → z ≠ Str.ofString "first" → z ≠ Str.ofString "last" → m' z = m z) →
      News g L h' ((ord, W.listOf ov.toArray on') :: (kl, W.listOf ks.toArray kn) :: (rowA, W.listOf rowV.toArray rn) :: (L + 1 + 1 + 1 + 1 + 1 + 1, o6) :: (L + 1 + 1 + 1 + 1 + 1, o5) :: (L + 1 + 1 + 1 + 1, o4) :: (L + 1 + 1 + 1, o3) :: (L + 1 + 1, o2) :: (L + 1, o1) :: (16, tabObj ps) :: P') →
      (∀ q ∈ P, q ∈ P') → (∀ q ∈ P', Apt ord L q.1) → PL P' ov (ordL M (2 * M - 1).toNat) → Q .next { s with heap := h', toks := tk' }) :
    wpAny (model PySem.Challenge.rw_hf0004_01.row.prog w) (callerA.deeper (lawEnv w L fa cd)) (exec (lawAt w 5) (lawEnv w L fa cd)) Q E s := by
  revert X; k_fill; intro X
  have hM8 : M ≤ 8 := m48le hM
  have hM4 : 4 ≤ M := m48ge hM
  have hrs8 : rs.length ≤ 8 := r48le hM hlen
  have hrs4 : 4 ≤ rs.length := r48ge hM hlen
  show wpAny _ (callerA.deeper (envOfC _ ⟨_, _, _, _, _⟩ _ _ _)) (exec (Stmt.For _ _ _ _ _) (envOfC _ ⟨_, _, _, _, _⟩ _ _ _)) _ _ _
  have F₀ := fr_name F hrow
  clear F
  k_with_none
  w_top off
  refine For_invVF F₀ (by exact rfl) (by exact rfl) ?_ (hE := hE)
  clear hE
  k_with "pyIter ref" => refine stop_here ?_
  k_steps
  show wpAny _ _ _ _ _ _
  rename IsRange _ _ _ _ _ _ _ _ => rgX
  rename Fr _ _ _ _ => F₁
  rename News _ _ _ _ => N₁
  refine rloop [Str.ofString "first", Str.ofString "last"] (n := (2 * M - 1).toNat) (fun i nx => ∃ ov on' P', nx = (ord, W.listOf ov.toArray on') :: (kl, W.listOf ks.toArray kn) :: (rowA, W.listOf rowV.toArray rn) :: (L + 1 + 1 + 1 + 1 + 1 + 1, o6) :: (L + 1 + 1 + 1 + 1 + 1, o5) :: (L + 1 + 1 + 1 + 1, o4) :: (L + 1 + 1 + 1, o3) :: (L + 1 + 1, o2) :: (L + 1, o1) :: (16, tabObj ps) :: P' ∧ (∀ q ∈ P, q ∈ P') ∧ (∀ q ∈ P', Apt ord L q.1) ∧ PL P' ov (ordL M i)) rfl rgX
      (by rcases hM with e | e <;> subst e <;> rfl) (by rcases hM with e | e <;> rw [e] <;> rfl) F₁ N₁ (fun p hp => hp) ⟨[], on, P, rfl, fun _ q => q, hapP, .nil⟩ ?_ ?_
  · rintro i ti u nx h₅ tk₅ own hi hoff ⟨ov, on', P', rfl, hPP, hPo, hPL⟩ F₅ N₅
    simp only [List.cons_append] at N₅
    clear F₁ N₁ rgX
    have hsf := stp_facts hM (j := ((i + 1 : Nat) : Int)) (by omega) (by omega)
    have ei : (1 + (i : Int) * 1) = ((i + 1 : Nat) : Int) := by omega
    rw [ei] at F₅
    generalize hj : ((i + 1 : Nat) : Int) = j at F₅ hsf
    obtain ⟨hf0, hf1, hf2, hf3⟩ := hsf
    have hf4 : 0 ≤ (stp M j).2 := by omega
    show wpAny _ _ _ _ _ _
    (try k_fold)
    k_steps
    show wpAny _ _ _ _ _ _
    rename Fr _ _ _ _ => F₆
    rename News _ _ _ _ => N₆
    refine stretch_c (by decide) (X.keeps F₆.keep) (T.keeps F₆.keep) (by omega) (by omega) hM ?_
    intro a t3 t4 n h₇ tk₇ hk₇ ha₇ hg₇
    have F₇ := fr_keeps F₆ hk₇
    have N₇ : News g L h₇ ((a, tup2 (stp M j).1 t3 (stp M j).2 t4 n) :: (ord, W.listOf ov.toArray on') :: (kl, W.listOf ks.toArray kn) :: (rowA, W.listOf rowV.toArray rn) :: (L + 1 + 1 + 1 + 1 + 1 + 1, o6) :: (L + 1 + 1 + 1 + 1 + 1, o5) :: (L + 1 + 1 + 1 + 1, o4) :: (L + 1 + 1 + 1, o3) :: (L + 1 + 1, o2) :: (L + 1, o1) :: (16, tabObj ps) :: (P' ++ own)) := fun q hq => by
      rcases List.mem_cons.mp hq with e | e
      · rw [e]; exact new1 F₆ ha₇ hg₇
      · exact news_keeps N₆ hk₇ q e
    (try clear F₅)
    (try clear N₅)
    clear F₆ N₆ hk₇ ha₇ hg₇
    (try dsimp only at F₇)
    show wpAny _ _ _ _ _ _
    (try k_fold)
    k_steps
    show wpAny _ _ _ _ _ _
    rename Fr _ _ _ _ => F₈
    rename News _ _ _ _ => N₈
    rename_i D₈ h₈ l₈
    have mo := N₈ (ord, W.listOf ov.toArray on') (by k_mem)
    refine insort_c (vs := ov) (ds := ordL M i) (by decide) (by decide) F₈.keep mo.2.2 X T mo.1 (hPL.pairs (fun q hq => (N₈ q (by simp only [List.mem_cons, List.mem_append, hq, true_or, or_true])).1)) (by rw [ordL_len]; omega) (N₈ _ (.head _)).1 ?_
    intro n₂ h₉ tk₉ hk₉ hg₉
    have hPL₂ : PL ((D₈, tup2 (stp M j).1 t3 (stp M j).2 t4 0) :: P') (ov.take (bisL (ordL M i) ((stp M j).1, (stp M j).2)).toNat ++ .ref D₈ :: ov.drop (bisL (ordL M i) ((stp M j).1, (stp M j).2)).toNat) (ordL M (i + 1)) := by
      have e := (hPL.mono (fun q hq => List.Mem.tail (D₈, tup2 (stp M j).1 t3 (stp M j).2 t4 0) hq)).ins (f := (stp M j).1) (l := (stp M j).2) (t := t3) (u := t4) (n := 0) (.head _) (bisL (ordL M i) ((stp M j).1, (stp M j).2)).toNat
      have e2 : ordL M (i + 1) = insL (ordL M i) (stp M j) := by rw [← hj]; rfl
      rw [e2]; exact e
    generalize ov.take (bisL (ordL M i) ((stp M j).1, (stp M j).2)).toNat ++ .ref D₈ :: ov.drop (bisL (ordL M i) ((stp M j).1, (stp M j).2)).toNat = ov₂ at hg₉ hPL₂
    have F₉ := fr_but F₈ (fun q => mo.2.1 q) mo.2.2 hk₉
    have hoo : ∀ q ∈ own, q.1 ≠ ord := fun q hq => hoff q hq _ (.head _)
    have N₉ : News g L h₉ ((ord, W.listOf ov₂.toArray n₂) :: (D₈, tup2 (stp M j).1 t3 (stp M j).2 t4 0) :: (kl, W.listOf ks.toArray kn) :: (rowA, W.listOf rowV.toArray rn) :: (L + 1 + 1 + 1 + 1 + 1 + 1, o6) :: (L + 1 + 1 + 1 + 1 + 1, o5) :: (L + 1 + 1 + 1 + 1, o4) :: (L + 1 + 1 + 1, o3) :: (L + 1 + 1, o2) :: (L + 1, o1) :: (16, tabObj ps) :: (P' ++ own)) := fun q hq => by
      rcases List.mem_cons.mp hq with e | e
      · rw [e]; exact ⟨hg₉, mo.2⟩
      rcases List.mem_cons.mp e with e | e
      · rw [e]; exact news_but hk₉ (N₈ _ (.head _)) (Nat.ne_of_gt l₈.2.1)
      refine news_but hk₉ (N₈ q (.tail _ (.tail _ (.tail _ e)))) ?_
      simp only [List.mem_cons, List.mem_append] at e
      rcases e with e | e | e | e | e | e | e | e | e | e | e
      · exact hap q (by rw [e]; k_mem)
      · exact hap q (by rw [e]; k_mem)
      · exact hap q (by rw [e]; k_mem)
      · exact hap q (by rw [e]; k_mem)
      · exact hap q (by rw [e]; k_mem)
      · exact hap q (by rw [e]; k_mem)
      · exact hap q (by rw [e]; k_mem)
      · exact hap q (by rw [e]; k_mem)
      · exact hap q (by rw [e]; k_mem)
      · exact (hPo q e).1
      · exact hoo q e
    clear F₈ N₈ hk₉ hg₉ hPL mo
    (try clear N₇)
    (try clear F₇)
    show wpAny _ _ _ _ _ _
    (try k_fold)
    k_steps
    show wpAny _ _ _ _ _ _
    rename Fr _ _ _ _ => F₁₀
    rename News _ _ _ _ => N₁₀
    rename_i mx tm nm hmx hmx' D₁ h₁₀ l₁₀
    rename (_, tup2 (kvv rs j.toNat).1 _ (kvv rs j.toNat).2 _ _) ∈ P => hmem
    have kvl := kvv_law hM hlen (j := j) (by omega) (by omega)
    have hg1 := fun q (hq : q ∈ P') => (N₁₀ q (by simp only [List.mem_cons, List.mem_append, hq, true_or, or_true])).1
    refine cmp_ne2s (by first | units_room | exact Nat.le_of_ble_eq_true rfl) (hg1 _ (hPP _ hmem)) (N₁₀ _ (.head _)).1 kvl.1 (max_unique kvl.2.1 kvl.2.2 hmx hmx') ?_
    clear hg1
    clear kvl hmx hmx' hmem
    show wpAny _ _ _ _ _ _
    (try k_fold)
    k_steps
    · exact absurd hf3 (by assumption)
    show InvEndG _ _ _ _ _ _
    rename Fr _ _ _ _ => F₁₁
    rename News _ _ _ _ => N₁₁
    obtain ⟨_, l81, _, _, l86, l85, l84, _, _, _, _, l8⟩ := l₈
    have hpo : ∀ q ∈ own, q.1 ≠ D₈ := fun q hq => Nat.ne_of_lt (ktn_ltOf l8 q (List.mem_append.mpr (.inr hq)))
    refine rj_end ((ord, W.listOf ov₂.toArray n₂) :: (kl, W.listOf ks.toArray kn) :: (rowA, W.listOf rowV.toArray rn) :: (L + 1 + 1 + 1 + 1 + 1 + 1, o6) :: (L + 1 + 1 + 1 + 1 + 1, o5) :: (L + 1 + 1 + 1 + 1, o4) :: (L + 1 + 1 + 1, o3) :: (L + 1 + 1, o2) :: (L + 1, o1) :: (16, tabObj ps) :: (D₈, tup2 (stp M j).1 t3 (stp M j).2 t4 0) :: P') F₁₁ N₁₁ ?_ ?_ ?_ ⟨ov₂, n₂, (D₈, tup2 (stp M j).1 t3 (stp M j).2 t4 0) :: P', rfl, fun q hq => .tail _ (hPP q hq), ?_, hPL₂⟩ ?_
    · intro q hq
      simp only [List.mem_cons, List.mem_append] at hq ⊢
      rcases hq with e | e | e | e | e | e | e | e | e | e | e | e <;> simp only [e, true_or, or_true]
    · intro q hq
      simp only [List.mem_cons, List.mem_append]
      simp only [hq, or_true]
    · intro q hq b hb
      simp only [List.map_cons, List.mem_cons] at hb
      rcases hb with e | e | e | e | e | e | e | e | e | e | e | e
      · rw [e]; exact hoo q hq
      · exact hoff q hq b (by rw [e]; k_mem)
      · exact hoff q hq b (by rw [e]; k_mem)
      · exact hoff q hq b (by rw [e]; k_mem)
      · exact hoff q hq b (by rw [e]; k_mem)
      · exact hoff q hq b (by rw [e]; k_mem)
      · exact hoff q hq b (by rw [e]; k_mem)
      · exact hoff q hq b (by rw [e]; k_mem)
      · exact hoff q hq b (by rw [e]; k_mem)
      · exact hoff q hq b (by rw [e]; k_mem)
      · rw [e]; exact hpo q hq
      · exact hoff q hq b (by simp only [List.map_cons, List.mem_cons, e, or_true])
    · intro q hq
      rcases List.mem_cons.mp hq with e | e
      · rw [e]; exact ⟨Nat.ne_of_gt l81, Nat.ne_of_gt l84, Nat.ne_of_gt l85, Nat.ne_of_gt l86⟩
      · exact hPo q e
    · intro z h1 h2
      simp only [List.contains_cons, List.contains_nil, Bool.or_false, Bool.or_eq_false_iff, beq_eq_false_iff_ne, ne_eq] at h2
      simp [h1, h2]
  · rintro u nx h₅ tk₅ ⟨ov, on', P', rfl, hPP, hPo, hPL⟩ F₅ N₅
    refine h _ ov on' P' h₅ tk₅ F₅ ?_ N₅ hPP hPo hPL
    intro z h1 h2 h3
    by_cases h4 : z = Str.ofString "row"
    · subst h4; rw [hrow]; rfl
    · simp [h1, h2, h3, h4]
end
section
open PySem PySem.W PyProof.Rows PySem.Calls PyProof.V PySem.Spec
set_option maxRecDepth 100000
local macro_rules | `(tactic| tb_rel) => `(tactic| first | assumption | (refine List.Mem.tail _ ?_; tb_rel))
local macro_rules | `(tactic| walk_at "subscriptTail") => `(tactic| (k_here; (with_reducible show wpAny _ _ (subscriptTail _ _ (Value.ref _) (Value.int _ _)) _ _ _); k_dflt (refine' pl_item ?l ?P ?a ?b ?c ?_; (case l => exact ⟨_, News.get (by k_asm) (by k_mem), rfl, _, rfl⟩); (case P => assumption); (case a => omega); (case b => omega); (case c => omega)); intro b' t' u' n' hT'))
local macro_rules | `(tactic| walk_at "subscriptTail") => `(tactic| (k_here; (with_reducible show wpAny _ _ (subscriptTail _ _ (Value.ref _) (Value.int (-1) _)) _ _ _); k_dflt (refine' pl_last ?l ?P ?b ?c ?_; (case l => exact ⟨_, News.get (by k_asm) (by k_mem), rfl, _, rfl⟩); (case P => assumption); (case b => omega); (case c => omega)); intro b' t' u' n' hT'))
local macro_rules | `(tactic| walk_at "eval ListComp") => `(tactic| refine stop_here ?_)
set_option maxHeartbeats 8000000 in
theorem segIa {w : World} {p : Program} {loose : List Str} {mean : ExcName → Option Value} {mg mb : Str → Option Value} {s : Shared} {g : Heap} {L fa rowA kl ord : Addr} {cd : Value} {m : Str → Option Value} {rowV ks ov : List Value} {rs : List Int} {kn rn on : Nat} {o1 o2 o3 o4 o5 o6 : Obj} {ps : Array Value} {P : List (Addr × Obj)} {M fg lo hi : Int} {t tf tl th : Tok} {v4 : Option Value} {Q : Flow → Shared → Prop} {E : Value → Shared → Prop}
    (X : (Mine.hd.heap_39 w.params).In g) (T : Top p loose mean mg mb g) (F : Fr g L s.heap m) (hrow : m (Str.ofString "row") = some (.ref rowA)) (hfig : m (Str.ofString "figures") = some (.int fg tf)) (hfg : fg = figs M) (hlow : m (Str.ofString "low") = some (.int lo tl)) (hhigh : m (Str.ofString "high") = some (.int hi th))
    (N : News g L s.heap ((ord, W.listOf ov.toArray on) :: (kl, W.listOf ks.toArray kn) :: (rowA, W.listOf rowV.toArray rn) :: (L + 1 + 1 + 1 + 1 + 1 + 1, o6) :: (L + 1 + 1 + 1 + 1 + 1, o5) :: (L + 1 + 1 + 1 + 1, o4) :: (L + 1 + 1 + 1, o3) :: (L + 1 + 1, o2) :: (L + 1, o1) :: (16, tabObj ps) :: P))
    (d1 : o1.data = .cell (some (.int M t))) (d2 : o2.data = .cell (some (.ref kl))) (d3 : o3.data = .cell (some (.ref ord))) (d4 : o4.data = .cell v4)
    (hM : M = 4 ∨ M = 8) (hI : IntsAre rowV rs) (hlen : (rs.length : Int) = M) (hK : KV P ks (kvv rs) 1 (2 * rs.length)) (hPL : PL P ov (ordL M (2 * M - 1).toNat)) (hlo : 0 ≤ lo) (hlh : lo < hi) (hhM : hi ≤ M)
    (hE : PassesOwn (model PySem.Challenge.rw_hf0004_01.row.prog w) (callerA.deeper (lawEnv w L fa cd)) (lawEnv w L fa cd) E)
    (hap1 : @Ne Nat ord (L + 1 + 1 + 1 + 1)) (hap2 : @Ne Nat kl (L + 1 + 1 + 1 + 1)) (hap3 : @Ne Nat rowA (L + 1 + 1 + 1 + 1)) (hap4 : @Ne Nat 16 (L + 1 + 1 + 1 + 1)) (hapP : ∀ q ∈ P, q.1 ≠ L + 1 + 1 + 1 + 1)
    (h : ∀ m' T1 tv tn js D ys o4n P' h' tk', Fr g L h' m' → (∀ z, z ≠ Str.ofString "taken" → m' z = m z) → m' (Str.ofString "taken") = some (.ref T1) →
      News g L h' ((D, LCg.lst ys) :: (T1, W.listOf tv.toArray tn) :: (ord, W.listOf ov.toArray on) :: (kl, W.listOf ks.toArray kn) :: (rowA, W.listOf rowV.toArray rn) :: (L + 1 + 1 + 1 + 1 + 1 + 1, o6) :: (L + 1 + 1 + 1 + 1 + 1, o5) :: (L + 1 + 1 + 1 + 1, o4n) :: (L + 1 + 1 + 1, o3) :: (L + 1 + 1, o2) :: (L + 1, o1) :: (16, tabObj ps) :: P') →
      o4n.data = .cell (some (.ref D)) → IntsAre tv js → TF M lo hi js → js = takenL M lo hi → (∀ q ∈ P, q ∈ P') → PL P' ys (js.map (stp M)) →
      wpAny (model PySem.Challenge.rw_hf0004_01.row.prog w) (callerA.deeper (lawEnv w L fa cd)) (execs ((innerBody w).drop 3) (lawEnv w L fa cd)) Q E { s with heap := h', toks := tk' }) :
    wpAny (model PySem.Challenge.rw_hf0004_01.row.prog w) (callerA.deeper (lawEnv w L fa cd)) (execs (innerBody w) (lawEnv w L fa cd)) Q E s := by
  revert X; k_fill; intro X
  have hM8 : M ≤ 8 := m48le hM
  have hM4 : 4 ≤ M := m48ge hM
  have hrs8 : rs.length ≤ 8 := r48le hM hlen
  have hrs4 : 4 ≤ rs.length := r48ge hM hlen
  revert hE
  show PassesOwn _ (callerA.deeper (envOfC _ ⟨_, _, _, _, _⟩ _ _ _)) (envOfC _ ⟨_, _, _, _, _⟩ _ _ _) _ → wpAny _ (callerA.deeper (envOfC _ ⟨_, _, _, _, _⟩ _ _ _)) (execs (_ :: _ :: _ :: _ :: _ :: []) (envOfC _ ⟨_, _, _, _, _⟩ _ _ _)) _ _ _
  intro hE
  have F₀ := fr_name (fr_name (fr_name (fr_name F hrow) (a := Str.ofString "figures") (v := some (.int fg tf)) (by rw [if_neg (by decide)]; exact hfig)) (a := Str.ofString "low") (v := some (.int lo tl)) (by rw [if_neg (by decide), if_neg (by decide)]; exact hlow)) (a := Str.ofString "high") (v := some (.int hi th)) (by rw [if_neg (by decide), if_neg (by decide), if_neg (by decide)]; exact hhigh)
  clear F
  k_with_none
  w_top off
  k_steps
  show wpAny _ _ _ _ _ _
  refine taken_c (by decide) (X.keeps F₀.keep) (T.keeps F₀.keep) hlo hlh hhM hM ?_
  intro T1 tv tn h₁ tk₁ hk₁ hn₁ hg₁ hIt
  have F₁ := fr_keeps F₀ hk₁
  have N₁ : News g L h₁ ((T1, W.listOf tv.toArray tn) :: (ord, W.listOf ov.toArray on) :: (kl, W.listOf ks.toArray kn) :: (rowA, W.listOf rowV.toArray rn) :: (L + 1 + 1 + 1 + 1 + 1 + 1, o6) :: (L + 1 + 1 + 1 + 1 + 1, o5) :: (L + 1 + 1 + 1 + 1, o4) :: (L + 1 + 1 + 1, o3) :: (L + 1 + 1, o2) :: (L + 1, o1) :: (16, tabObj ps) :: P) := fun q hq => by
    rcases List.mem_cons.mp hq with e | e
    · rw [e]; exact new1 F₀ hn₁ hg₁
    · exact news_keeps N hk₁ q e
  have hT1 : @Ne Nat T1 (L + 1 + 1 + 1 + 1) := ne_new (N (L + 1 + 1 + 1 + 1, o4) (by k_mem)).1 hn₁
  have hjs := takenL_facts hM hlo hlh hhM
  clear F₀ N hk₁ hn₁ hg₁
  generalize hjt : takenL M lo hi = js at hIt hjs
  (try dsimp only at F₁ N₁)
  show wpAny _ _ _ _ _ _
  (try k_fold)
  k_steps
  show wpAny _ _ _ _ _ _
  rename Fr _ _ _ _ => F₂
  rename News _ _ _ _ => N₂
  refine LCg.ListComp_U F₂ rfl (by decide) rfl (by decide) rfl ?_
  k_steps
  have hjl := hIt.length
  refine LCg.CompSrc.ledger rfl F₂ N₂ (.head _) (by have := hjs.2.2.1; rw [List.size_toArray, hjl]; simp [sizeLine]; omega) (fun gh => comp_ind (fun i ys nx => ∃ P', nx = (T1, W.listOf tv.toArray tn) :: (ord, W.listOf ov.toArray on) :: (kl, W.listOf ks.toArray kn) :: (rowA, W.listOf rowV.toArray rn) :: (L + 1 + 1 + 1 + 1 + 1 + 1, o6) :: (L + 1 + 1 + 1 + 1 + 1, o5) :: (L + 1 + 1 + 1 + 1, o4) :: (L + 1 + 1 + 1, o3) :: (L + 1 + 1, o2) :: (L + 1, o1) :: (16, tabObj ps) :: P' ∧ (∀ q ∈ P, q ∈ P') ∧ (∀ q ∈ P', q.1 ≠ L + 1 + 1 + 1 + 1) ∧ PL P' ys ((js.take i).map (stp M))) ⟨P, rfl, fun _ q => q, hapP, .nil⟩ ?_ ?_)
  · rintro i v I oI C oC D m₂ ys nx hh tk E' hi' hv ⟨P', rfl, hPP, hP4, hk⟩ hC hx F' N' off ne
    obtain ⟨r, tr, rfl, hr⟩ := IntsAre.at hIt i v (by simpa using hv)
    show wpAny _ _ _ _ _ _
    (try k_fold)
    k_steps
    show wpAny _ _ _ _ _ _
    rename Fr _ _ _ _ => F₃
    rename News _ _ _ _ => N₃
    have hjr := hjs.1 r (List.mem_of_getElem? hr)
    refine stretch_c (by decide) (X.keeps F₃.keep) (T.keeps F₃.keep) hjr.1 hjr.2 hM ?_
    intro a t3 t4 n h₅ tk₅ hk₅ ha₅ hg₅
    have F₄ := fr_keeps F₃ hk₅
    have N₄ : News g L h₅ ((a, tup2 (stp M r).1 t3 (stp M r).2 t4 n) :: (I, oI) :: (C, oC) :: (D, LCg.lst ys) :: (T1, W.listOf tv.toArray tn) :: (ord, W.listOf ov.toArray on) :: (kl, W.listOf ks.toArray kn) :: (rowA, W.listOf rowV.toArray rn) :: (L + 1 + 1 + 1 + 1 + 1 + 1, o6) :: (L + 1 + 1 + 1 + 1 + 1, o5) :: (L + 1 + 1 + 1 + 1, o4) :: (L + 1 + 1 + 1, o3) :: (L + 1 + 1, o2) :: (L + 1, o1) :: (16, tabObj ps) :: P') := fun q hq => by
      rcases List.mem_cons.mp hq with e | e
      · rw [e]; exact new1 F₃ ha₅ hg₅
      · exact news_keeps N₃ hk₅ q e
    have ha4 : a ≠ L + 1 + 1 + 1 + 1 := ne_new (N₃ (L + 1 + 1 + 1 + 1, o4) (by k_mem)).1 ha₅
    have haI : a ≠ I := ne_new (N₃ (I, oI) (by k_mem)).1 ha₅
    have haC : a ≠ C := ne_new (N₃ (C, oC) (by k_mem)).1 ha₅
    have haD : a ≠ D := ne_new (N₃ (D, LCg.lst ys) (by k_mem)).1 ha₅
    show LCg.CompEnd _ _ _ _ _ _ _ _ _ _ _ _ _ _
    refine LCg.CompEnd.intro F₄ N₄ ((T1, W.listOf tv.toArray tn) :: (ord, W.listOf ov.toArray on) :: (kl, W.listOf ks.toArray kn) :: (rowA, W.listOf rowV.toArray rn) :: (L + 1 + 1 + 1 + 1 + 1 + 1, o6) :: (L + 1 + 1 + 1 + 1 + 1, o5) :: (L + 1 + 1 + 1 + 1, o4) :: (L + 1 + 1 + 1, o3) :: (L + 1 + 1, o2) :: (L + 1, o1) :: (16, tabObj ps) :: (a, tup2 (stp M r).1 t3 (stp M r).2 t4 n) :: P') ?_ ?_ (.inr ⟨_, .head _, rfl, _, rfl⟩) ⟨(a, tup2 (stp M r).1 t3 (stp M r).2 t4 n) :: P', rfl, fun q hq => .tail _ (hPP q hq), ?_, ?_⟩
    · intro q hq
      simp only [List.mem_cons] at hq ⊢
      rcases hq with e | e | e | e | e | e | e | e | e | e | e | e | e | e | e | e <;> simp only [e, true_or, or_true]
    · refine LCg.Off3.of fun q hq => ?_
      have hq' : q = (a, tup2 (stp M r).1 t3 (stp M r).2 t4 n) ∨ q ∈ (T1, W.listOf tv.toArray tn) :: (ord, W.listOf ov.toArray on) :: (kl, W.listOf ks.toArray kn) :: (rowA, W.listOf rowV.toArray rn) :: (L + 1 + 1 + 1 + 1 + 1 + 1, o6) :: (L + 1 + 1 + 1 + 1 + 1, o5) :: (L + 1 + 1 + 1 + 1, o4) :: (L + 1 + 1 + 1, o3) :: (L + 1 + 1, o2) :: (L + 1, o1) :: (16, tabObj ps) :: P' := by
        simp only [List.mem_cons] at hq ⊢
        rcases hq with e | e | e | e | e | e | e | e | e | e | e | e | e <;> simp only [e, true_or, or_true]
      rcases hq' with e | e
      · rw [e]; exact ⟨haI, haC, haD⟩
      · exact off.mem q e
    · intro q hq
      rcases List.mem_cons.mp hq with e | e
      · rw [e]; exact ha4
      · exact hP4 q e
    · rw [List.take_add_one, hr, List.map_append]
      exact (hk.mono (fun q hq => .tail _ hq)).snoc (f := (stp M r).1) (l := (stp M r).2) (t := t3) (u := t4) (n := n) (.head _)
  · rintro ys nx ⟨P', rfl, hPP, hP4, hk⟩ D h₂ tk₂ F₂ N₂ off₂
    rw [List.size_toArray, hjl, List.take_length] at hk
    have jl1 := hjs.2.1
    have jl2 := hjs.2.2.1
    have hD4 : @Ne Nat D (L + 1 + 1 + 1 + 1) := fun q => off1_mem off₂ (L + 1 + 1 + 1 + 1, o4) (by k_mem) q.symm
    show wpAny _ _ _ _ _ _
    (try k_fold)
    k_steps
    all_goals first
      | exact absurd hjs.2.2.2.1 (by assumption)
      | exact absurd hjs.2.2.2.2.1 (by assumption)
      | skip
    show wpAny _ _ _ _ _ _
    rename Fr _ _ _ _ => F₃
    rename News _ _ _ _ => N₃
    rename Obj => o4n
    rename o4n.data = _ => d4n
    (try clear N₂)
    (try clear F₂)
    have hyl : ys.length = js.length := by rw [hk.length, List.length_map]
    refine LCt.ListComp_T F₃ rfl (by decide) rfl (by decide) rfl ?_
    k_steps
    rename IsRange _ _ _ _ _ _ _ _ => rgX
    rename Fr _ _ _ _ => F₄
    rename News _ _ _ _ => N₄
    refine LCt.CompSrcT.range (n := js.length - 1) rfl F₄ N₄ rgX (small_one (by omega) (by omega) (by omega) (by omega)) (by rw [rangeSize_nat]; omega) (by simp [sizeLine]; omega) (fun gh => compT_ind (fun i zs nx => zs = [] ∧ nx = (D, LCg.lst ys) :: (T1, W.listOf tv.toArray tn) :: (ord, W.listOf ov.toArray on) :: (kl, W.listOf ks.toArray kn) :: (rowA, W.listOf rowV.toArray rn) :: (L + 1 + 1 + 1 + 1 + 1 + 1, o6) :: (L + 1 + 1 + 1 + 1 + 1, o5) :: (L + 1 + 1 + 1 + 1, o4n) :: (L + 1 + 1 + 1, o3) :: (L + 1 + 1, o2) :: (L + 1, o1) :: (16, tabObj ps) :: P') ⟨rfl, rfl⟩ ?_ ?_)
    · rintro i v I oI C oC D2 m₂ zs nx hh tk E' hi' ⟨tk', rfl⟩ ⟨rfl, rfl⟩ hC hx F' N' off ne
      have jk : (stp M (js.getD (1 + (i : Int) - 1).toNat 0)).2 = (stp M (js.getD (1 + (i : Int)).toNat 0)).1 := by
        rw [show (1 + (i : Int) - 1).toNat = i by omega, show (1 + (i : Int)).toNat = i + 1 by omega]
        exact hjs.2.2.2.2.2.1 (i + 1) (by omega) (by omega) (by omega)
      show wpAny _ _ _ _ _ _
      (try k_fold)
      k_steps
      all_goals first
        | exact absurd jk (by assumption)
        | skip
      rename Fr _ _ _ _ => F₆
      rename News _ _ _ _ => N₆
      exact LCg.CompEnd.intro F₆ N₆ _ (fun _ h => h) off trivial ⟨rfl, rfl⟩
    · rintro zs nx ⟨rfl, rfl⟩ D2 h₅ tk₅ F₅ N₅ off₅
      show wpAny _ _ _ _ _ _
      (try k_fold)
      k_steps
      show wpAny _ _ _ _ _ _
      rename Fr _ _ _ _ => F₆
      rename News _ _ _ _ => N₆
      refine ne_nil ⟨_, News.get N₆ (by k_mem), rfl, _, rfl⟩ ⟨_, News.get N₆ (by k_mem), rfl, _, rfl⟩ (by ke_room) ?_
      k_with "execs cons" => refine stop_here ?_
      show wpAny _ _ _ _ _ _
      (try k_fold)
      k_steps
      show wpAny _ _ _ _ _ _
      rename Fr _ _ _ _ => F₇
      rename News _ _ _ _ => N₇
      refine h _ T1 tv tn js D ys o4n P' _ _ F₇ ?_ rfl (fun q hq => N₇ q (.tail _ (.tail _ hq))) d4n hIt hjs hjt.symm hPP hk
      intro z hz
      by_cases z1 : z = Str.ofString "row"
      · subst z1; rw [hrow]; rfl
      by_cases z2 : z = Str.ofString "figures"
      · subst z2; rw [hfig]; rfl
      by_cases z3 : z = Str.ofString "low"
      · subst z3; rw [hlow]; rfl
      by_cases z4 : z = Str.ofString "high"
      · subst z4; rw [hhigh]; rfl
      simp [hz, z1, z2, z3, z4]
open PySem PySem.W PyProof.Rows PySem.Calls PyProof.V PySem.Spec
set_option maxRecDepth 100000
set_option maxHeartbeats 8000000 in
theorem segIb {w : World} {p : Program} {loose : List Str} {mean : ExcName → Option Value} {mg mb : Str → Option Value} {s : Shared} {g : Heap} {L fa rowA kl ord T1 D : Addr} {cd : Value} {m : Str → Option Value} {rowV ks ov tv ys : List Value} {js : List Int} {kn rn on tn : Nat} {o1 o2 o3 o4 o5 o6 : Obj} {ps : Array Value} {P P' : List (Addr × Obj)} {M fg lo hi : Int} {t tf : Tok} {Q : Flow → Shared → Prop} {E : Value → Shared → Prop}
    (X : (Mine.hd.heap_39 w.params).In g) (T : Top p loose mean mg mb g) (F : Fr g L s.heap m) (hfig : m (Str.ofString "figures") = some (.int fg tf)) (hfg : fg = figs M) (htak : m (Str.ofString "taken") = some (.ref T1))
    (N : News g L s.heap ((D, LCg.lst ys) :: (T1, W.listOf tv.toArray tn) :: (ord, W.listOf ov.toArray on) :: (kl, W.listOf ks.toArray kn) :: (rowA, W.listOf rowV.toArray rn) :: (L + 1 + 1 + 1 + 1 + 1 + 1, o6) :: (L + 1 + 1 + 1 + 1 + 1, o5) :: (L + 1 + 1 + 1 + 1, o4) :: (L + 1 + 1 + 1, o3) :: (L + 1 + 1, o2) :: (L + 1, o1) :: (16, tabObj ps) :: P'))
    (d1 : o1.data = .cell (some (.int M t))) (d2 : o2.data = .cell (some (.ref kl))) (d3 : o3.data = .cell (some (.ref ord))) (d4 : o4.data = .cell (some (.ref D)))
    (hM : M = 4 ∨ M = 8) (hIt : IntsAre tv js) (hjs : TF M lo hi js) (hPP : ∀ q ∈ P, q ∈ P') (hPL : PL P ov (ordL M (2 * M - 1).toNat)) (hk : PL P' ys (js.map (stp M)))
    (hE : PassesOwn (model PySem.Challenge.rw_hf0004_01.row.prog w) (callerA.deeper (lawEnv w L fa cd)) (lawEnv w L fa cd) E)
    (h : ∀ m' h' tk', Fr g L h' m' → (∀ z, m' z = m z) → News g L h' ((D, LCg.lst ys) :: (T1, W.listOf tv.toArray tn) :: (ord, W.listOf ov.toArray on) :: (kl, W.listOf ks.toArray kn) :: (rowA, W.listOf rowV.toArray rn) :: (L + 1 + 1 + 1 + 1 + 1 + 1, o6) :: (L + 1 + 1 + 1 + 1 + 1, o5) :: (L + 1 + 1 + 1 + 1, o4) :: (L + 1 + 1 + 1, o3) :: (L + 1 + 1, o2) :: (L + 1, o1) :: (16, tabObj ps) :: P') →
      wpAny (model PySem.Challenge.rw_hf0004_01.row.prog w) (callerA.deeper (lawEnv w L fa cd)) (execs ((innerBody w).drop 4) (lawEnv w L fa cd)) Q E { s with heap := h', toks := tk' }) :
    wpAny (model PySem.Challenge.rw_hf0004_01.row.prog w) (callerA.deeper (lawEnv w L fa cd)) (execs ((innerBody w).drop 3) (lawEnv w L fa cd)) Q E s := by
  revert X; k_fill; intro X
  have hM8 : M ≤ 8 := m48le hM
  have hM4 : 4 ≤ M := m48ge hM
  revert hE
  show PassesOwn _ (callerA.deeper (envOfC _ ⟨_, _, _, _, _⟩ _ _ _)) (envOfC _ ⟨_, _, _, _, _⟩ _ _ _) _ → wpAny _ (callerA.deeper (envOfC _ ⟨_, _, _, _, _⟩ _ _ _)) (execs (_ :: _ :: []) (envOfC _ ⟨_, _, _, _, _⟩ _ _ _)) _ _ _
  intro hE
  have F₀ := fr_name (fr_name F hfig) (a := Str.ofString "taken") (v := some (.ref T1)) (by rw [if_neg (by decide)]; exact htak)
  clear F
  have jl1 := hjs.2.1
  have jl2 := hjs.2.2.1
  have hjl := hIt.length
  have hyl : ys.length = js.length := by rw [hk.length, List.length_map]
  have jm : ¬ (if 2 * (fg - 2) > 1 then 2 * (fg - 2) else 1) < (js.length : Int) := by
    have := hjs.2.2.2.2.2.2.1
    rw [hfg]
    rw [Int.max_def] at this
    split <;> split at this <;> omega
  k_with_none
  w_top off
  k_steps
  all_goals first
    | exact absurd (by assumption) jm
    | skip
  clear jm
  show wpAny _ _ _ _ _ _
  rename Fr _ _ _ _ => F₇
  rename News _ _ _ _ => N₇
  refine LCt.ListComp_T F₇ rfl (by decide) rfl (by decide) rfl ?_
  k_steps
  show LCt.CompSrcT _ _ _ _ _ _ _ _ _ _ _ _ _ _ _
  refine LCt.CompSrcT.ledger (its := ys.toArray) rfl F₇ N₇ (.head _) (by rw [List.size_toArray, hyl]; simp [sizeLine]; omega) (fun gh => compT_ind (fun i zs nx => zs = [] ∧ nx = (D, LCg.lst ys) :: (T1, W.listOf tv.toArray tn) :: (ord, W.listOf ov.toArray on) :: (kl, W.listOf ks.toArray kn) :: (rowA, W.listOf rowV.toArray rn) :: (L + 1 + 1 + 1 + 1 + 1 + 1, o6) :: (L + 1 + 1 + 1 + 1 + 1, o5) :: (L + 1 + 1 + 1 + 1, o4) :: (L + 1 + 1 + 1, o3) :: (L + 1 + 1, o2) :: (L + 1, o1) :: (16, tabObj ps) :: P') ⟨rfl, rfl⟩ ?_ ?_)
  · rintro i v I oI C oC D2 m₂ zs nx hh tk E' hi' hv ⟨rfl, rfl⟩ hC hx F' N' off ne
    rw [List.size_toArray, hyl] at hi'
    obtain ⟨a, ta, ua, na, e1, e2⟩ := hk.get i (by rw [List.length_map]; exact hi')
    have e3 : (js.map (stp M)).getD i (0, 0) = stp M (js.getD i 0) := by simp [List.getD, List.getElem?_map, List.getElem?_eq_getElem hi']
    rw [e3] at e2
    have hva : v = .ref a := by
      have : some v = some (Value.ref a) := by rw [← e1, ← hv]; simp
      exact Option.some.inj this
    subst hva
    have hji := hjs.2.2.2.2.2.2.2 (js.getD i 0) (by rw [List.getD_eq_getElem?_getD, List.getElem?_eq_getElem hi']; exact List.getElem_mem hi')
    have hb := bisL_bound (ordL M (2 * M - 1).toNat) (stp M (js.getD i 0))
    clear F₇ N₇
    show wpAny _ _ _ _ _ _
    (try k_fold)
    k_steps
    show wpAny _ _ _ _ _ _
    rename Fr _ _ _ _ => F₁
    rename News _ _ _ _ => N₁
    have hgP : ∀ q ∈ P', hh.get? q.1 = some q.2 := fun q hq => (N₁ q (by simp only [List.mem_cons, hq, or_true])).1
    refine bisect_c (ds := ordL M (2 * M - 1).toNat) (vs := ov) (by decide) (by decide) (X.keeps F₁.keep) (T.keeps F₁.keep) ⟨_, (N₁ (ord, W.listOf ov.toArray on) (by k_mem)).1, rfl, _, rfl⟩ (hPL.pairs (fun q hq => hgP q (hPP q hq))) (by rw [ordL_len]; omega) (hgP _ e2) ?_
    intro t' h₂ tk₂ hk₂
    have F₂ := fr_keeps F₁ hk₂
    have N₂ := news_keeps N₁ hk₂
    clear F₁ N₁ hk₂ hgP
    (try dsimp only at F₂ N₂)
    show wpAny _ _ _ _ _ _
    (try k_fold)
    k_steps
    show wpAny _ _ _ _ _ _
    rename Fr _ _ _ _ => F₃
    rename News _ _ _ _ => N₃
    refine pl_itemD ⟨_, News.get N₃ (show (ord, W.listOf ov.toArray on) ∈ _ from by k_mem), rfl, _, rfl⟩ hPL hb.1 hji.1 (by rw [ordL_len]; omega) ?_
    intro b tb ub nb hbm
    show wpAny _ _ _ _ _ _
    (try k_fold)
    k_steps
    show wpAny _ _ _ _ _ _
    rename Fr _ _ _ _ => F₄
    rename News _ _ _ _ => N₄
    have hgP : ∀ q ∈ P', _ := fun q hq => (N₄ q (by simp only [List.mem_cons, hq, or_true])).1
    refine cmp_ne2s (by first | units_room | exact Nat.le_of_ble_eq_true rfl) (hgP _ (hPP _ hbm)) (hgP _ e2) (congrArg Prod.fst hji.2) (congrArg Prod.snd hji.2) ?_
    clear hgP
    show wpAny _ _ _ _ _ _
    (try k_fold)
    k_steps
    rename Fr _ _ _ _ => F₆
    rename News _ _ _ _ => N₆
    exact LCg.CompEnd.intro F₆ N₆ _ (fun _ h => h) off (.inr ⟨_, .head _, rfl, _, rfl⟩) ⟨rfl, rfl⟩
  · rintro zs nx ⟨rfl, rfl⟩ D2 h₅ tk₅ F₅ N₅ off₅
    show wpAny _ _ _ _ _ _
    (try k_fold)
    k_steps
    show wpAny _ _ _ _ _ _
    rename Fr _ _ _ _ => F₆
    rename News _ _ _ _ => N₆
    refine ne_nil ⟨_, News.get N₆ (by k_mem), rfl, _, rfl⟩ ⟨_, News.get N₆ (by k_mem), rfl, _, rfl⟩ (by ke_room) ?_
    k_with "execs cons" => refine stop_here ?_
    show wpAny _ _ _ _ _ _
    (try k_fold)
    k_steps
    show wpAny _ _ _ _ _ _
    rename Fr _ _ _ _ => F₈
    rename News _ _ _ _ => N₈
    refine h _ _ _ F₈ ?_ (fun q hq => N₈ q (.tail _ (.tail _ hq)))
    intro z
    by_cases z1 : z = Str.ofString "taken"
    · subst z1; rw [htak]; rfl
    by_cases z2 : z = Str.ofString "figures"
    · subst z2; rw [hfig]; rfl
    simp [z1, z2]
end
section
open PySem PySem.W PyProof.Rows PySem.Calls PyProof.V PySem.Spec
set_option maxRecDepth 100000
local macro_rules | `(tactic| walk_at "no such key 8") => `(tactic| skip)
local macro_rules | `(tactic| tb_rel) => `(tactic| first | assumption | (refine List.Mem.tail _ ?_; tb_rel))
local macro_rules | `(tactic| walk_at "subscriptTail") => `(tactic| (k_here; (with_reducible show wpAny _ _ (subscriptTail _ _ (Value.ref _) (Value.int _ _)) _ _ _); k_dflt (refine' kv_item ?N ?m ?P ?a ?b ?c ?_; (case N => k_asm); (case m => k_mem); (case P => assumption); (case a => omega); (case b => omega); (case c => omega)); intro b' t' u' n' hT'))
local macro_rules | `(tactic| walk_at "CompSrc") => `(tactic| refine stop_here ?_)
local macro_rules | `(tactic| walk_at "eval ListComp") => `(tactic| refine stop_here ?_)
set_option maxHeartbeats 8000000 in
theorem segIc {w : World} {p : Program} {loose : List Str} {mean : ExcName → Option Value} {mg mb : Str → Option Value} {s : Shared} {g : Heap} {L fa rowA kl ord T1 D : Addr} {cd : Value} {m : Str → Option Value} {rowV ks ov tv ys : List Value} {rs js : List Int} {kn rn on tn : Nat} {o1 o2 o3 o4 o5 o6 : Obj} {ps : Array Value} {P' : List (Addr × Obj)} {M lo hi : Int} {t tl th : Tok} {Q : Flow → Shared → Prop} {E : Value → Shared → Prop}
    (X : (Mine.hd.heap_39 w.params).In g) (T : Top p loose mean mg mb g) (F : Fr g L s.heap m) (htak : m (Str.ofString "taken") = some (.ref T1)) (hrow : m (Str.ofString "row") = some (.ref rowA)) (hlow : m (Str.ofString "low") = some (.int lo tl)) (hhigh : m (Str.ofString "high") = some (.int hi th))
    (N : News g L s.heap ((D, LCg.lst ys) :: (T1, W.listOf tv.toArray tn) :: (ord, W.listOf ov.toArray on) :: (kl, W.listOf ks.toArray kn) :: (rowA, W.listOf rowV.toArray rn) :: (L + 1 + 1 + 1 + 1 + 1 + 1, o6) :: (L + 1 + 1 + 1 + 1 + 1, o5) :: (L + 1 + 1 + 1 + 1, o4) :: (L + 1 + 1 + 1, o3) :: (L + 1 + 1, o2) :: (L + 1, o1) :: (16, tabObj ps) :: P'))
    (d1 : o1.data = .cell (some (.int M t))) (d2 : o2.data = .cell (some (.ref kl))) (d3 : o3.data = .cell (some (.ref ord)))
    (hM : M = 4 ∨ M = 8) (hI : IntsAre rowV rs) (hlen : (rs.length : Int) = M) (hK : KV P' ks (kvv rs) 1 (2 * rs.length)) (hIt : IntsAre tv js) (hjs : TF M lo hi js) (hjt : js = takenL M lo hi) (hlo : 0 ≤ lo) (hlh : lo < hi) (hhM : hi ≤ M)
    (hE : PassesOwn (model PySem.Challenge.rw_hf0004_01.row.prog w) (callerA.deeper (lawEnv w L fa cd)) (lawEnv w L fa cd) E)
    (h : ∀ m' h' tk', Fr g L h' m' → (∀ z, m' z = m z) → News g L h' ((D, LCg.lst ys) :: (T1, W.listOf tv.toArray tn) :: (ord, W.listOf ov.toArray on) :: (kl, W.listOf ks.toArray kn) :: (rowA, W.listOf rowV.toArray rn) :: (L + 1 + 1 + 1 + 1 + 1 + 1, o6) :: (L + 1 + 1 + 1 + 1 + 1, o5) :: (L + 1 + 1 + 1 + 1, o4) :: (L + 1 + 1 + 1, o3) :: (L + 1 + 1, o2) :: (L + 1, o1) :: (16, tabObj ps) :: P') → Q .next { s with heap := h', toks := tk' }) :
    wpAny (model PySem.Challenge.rw_hf0004_01.row.prog w) (callerA.deeper (lawEnv w L fa cd)) (execs ((innerBody w).drop 4) (lawEnv w L fa cd)) Q E s := by
  revert X; k_fill; intro X
  have hM8 : M ≤ 8 := m48le hM
  have hM4 : 4 ≤ M := m48ge hM
  have hrs8 : rs.length ≤ 8 := r48le hM hlen
  have hrs4 : 4 ≤ rs.length := r48ge hM hlen
  revert hE
  show PassesOwn _ (callerA.deeper (envOfC _ ⟨_, _, _, _, _⟩ _ _ _)) (envOfC _ ⟨_, _, _, _, _⟩ _ _ _) _ → wpAny _ (callerA.deeper (envOfC _ ⟨_, _, _, _, _⟩ _ _ _)) (execs (_ :: []) (envOfC _ ⟨_, _, _, _, _⟩ _ _ _)) _ _ _
  intro hE
  have F₀ := fr_name (fr_name (fr_name (fr_name F hrow) (a := Str.ofString "taken") (v := some (.ref T1)) (by rw [if_neg (by decide)]; exact htak)) (a := Str.ofString "low") (v := some (.int lo tl)) (by rw [if_neg (by decide), if_neg (by decide)]; exact hlow)) (a := Str.ofString "high") (v := some (.int hi th)) (by rw [if_neg (by decide), if_neg (by decide), if_neg (by decide)]; exact hhigh)
  clear F
  have hi0 : 0 ≤ hi := by omega
  have hjl := hIt.length
  have hflat := taken_flat hM hlen hlo hlh hhM
  rw [← hjt] at hflat
  have hj0 : 0 < js.length := hjs.2.1
  have hl2 : js.length ≤ 4 := by have := hjs.2.2.1; omega
  have hj1 : ∀ j ∈ js, 1 ≤ j ∧ j < 2 * M := hjs.1
  clear hjs hjt
  k_with_none
  w_top off
  k_steps
  show wpAny _ _ _ _ _ _
  rename Fr _ _ _ _ => F₁
  rename News _ _ _ _ => N₁
  refine LCg.ListComp_U F₁ rfl (by decide) rfl (by decide) rfl ?_
  k_steps
  show LCg.CompSrc _ _ _ _ _ _ _ _ _ _ _ _ _ _
  refine LCg.CompSrc.ledger (its := tv.toArray) (k := tn) rfl F₁ N₁ (by k_mem) (by rw [List.size_toArray, hjl]; simp [sizeLine]; omega) (fun gh => comp_ind (fun i zs nx => IntsAre zs ((js.take i).map (fun j => (kvv rs j.toNat).1)) ∧ nx = (D, LCg.lst ys) :: (T1, W.listOf tv.toArray tn) :: (ord, W.listOf ov.toArray on) :: (kl, W.listOf ks.toArray kn) :: (rowA, W.listOf rowV.toArray rn) :: (L + 1 + 1 + 1 + 1 + 1 + 1, o6) :: (L + 1 + 1 + 1 + 1 + 1, o5) :: (L + 1 + 1 + 1 + 1, o4) :: (L + 1 + 1 + 1, o3) :: (L + 1 + 1, o2) :: (L + 1, o1) :: (16, tabObj ps) :: P') ⟨.nil, rfl⟩ ?_ ?_)
  · rintro i v I oI C oC D2 m₂ zs nx hh tk E' hi' hv ⟨hz, rfl⟩ hC hx F' N' off ne
    obtain ⟨r, tr, rfl, hr⟩ := IntsAre.at hIt i v (by simpa using hv)
    have hjr := hj1 r (List.mem_of_getElem? hr)
    clear hflat F₁ N₁
    show wpAny _ _ _ _ _ _
    (try k_fold)
    k_steps
    rename Fr _ _ _ _ => F₆
    rename News _ _ _ _ => N₆
    refine LCg.CompEnd.intro F₆ N₆ _ (fun _ h => h) off (.inr ⟨_, by k_mem, rfl, _, rfl⟩) ⟨?_, rfl⟩
    rw [List.take_add_one, hr, List.map_append]
    exact ints_snoc hz
  · rintro zs nx ⟨hz, rfl⟩ D2 h₅ tk₅ F₅ N₅ off₅
    rw [List.size_toArray, hjl, List.take_length] at hz
    have hsum : (js.map (fun j => (kvv rs j.toNat).1)).sum = (List.take (min hi.toNat rs.length - lo.toNat) (List.drop lo.toNat rs)).sum := by rw [sum_flat, hflat]; rfl
    show wpAny _ _ _ _ _ _
    (try k_fold)
    k_steps
    all_goals first
      | exact absurd hsum (by assumption)
      | skip
    clear hsum
    show wpAny _ _ _ _ _ _
    rename Fr _ _ _ _ => F₂
    rename News _ _ _ _ => N₂
    have N₂ := fun q hq => N₂ q (.tail _ (.tail _ hq))
    change News g L _ _ at N₂
    refine LCg.ListComp_U F₂ rfl (by decide) rfl (by decide) rfl ?_
    k_steps
    show LCg.CompSrc _ _ _ _ _ _ _ _ _ _ _ _ _ _
    refine LCg.CompSrc.ledger (its := tv.toArray) (k := tn) rfl F₂ N₂ (by k_mem) (by rw [List.size_toArray, hjl]; simp [sizeLine]; omega) (fun gh => comp_ind (fun i zs nx => IntsAre zs ((js.take i).map (fun j => (kvv rs j.toNat).2)) ∧ nx = (D, LCg.lst ys) :: (T1, W.listOf tv.toArray tn) :: (ord, W.listOf ov.toArray on) :: (kl, W.listOf ks.toArray kn) :: (rowA, W.listOf rowV.toArray rn) :: (L + 1 + 1 + 1 + 1 + 1 + 1, o6) :: (L + 1 + 1 + 1 + 1 + 1, o5) :: (L + 1 + 1 + 1 + 1, o4) :: (L + 1 + 1 + 1, o3) :: (L + 1 + 1, o2) :: (L + 1, o1) :: (16, tabObj ps) :: P') ⟨.nil, rfl⟩ ?_ ?_)
    · rintro i v I oI C oC D3 m₂ zs₂ nx hh tk E' hi' hv ⟨hz₂, rfl⟩ hC hx F' N' off ne
      obtain ⟨r, tr, rfl, hr⟩ := IntsAre.at hIt i v (by simpa using hv)
      have hjr := hj1 r (List.mem_of_getElem? hr)
      clear hflat F₂ N₂
      show wpAny _ _ _ _ _ _
      (try k_fold)
      k_steps
      rename Fr _ _ _ _ => F₆
      rename News _ _ _ _ => N₆
      refine LCg.CompEnd.intro F₆ N₆ _ (fun _ h => h) off (.inr ⟨_, by k_mem, rfl, _, rfl⟩) ⟨?_, rfl⟩
      rw [List.take_add_one, hr, List.map_append]
      exact ints_snoc hz₂
    · rintro zs₂ nx ⟨hz₂, rfl⟩ D3 h₆ tk₆ F₆ N₆ off₆
      rw [List.size_toArray, hjl, List.take_length] at hz₂
      clear hz F₂ N₂ off₅
      have hnil : (js.map (fun j => (kvv rs j.toNat).2)) ≠ [] := fun q => by have := congrArg List.length q; simp at this; simp [this] at hj0
      show wpAny _ _ _ _ _ _
      (try k_fold)
      k_steps
      all_goals
        rename _ ∈ List.map _ _ => hm1
        rename ∀ a ∈ List.map _ _, _ => hm1'
        rename _ ∈ List.take _ _ => hm2
        rename ∀ a ∈ List.take _ _, _ => hm2'
        have key := max_flat (rs := rs) (js := js) (by omega) (fun j hj => (hj1 j hj).1) hm1 hm1' (by rw [hflat]; exact hm2) (by rw [hflat]; exact hm2')
      all_goals first
        | exact absurd key (by assumption)
        | skip
      show Q _ _
      rename Fr _ _ _ _ => F₈
      rename News _ _ _ _ => N₈
      refine h _ _ _ F₈ ?_ (fun q hq => N₈ q (.tail _ (.tail _ hq)))
      intro z
      by_cases z1 : z = Str.ofString "row"
      · subst z1; rw [hrow]; rfl
      by_cases z2 : z = Str.ofString "taken"
      · subst z2; rw [htak]; rfl
      by_cases z3 : z = Str.ofString "low"
      · subst z3; rw [hlow]; rfl
      by_cases z4 : z = Str.ofString "high"
      · subst z4; rw [hhigh]; rfl
      simp [z1, z2, z3, z4]
end
section
open PySem PySem.W PyProof.Rows PySem.Calls PyProof.V PySem.Spec
set_option maxRecDepth 100000
local macro_rules | `(tactic| walk_at "no such key 9") => `(tactic| skip)
local macro_rules | `(tactic| walk_at "exec For") => `(tactic| refine stop_here ?_)
local macro_rules | `(tactic| walk_at "InvEndG") => `(tactic| refine stop_here ?_)
local macro_rules | `(tactic| walk_at "eval ListComp") => `(tactic| refine stop_here ?_)
local macro_rules | `(tactic| walk_at "pyIter ref") => `(tactic| refine stop_here ?_)
set_option maxHeartbeats 8000000 in
theorem segD {w : World} {p : Program} {loose : List Str} {mean : ExcName → Option Value} {mg mb : Str → Option Value} {s : Shared} {g : Heap} {L fa rowA kl ord : Addr} {cd : Value} {m : Str → Option Value} {rowV ks ov : List Value} {rs : List Int} {kn rn on : Nat} {o1 o2 o3 o4 o5 o6 : Obj} {ps : Array Value} {P : List (Addr × Obj)} {M fg : Int} {t tf : Tok} {v4 : Option Value} {Q : Flow → Shared → Prop} {E : Value → Shared → Prop}
    (X : (Mine.hd.heap_39 w.params).In g) (T : Top p loose mean mg mb g) (F : Fr g L s.heap m) (hrow : m (Str.ofString "row") = some (.ref rowA)) (hfig : m (Str.ofString "figures") = some (.int fg tf)) (hfg : fg = figs M)
    (N : News g L s.heap ((ord, W.listOf ov.toArray on) :: (kl, W.listOf ks.toArray kn) :: (rowA, W.listOf rowV.toArray rn) :: (L + 1 + 1 + 1 + 1 + 1 + 1, o6) :: (L + 1 + 1 + 1 + 1 + 1, o5) :: (L + 1 + 1 + 1 + 1, o4) :: (L + 1 + 1 + 1, o3) :: (L + 1 + 1, o2) :: (L + 1, o1) :: (16, tabObj ps) :: P))
    (d1 : o1.data = .cell (some (.int M t))) (d2 : o2.data = .cell (some (.ref kl))) (d3 : o3.data = .cell (some (.ref ord))) (d4 : o4.data = .cell v4)
    (hM : M = 4 ∨ M = 8) (hI : IntsAre rowV rs) (hlen : (rs.length : Int) = M) (hK : KV P ks (kvv rs) 1 (2 * rs.length)) (hPL : PL P ov (ordL M (2 * M - 1).toNat))
    (hE : PassesOwn (model PySem.Challenge.rw_hf0004_01.row.prog w) (callerA.deeper (lawEnv w L fa cd)) (lawEnv w L fa cd) E)
    (hap : ∀ q ∈ ((ord, W.listOf ov.toArray on) :: (kl, W.listOf ks.toArray kn) :: (rowA, W.listOf rowV.toArray rn) :: (16, tabObj ps) :: P), q.1 ≠ L + 1 + 1 + 1 + 1)
    (h : ∀ m' o4' v' h' tk', Fr g L h' m' → (∀ z, z ≠ Str.ofString "low" → z ≠ Str.ofString "high" → z ≠ Str.ofString "taken" → m' z = m z) →
      News g L h' ((ord, W.listOf ov.toArray on) :: (kl, W.listOf ks.toArray kn) :: (rowA, W.listOf rowV.toArray rn) :: (L + 1 + 1 + 1 + 1 + 1 + 1, o6) :: (L + 1 + 1 + 1 + 1 + 1, o5) :: (L + 1 + 1 + 1 + 1, o4') :: (L + 1 + 1 + 1, o3) :: (L + 1 + 1, o2) :: (L + 1, o1) :: (16, tabObj ps) :: P) →
      o4'.data = .cell v' → Q .next { s with heap := h', toks := tk' }) :
    wpAny (model PySem.Challenge.rw_hf0004_01.row.prog w) (callerA.deeper (lawEnv w L fa cd)) (exec (lawAt w 7) (lawEnv w L fa cd)) Q E s := by
  revert X; k_fill; intro X
  have hM8 : M ≤ 8 := m48le hM
  have hM4 : 4 ≤ M := m48ge hM
  have hrs8 : rs.length ≤ 8 := r48le hM hlen
  have hrs4 : 4 ≤ rs.length := r48ge hM hlen
  revert hE
  show PassesOwn _ (callerA.deeper (envOfC _ ⟨_, _, _, _, _⟩ _ _ _)) (envOfC _ ⟨_, _, _, _, _⟩ _ _ _) _ → wpAny _ (callerA.deeper (envOfC _ ⟨_, _, _, _, _⟩ _ _ _)) (exec (Stmt.For _ _ _ _ _) (envOfC _ ⟨_, _, _, _, _⟩ _ _ _)) _ _ _
  intro hE
  have F₀ := fr_name (fr_name F hrow) (a := Str.ofString "figures") (v := some (.int fg tf)) (by rw [if_neg (by decide)]; exact hfig)
  clear F
  k_with_none
  w_top off
  refine For_invVF F₀ (by exact rfl) (by exact rfl) ?_ (hE := hE)
  k_steps
  show wpAny _ _ _ _ _ _
  rename IsRange _ _ _ _ _ _ _ _ => rgX
  rename Fr _ _ _ _ => F₁
  rename News _ _ _ _ => N₁
  refine rloop [Str.ofString "high", Str.ofString "taken"] (n := M.toNat) (fun i nx => ∃ o4' v', nx = (ord, W.listOf ov.toArray on) :: (kl, W.listOf ks.toArray kn) :: (rowA, W.listOf rowV.toArray rn) :: (L + 1 + 1 + 1 + 1 + 1 + 1, o6) :: (L + 1 + 1 + 1 + 1 + 1, o5) :: (L + 1 + 1 + 1 + 1, o4') :: (L + 1 + 1 + 1, o3) :: (L + 1 + 1, o2) :: (L + 1, o1) :: (16, tabObj ps) :: P ∧ o4'.data = .cell v') rfl rgX
      (by rcases hM with e | e <;> subst e <;> rfl) (by rcases hM with e | e <;> rw [e] <;> rfl) F₁ N₁ (fun p hp => hp) ⟨o4, v4, rfl, d4⟩ ?_ ?_
  · rintro i ti u nx h₅ tk₅ own hi hoff ⟨o4', v', rfl, d4'⟩ F₅ N₅
    simp only [List.cons_append] at N₅
    clear F₁ N₁ rgX
    have ei : (0 + (i : Int) * 1) = (i : Int) := by omega
    rw [ei] at F₅
    show wpAny _ _ _ _ _ _
    (try k_fold)
    k_steps
    show wpAny _ _ _ _ _ _
    rename Fr _ _ _ _ => F₆
    rename News _ _ _ _ => N₆
    rename IsRange _ _ _ _ _ _ _ _ => rgX
    have hiM : (i : Int) < M := by omega
    refine rloop [Str.ofString "taken"] (n := (M - i).toNat) (fun k nx => ∃ o4' v', nx = (ord, W.listOf ov.toArray on) :: (kl, W.listOf ks.toArray kn) :: (rowA, W.listOf rowV.toArray rn) :: (L + 1 + 1 + 1 + 1 + 1 + 1, o6) :: (L + 1 + 1 + 1 + 1 + 1, o5) :: (L + 1 + 1 + 1 + 1, o4') :: (L + 1 + 1 + 1, o3) :: (L + 1 + 1, o2) :: (L + 1, o1) :: (16, tabObj ps) :: (P ++ own) ∧ o4'.data = .cell v') rfl rgX
      (by have : i = 0 ∨ i = 1 ∨ i = 2 ∨ i = 3 ∨ i = 4 ∨ i = 5 ∨ i = 6 ∨ i = 7 := by omega
          rcases hM with e | e <;> subst e <;> rcases this with e | e | e | e | e | e | e | e <;> subst e <;> rfl)
      (by have : i = 0 ∨ i = 1 ∨ i = 2 ∨ i = 3 ∨ i = 4 ∨ i = 5 ∨ i = 6 ∨ i = 7 := by omega
          rcases hM with e | e <;> subst e <;> rcases this with e | e | e | e | e | e | e | e <;> subst e <;> rfl) F₆ N₆ (fun p hp => hp) ⟨o4', v', rfl, d4'⟩ ?_ ?_
    · rintro k tk' u' nx h₇ tk₇ own₂ hk hoff₂ ⟨o4₂, v₂, rfl, d4₂⟩ F₇ N₇
      simp only [List.cons_append] at N₇
      clear F₆ N₆ rgX
      have ek : ((i : Int) + 1 + (k : Int) * 1) = ((i + k + 1 : Nat) : Int) := by omega
      rw [ek] at F₇
      generalize hhi : ((i + k + 1 : Nat) : Int) = hi at F₇
      have h4 : ∀ q ∈ (P ++ own) ++ own₂, q.1 ≠ L + 1 + 1 + 1 + 1 := fun q hq => by
        rcases List.mem_append.mp hq with e | e
        · rcases List.mem_append.mp e with e | e
          · exact hap q (by simp only [List.mem_cons, e, or_true])
          · exact hoff q e _ (by k_mem)
        · exact hoff₂ q e _ (by k_mem)
      have hmo : ∀ q ∈ P, q ∈ (P ++ own) ++ own₂ := fun q hq => List.mem_append.mpr (.inl (List.mem_append.mpr (.inl hq)))
      refine segIa (fa := fa) (cd := cd) X T F₇ rfl rfl hfg rfl rfl N₇ d1 d2 d3 d4₂ hM hI hlen (hK.mono hmo) (hPL.mono hmo) (by omega) (by omega) (by omega) hE (hap (ord, W.listOf ov.toArray on) (by k_mem)) (hap (kl, W.listOf ks.toArray kn) (by k_mem)) (hap (rowA, W.listOf rowV.toArray rn) (by k_mem)) (hap (16, tabObj ps) (by k_mem)) h4 ?_
      intro m' T1 tv tn js D ys o4n P' hq' tkq Fm hm' htk N' d4n hIt hjs hjt hPP hk
      refine segIb (fa := fa) (cd := cd) X T Fm (fg := fg) (tf := tf) ((hm' _ (by decide)).trans rfl) hfg htk N' d1 d2 d3 d4n hM hIt hjs hPP (hPL.mono hmo) hk hE ?_
      intro m₂ h'' tk'' F'' hm'' N''
      refine segIc (fa := fa) (cd := cd) X T F'' (rowA := rowA) (lo := i) (tl := ti) (hi := hi) (th := tk') ((hm'' _).trans htk) ((hm'' _).trans ((hm' _ (by decide)).trans rfl)) ((hm'' _).trans ((hm' _ (by decide)).trans rfl)) ((hm'' _).trans ((hm' _ (by decide)).trans rfl)) N'' d1 d2 d3 hM hI hlen (hK.mono (fun q hq => hPP q (hmo q hq))) hIt hjs hjt (by omega) (by omega) (by omega) hE ?_
      intro m₃ h₃ tk₃ F₃ hm₃ N₃
      show InvEndG _ _ _ _ _ _
      refine rj_end ((ord, W.listOf ov.toArray on) :: (kl, W.listOf ks.toArray kn) :: (rowA, W.listOf rowV.toArray rn) :: (L + 1 + 1 + 1 + 1 + 1 + 1, o6) :: (L + 1 + 1 + 1 + 1 + 1, o5) :: (L + 1 + 1 + 1 + 1, o4n) :: (L + 1 + 1 + 1, o3) :: (L + 1 + 1, o2) :: (L + 1, o1) :: (16, tabObj ps) :: (P ++ own)) F₃ N₃ ?_ ?_ hoff₂ ⟨o4n, _, rfl, d4n⟩ ?_
      · intro q hq
        simp only [List.mem_cons] at hq ⊢
        rcases hq with e | e | e | e | e | e | e | e | e | e | e
        all_goals first
          | simp only [e, true_or, or_true]
          | simp only [hPP q (List.mem_append.mpr (.inl e)), or_true]
      · intro q hq
        simp only [List.mem_cons]
        simp only [hPP q (List.mem_append.mpr (.inr hq)), or_true]
      · intro z h1 h2
        simp only [List.contains_cons, List.contains_nil, Bool.or_false, beq_eq_false_iff_ne, ne_eq] at h2
        rw [hm₃, hm'', hm' z h2]
        simp [h1, h2]
    · rintro u' nx h₇ tk₇ ⟨o4₂, v₂, rfl, d4₂⟩ F₇ N₇
      show wpAny _ _ _ _ _ _
      (try k_fold)
      k_steps
      show InvEndG _ _ _ _ _ _
      rename Fr _ _ _ _ => F₈
      rename News _ _ _ _ => N₈
      refine rj_end ((ord, W.listOf ov.toArray on) :: (kl, W.listOf ks.toArray kn) :: (rowA, W.listOf rowV.toArray rn) :: (L + 1 + 1 + 1 + 1 + 1 + 1, o6) :: (L + 1 + 1 + 1 + 1 + 1, o5) :: (L + 1 + 1 + 1 + 1, o4₂) :: (L + 1 + 1 + 1, o3) :: (L + 1 + 1, o2) :: (L + 1, o1) :: (16, tabObj ps) :: P) F₈ N₈ ?_ ?_ hoff ⟨o4₂, _, rfl, d4₂⟩ ?_
      · intro q hq
        simp only [List.mem_cons, List.mem_append] at hq ⊢
        rcases hq with e | e | e | e | e | e | e | e | e | e | e <;> simp only [e, true_or, or_true]
      · intro q hq
        simp only [List.mem_cons, List.mem_append]
        simp only [hq, or_true]
      · intro z h1 h2
        simp only [List.contains_cons, List.contains_nil, Bool.or_false, Bool.or_eq_false_iff, beq_eq_false_iff_ne, ne_eq] at h2
        simp [h1, h2]
  · rintro u nx h₅ tk₅ ⟨o4', v', rfl, d4'⟩ F₅ N₅
    refine h _ o4' v' h₅ tk₅ F₅ ?_ N₅ d4'
    intro z h1 h2 h3
    by_cases h4 : z = Str.ofString "row"
    · subst h4; rw [hrow]; rfl
    by_cases h5 : z = Str.ofString "figures"
    · subst h5; rw [hfig]; rfl
    · simp [h1, h2, h3, h4, h5]
end
section
open PySem PySem.W PyProof.Rows PySem.Calls PyProof.V PySem.Spec
set_option maxRecDepth 100000
local macro_rules | `(tactic| walk_at "call builtin:sorted") => `(tactic| refine stop_here ?_)
local macro_rules | `(tactic| walk_at "call type:dict") => `(tactic| refine stop_here ?_)
local macro_rules | `(tactic| walk_at "CompSrc") => `(tactic| refine stop_here ?_)
set_option maxHeartbeats 8000000 in
theorem segC {w : World} {p : Program} {loose : List Str} {mean : ExcName → Option Value} {mg mb : Str → Option Value} {s : Shared} {g : Heap} {L fa rowA kl ord : Addr} {cd : Value} {m : Str → Option Value} {rowV ks ov : List Value} {kn rn on : Nat} {o1 o2 o3 o4 o5 o6 : Obj} {ps : Array Value} {P : List (Addr × Obj)} {M : Int} {t : Tok} {Q : Flow → Shared → Prop} {E : Value → Shared → Prop}
    (X : (Mine.hd.heap_39 w.params).In g) (T : Top p loose mean mg mb g) (F : Fr g L s.heap m)
    (N : News g L s.heap ((ord, W.listOf ov.toArray on) :: (kl, W.listOf ks.toArray kn) :: (rowA, W.listOf rowV.toArray rn) :: (L + 1 + 1 + 1 + 1 + 1 + 1, o6) :: (L + 1 + 1 + 1 + 1 + 1, o5) :: (L + 1 + 1 + 1 + 1, o4) :: (L + 1 + 1 + 1, o3) :: (L + 1 + 1, o2) :: (L + 1, o1) :: (16, tabObj ps) :: P))
    (d1 : o1.data = .cell (some (.int M t))) (d3 : o3.data = .cell (some (.ref ord)))
    (hM : M = 4 ∨ M = 8) (hPL : PL P ov (ordL M (2 * M - 1).toNat))
    (hE : PassesOwn (model PySem.Challenge.rw_hf0004_01.row.prog w) (callerA.deeper (lawEnv w L fa cd)) (lawEnv w L fa cd) E)
    (h : ∀ h' tk', Fr g L h' m → News g L h' ((ord, W.listOf ov.toArray on) :: (kl, W.listOf ks.toArray kn) :: (rowA, W.listOf rowV.toArray rn) :: (L + 1 + 1 + 1 + 1 + 1 + 1, o6) :: (L + 1 + 1 + 1 + 1 + 1, o5) :: (L + 1 + 1 + 1 + 1, o4) :: (L + 1 + 1 + 1, o3) :: (L + 1 + 1, o2) :: (L + 1, o1) :: (16, tabObj ps) :: P) → Q .next { s with heap := h', toks := tk' }) :
    wpAny (model PySem.Challenge.rw_hf0004_01.row.prog w) (callerA.deeper (lawEnv w L fa cd)) (exec (lawAt w 6) (lawEnv w L fa cd)) Q E s := by
  revert X; k_fill; intro X
  have hM8 : M ≤ 8 := m48le hM
  have hM4 : 4 ≤ M := m48ge hM
  revert hE
  show PassesOwn _ (callerA.deeper (envOfC _ ⟨_, _, _, _, _⟩ _ _ _)) (envOfC _ ⟨_, _, _, _, _⟩ _ _ _) _ → wpAny _ (callerA.deeper (envOfC _ ⟨_, _, _, _, _⟩ _ _ _)) (exec (Stmt.If _ _ _ _) (envOfC _ ⟨_, _, _, _, _⟩ _ _ _)) _ _ _
  intro hE
  have hlen := hPL.length
  rw [ordL_len] at hlen
  have hrun : kasRun (fun i j => ltp ((ordL M (2 * M - 1).toNat).getD i (0, 0)) ((ordL M (2 * M - 1).toNat).getD j (0, 0))) (ordL M (2 * M - 1).toNat).length (kas_sort (ordL M (2 * M - 1).toNat).length) = some (List.toArray (List.range (ordL M (2 * M - 1).toNat).length)) := by
    rw [ordL_len]
    rcases hM with rfl | rfl
    · exact sorted4
    · exact sorted8
  k_with_none
  w_top off
  k_steps
  show wpAny _ _ _ _ _ _
  rename Fr _ _ _ _ => F₁
  rename News _ _ _ _ => N₁
  refine sorted_pl F₁ N₁ ⟨_, News.get N₁ (show (ord, _) ∈ _ from by k_mem), rfl, _, rfl⟩ hPL (fun q hq => by simp only [List.mem_cons, hq, or_true]) (by rw [ordL_len]; omega) (by rw [ordL_len]; omega) hrun ?_
  intro D' c' h' F' N' l1
  (try dsimp only at F' N')
  clear F₁ N₁
  show wpAny _ _ _ _ _ _
  (try k_fold)
  k_steps
  show wpAny _ _ _ _ _ _
  refine ne_same (items := ov.toArray) (by first | units_room | exact Nat.le_of_ble_eq_true rfl) ⟨_, News.get N' (show (ord, _) ∈ _ from by k_mem), rfl, _, rfl⟩ ⟨_, News.get N' (.head _), rfl, _, rfl⟩ ?_
  show wpAny _ _ _ _ _ _
  (try k_fold)
  k_steps
  · exact absurd (Int.toNat_of_nonneg (by omega)) (by assumption)
  show LCg.CompSrc _ _ _ _ _ _ _ _ _ _ _ _ _ _
  rename Fr _ _ _ _ => F₂
  rename News _ _ _ _ => N₂
  refine LCg.CompSrc.ledger (its := ov.toArray) rfl F₂ N₂ (by k_mem) (by rw [List.size_toArray, hlen]; simp [sizeLine]; omega) (fun gh => comp_ind (fun i ys nx => ∃ P', nx = (D', W.listOf ov.toArray c') :: (ord, W.listOf ov.toArray on) :: (kl, W.listOf ks.toArray kn) :: (rowA, W.listOf rowV.toArray rn) :: (L + 1 + 1 + 1 + 1 + 1 + 1, o6) :: (L + 1 + 1 + 1 + 1 + 1, o5) :: (L + 1 + 1 + 1 + 1, o4) :: (L + 1 + 1 + 1, o3) :: (L + 1 + 1, o2) :: (L + 1, o1) :: (16, tabObj ps) :: P' ∧ (∀ q ∈ P, q ∈ P') ∧ PR P' ys ov i) ⟨P, rfl, fun _ q => q, rfl, fun j hj => absurd hj (Nat.not_lt_zero _)⟩ ?_ ?_)
  · rintro i v I oI C oC D m₂ ys nx hh tk E' hi' hv ⟨P', rfl, hPP, hk⟩ hC hx F' N' off ne
    obtain ⟨a', t', u', n', e1, m1⟩ := hPL.get i (by rw [ordL_len]; rw [List.size_toArray] at hi'; omega)
    have hvv : v = .ref a' := by
      have e2 : ov[i]? = some v := by simpa using hv
      rw [e1] at e2; exact (Option.some.inj e2).symm
    subst hvv
    show wpAny _ _ _ _ _ _
    (try k_fold)
    k_steps
    rename Fr _ _ _ _ => F₄
    rename News _ _ _ _ => N₄
    rename_i T' _ l4
    refine LCg.CompEnd.intro F₄ N₄ ((D', W.listOf ov.toArray c') :: (ord, W.listOf ov.toArray on) :: (kl, W.listOf ks.toArray kn) :: (rowA, W.listOf rowV.toArray rn) :: (L + 1 + 1 + 1 + 1 + 1 + 1, o6) :: (L + 1 + 1 + 1 + 1 + 1, o5) :: (L + 1 + 1 + 1 + 1, o4) :: (L + 1 + 1 + 1, o3) :: (L + 1 + 1, o2) :: (L + 1, o1) :: (16, tabObj ps) :: (T', prO a' tk 0) :: P') ?_ ?_ (.inr ⟨_, .tail _ (.head _), rfl, _, rfl⟩) ⟨(T', prO a' tk 0) :: P', rfl, fun q hq => .tail _ (hPP q hq), hk.snoc (fun q hq => .tail _ hq) e1 (.head _)⟩
    · intro q hq
      simp only [List.mem_cons] at hq ⊢
      rcases hq with e | e | e | e | e | e | e | e | e | e | e | e | e | e | e | e <;> simp only [e, true_or, or_true]
    · refine LCg.Off3.of fun q hq => ?_
      have hq' : q = (T', prO a' tk 0) ∨ q ∈ (D', W.listOf ov.toArray c') :: (ord, W.listOf ov.toArray on) :: (kl, W.listOf ks.toArray kn) :: (rowA, W.listOf rowV.toArray rn) :: (L + 1 + 1 + 1 + 1 + 1 + 1, o6) :: (L + 1 + 1 + 1 + 1 + 1, o5) :: (L + 1 + 1 + 1 + 1, o4) :: (L + 1 + 1 + 1, o3) :: (L + 1 + 1, o2) :: (L + 1, o1) :: (16, tabObj ps) :: P' := by
        simp only [List.mem_cons] at hq ⊢
        rcases hq with e | e | e | e | e | e | e | e | e | e | e | e | e <;> simp only [e, true_or, or_true]
      rcases hq' with e | e
      · rw [e]; exact ⟨Nat.ne_of_gt l4.1, Nat.ne_of_gt l4.2.1, Nat.ne_of_gt l4.2.2.1⟩
      · exact off.mem q e
  · rintro ys nx ⟨P', rfl, hPP, hk⟩ D h₂ tk₂ F₃ N₃ off₂
    show wpAny _ _ _ _ _ _
    (try k_fold)
    k_steps
    show wpAny _ _ _ _ _ _
    rw [List.size_toArray, hlen] at hk
    have k1 : ∀ q ∈ P', h₂.get? q.1 = some q.2 := fun q hq => (N₃ q (by simp only [List.mem_cons, hq, or_true])).1
    refine call_dict_pairs (l := D) (items := ys.toArray) (κ := kap (ordL M (2 * M - 1).toNat)) (nl := ys.length) rfl (by first | units_room | exact Nat.le_of_ble_eq_true rfl) (N₃ _ (.head _)).1 (hk.pairs hPL (by rw [ordL_len]; exact Nat.le_refl _) k1 (fun q hq => k1 q (hPP q hq))) ?_ (by rw [List.size_toArray, hk.1]; omega) ?_
    · rw [List.size_toArray, hk.1]
      rcases hM with rfl | rfl
      · exact fun i j hi hj => kap4 i hi j hj
      · exact fun i j hi hj => kap8 i hi j hj
    intro Dd h₅ tk₅ hdd hk₅ hlt₅
    obtain ⟨xs, hdx, hxl⟩ := hdd
    rw [List.size_toArray, hk.1] at hxl
    have hDd : (Dd == sysModules) = false := beq_eq_false_iff_ne.mpr (Nat.ne_of_gt (Nat.lt_of_lt_of_le (Nat.lt_of_lt_of_le (show 1 < 16 by decide) (Nat.le_of_lt (Heap.lt_size (N₃ (16, tabObj ps) (by k_mem)).1))) hlt₅))
    have F₅ := fr_keeps F₃ hk₅
    have N₅ := news_keeps N₃ hk₅
    clear N₂ F₂ N₃ F₃ hk₅ k1
    (try dsimp only at F₅ N₅)
    k_with "call builtin:len" => refine stop_here ?_
    show wpAny _ _ _ _ _ _
    (try k_fold)
    k_steps
    show wpAny _ _ _ _ _ _
    refine len_dictH hDd hdx (by rw [hxl]; omega) ?_
    rw [hxl]
    k_with "call builtin:len" => (k_here; (with_reducible show wpAny _ _ (call (Value.builtin "len") [Value.ref _]) _ _ _); k_dflt (refine' len_n ?l ?e ?k ?_; (case l => exact ⟨_, News.get (by k_asm) (by k_mem), rfl, _, rfl⟩); (case e => assumption); (case k => omega)))
    show wpAny _ _ _ _ _ _
    (try k_fold)
    k_steps
    · exact absurd rfl (by assumption)
    show Q _ _
    refine h _ _ F₅ fun q hq => N₅ q (List.mem_cons_of_mem _ (List.mem_cons_of_mem _ ?_))
    simp only [List.mem_cons] at hq ⊢
    rcases hq with e | e | e | e | e | e | e | e | e | e | e
    all_goals first
      | simp only [e, true_or, or_true]
      | simp only [hPP q e, or_true]
end
section
open PySem PySem.W PyProof.Rows PySem.Calls PyProof.V PySem.Spec
set_option maxRecDepth 100000
local macro_rules | `(tactic| walk_at "no such key 8") => `(tactic| skip)
local macro_rules | `(tactic| tb_rel) => `(tactic| first | assumption | exact List.Mem.head _ | (refine List.Mem.tail _ ?_; tb_rel))
local macro_rules | `(tactic| walk_at "subscriptTail") => `(tactic| (k_here; (with_reducible show wpAny _ _ (subscriptTail _ _ (Value.ref _) (Value.int _ _)) _ _ _); k_dflt (refine' kv_item ?N ?m ?P ?a ?b ?c ?_; (case N => k_asm); (case m => k_mem); (case P => assumption); (case a => omega); (case b => omega); (case c => omega)); intro b' t' u' n' hT'))
local macro_rules | `(tactic| walk_at "CompSrc") => `(tactic| refine stop_here ?_)
local macro_rules | `(tactic| walk_at "CompSrcT") => `(tactic| refine stop_here ?_)
set_option maxHeartbeats 8000000 in
theorem segE {w : World} {p : Program} {loose : List Str} {mean : ExcName → Option Value} {mg mb : Str → Option Value} {s : Shared} {g : Heap} {L fa rowA kl ord la : Addr} {cd : Value} {m : Str → Option Value} {lvs rowV ks ov : List Value} {ns rs : List Int} {kn rn on : Nat} {o1 o2 o3 o4 o5 o6 : Obj} {ps : Array Value} {P : List (Addr × Obj)} {M fg : Int} {t tf : Tok} {v5 v6 : Option Value} {Q : Flow → Shared → Prop} {E : Value → Shared → Prop}
    (X : (Mine.hd.heap_39 w.params).In g) (T : Top p loose mean mg mb g) (F : Fr g L s.heap m) (hrow : m (Str.ofString "row") = some (.ref rowA)) (hscr : m (Str.ofString "script") = some (.ref la)) (hfig : m (Str.ofString "figures") = some (.int fg tf)) (hfg : fg = figs M)
    (N : News g L s.heap ((ord, W.listOf ov.toArray on) :: (kl, W.listOf ks.toArray kn) :: (rowA, W.listOf rowV.toArray rn) :: (L + 1 + 1 + 1 + 1 + 1 + 1, o6) :: (L + 1 + 1 + 1 + 1 + 1, o5) :: (L + 1 + 1 + 1 + 1, o4) :: (L + 1 + 1 + 1, o3) :: (L + 1 + 1, o2) :: (L + 1, o1) :: (16, tabObj ps) :: P))
    (d1 : o1.data = .cell (some (.int M t))) (d2 : o2.data = .cell (some (.ref kl))) (d5 : o5.data = .cell v5) (d6 : o6.data = .cell v6)
    (hM : M = 4 ∨ M = 8) (hLs : g.IsList la lvs.toArray) (hIl : IntsAre lvs ns) (hn63 : ns.length ≤ 63) (hI : IntsAre rowV rs) (hlen : (rs.length : Int) = M) (hK : KV P ks (kvv rs) 1 (2 * rs.length))
    (hE : PassesOwn (model PySem.Challenge.rw_hf0004_01.row.prog w) (callerA.deeper (lawEnv w L fa cd)) (lawEnv w L fa cd) E)
    (h16 : @LT.lt Nat _ 16 L) (hkl5 : @Ne Nat kl (L + 1 + 1 + 1 + 1 + 1)) (hkl6 : @Ne Nat kl (L + 1 + 1 + 1 + 1 + 1 + 1)) (hro5 : @Ne Nat rowA (L + 1 + 1 + 1 + 1 + 1)) (hro6 : @Ne Nat rowA (L + 1 + 1 + 1 + 1 + 1 + 1)) (hod5 : @Ne Nat ord (L + 1 + 1 + 1 + 1 + 1)) (hod6 : @Ne Nat ord (L + 1 + 1 + 1 + 1 + 1 + 1)) (hP5 : ∀ q ∈ P, q.1 ≠ L + 1 + 1 + 1 + 1 + 1) (hP6 : ∀ q ∈ P, q.1 ≠ L + 1 + 1 + 1 + 1 + 1 + 1)
    (h : ∀ h' tk', (∀ b o, g.get? b = some o → h'.get? b = some o) → (∃ ps, h'.get? 16 = some (tabObj ps)) → Q (.ret (.bool true)) { s with heap := h', toks := tk' }) :
    wpAny (model PySem.Challenge.rw_hf0004_01.row.prog w) (callerA.deeper (lawEnv w L fa cd)) (execs ((lawBody w).drop 8) (lawEnv w L fa cd)) Q E s := by
  revert X; k_fill; intro X
  have hM8 : M ≤ 8 := m48le hM
  have hM4 : 4 ≤ M := m48ge hM
  have hrs8 : rs.length ≤ 8 := r48le hM hlen
  have hrs4 : 4 ≤ rs.length := r48ge hM hlen
  revert hE
  show PassesOwn _ (callerA.deeper (envOfC _ ⟨_, _, _, _, _⟩ _ _ _)) (envOfC _ ⟨_, _, _, _, _⟩ _ _ _) _ → wpAny _ (callerA.deeper (envOfC _ ⟨_, _, _, _, _⟩ _ _ _)) (execs (_ :: _ :: _ :: _ :: []) (envOfC _ ⟨_, _, _, _, _⟩ _ _ _)) _ _ _
  intro hE
  have F₀ := fr_name (fr_name (fr_name F hrow) (a := Str.ofString "figures") (v := some (.int fg tf)) (by rw [if_neg (by decide)]; exact hfig)) (a := Str.ofString "script") (v := some (.ref la)) (by rw [if_neg (by decide), if_neg (by decide)]; exact hscr)
  clear F
  have hpl0 : 0 ≤ ns.sum.fmod M := Int.fmod_nonneg_of_pos _ (by omega)
  have hpl1 : ns.sum.fmod M < M := Int.fmod_lt_of_pos _ (by omega)
  have hpl2 : 0 ≤ ns.sum.fmod M + 1 := by omega
  k_with_none
  w_top off
  k_steps
  show wpAny _ _ _ _ _ _
  rename Fr _ _ _ _ => F₁
  rename News _ _ _ _ => N₁
  rename IntsAre _ (_ ++ _) => hB
  rename Obj => o5n
  rename o5n.data = _ => d5n
  have hbl : (bump rs (ns.sum.fmod M)).length = rs.length := bump_len hpl0 (by omega)
  refine kept_c (rs := bump rs (ns.sum.fmod M)) (dp := _) (un := _) (fr := _) (gd := _) (by decide) (by decide) (X.keeps F₁.keep) (T.keeps F₁.keep) ⟨_, (N₁ _ (.head _)).1, rfl, _, rfl⟩ hB (by omega) ?_
  intro kl2 ks2 kn2 P2 h₃ tk₃ hkk hnew hK2
  rw [hbl] at hK2
  have F₂ := fr_keeps F₁ hkk
  have N₁b := fun q (hq : q ∈ (ord, W.listOf ov.toArray on) :: (kl, W.listOf ks.toArray kn) :: (rowA, W.listOf rowV.toArray rn) :: (L + 1 + 1 + 1 + 1 + 1 + 1, o6) :: (L + 1 + 1 + 1 + 1 + 1, o5n) :: (L + 1 + 1 + 1 + 1, o4) :: (L + 1 + 1 + 1, o3) :: (L + 1 + 1, o2) :: (L + 1, o1) :: (16, tabObj ps) :: P) => N₁ q (List.Mem.tail _ (List.Mem.tail _ (List.Mem.tail _ (List.Mem.tail _ (List.Mem.tail _ hq)))))
  have N₂ : News g L h₃ ((kl2, W.listOf ks2.toArray kn2) :: (ord, W.listOf ov.toArray on) :: (kl, W.listOf ks.toArray kn) :: (rowA, W.listOf rowV.toArray rn) :: (L + 1 + 1 + 1 + 1 + 1 + 1, o6) :: (L + 1 + 1 + 1 + 1 + 1, o5n) :: (L + 1 + 1 + 1 + 1, o4) :: (L + 1 + 1 + 1, o3) :: (L + 1 + 1, o2) :: (L + 1, o1) :: (16, tabObj ps) :: (P ++ P2)) := fun q hq => by
    have hq' : q ∈ (kl2, W.listOf ks2.toArray kn2) :: P2 ∨ q ∈ (ord, W.listOf ov.toArray on) :: (kl, W.listOf ks.toArray kn) :: (rowA, W.listOf rowV.toArray rn) :: (L + 1 + 1 + 1 + 1 + 1 + 1, o6) :: (L + 1 + 1 + 1 + 1 + 1, o5n) :: (L + 1 + 1 + 1 + 1, o4) :: (L + 1 + 1 + 1, o3) :: (L + 1 + 1, o2) :: (L + 1, o1) :: (16, tabObj ps) :: P := by
      simp only [List.mem_cons, List.mem_append] at hq ⊢
      rcases hq with e | e | e | e | e | e | e | e | e | e | e | e | e <;> simp only [e, true_or, or_true]
    rcases hq' with e | e
    · exact new1 F₁ (hnew q e).2 (hnew q e).1
    · exact ⟨hkk _ _ (N₁b q e).1, (N₁b q e).2⟩
  have hk26 : @Ne Nat kl2 (L + 1 + 1 + 1 + 1 + 1 + 1) := ne_new (N₁b (L + 1 + 1 + 1 + 1 + 1 + 1, o6) (by k_mem)).1 (hnew (kl2, _) (.head _)).2
  have hPP6 : ∀ q ∈ P ++ P2, q.1 ≠ L + 1 + 1 + 1 + 1 + 1 + 1 := fun q hq => (List.mem_append.mp hq).elim (hP6 q) fun e => ne_new (N₁b (L + 1 + 1 + 1 + 1 + 1 + 1, o6) (by k_mem)).1 (hnew q (.tail _ e)).2
  replace hK : KV (P ++ P2) ks (kvv rs) 1 (2 * rs.length) := hK.mono (fun q hq => List.mem_append.mpr (.inl hq))
  replace hK2 : KV (P ++ P2) ks2 (kvv (bump rs (ns.sum.fmod M))) 1 (2 * rs.length) := hK2.mono (fun q hq => List.mem_append.mpr (.inr hq))
  clear N₁b F₁ N₁ hkk hnew hP5 hP6 hB
  generalize P ++ P2 = Pt at N₂ hPP6 hK hK2
  (try dsimp only at F₂)
  show wpAny _ _ _ _ _ _
  (try k_fold)
  k_steps
  show LCt.CompSrcT _ _ _ _ _ _ _ _ _ _ _ _ _ _ _
  rename IsRange _ _ _ _ _ _ _ _ => rgX
  rename Fr _ _ _ _ => F₃
  rename News _ _ _ _ => N₃
  rename Obj => o6n
  rename o6n.data = _ => d6n
  generalize hpl : ns.sum.fmod M = pl at *
  have ecs : (2 * M - 1).toNat = (2 * M - 1).toNat := rfl
  refine LCt.CompSrcT.range (n := (2 * M - 1).toNat) rfl F₃ N₃ rgX (small_one (by omega) (by omega) (by omega) (by omega)) (by rw [rangeSize_nat]) (by simp [sizeLine]; omega) (fun gh => compT_ind (fun i zs nx => IntsAre zs (chg M pl i) ∧ nx = (kl2, W.listOf ks2.toArray kn2) :: (ord, W.listOf ov.toArray on) :: (kl, W.listOf ks.toArray kn) :: (rowA, W.listOf rowV.toArray rn) :: (L + 1 + 1 + 1 + 1 + 1 + 1, o6n) :: (L + 1 + 1 + 1 + 1 + 1, o5n) :: (L + 1 + 1 + 1 + 1, o4) :: (L + 1 + 1 + 1, o3) :: (L + 1 + 1, o2) :: (L + 1, o1) :: (16, tabObj ps) :: Pt) ⟨.nil, rfl⟩ ?_ ?_)
  · rintro i v I oI C oC D2 m₂ zs nx hh tk E' hi' ⟨tk', rfl⟩ ⟨hz, rfl⟩ hC hx F' N' off ne
    have hbn := bump_ne hM hlen hpl0 hpl1 (j := 1 + (i : Int)) (by omega) (by omega)
    clear F₃ N₃
    show wpAny _ _ _ _ _ _
    (try k_fold)
    k_steps
    all_goals
      rename Fr _ _ _ _ => F₆
      rename News _ _ _ _ => N₆
    all_goals first
      | exact LCg.CompEnd.intro F₆ N₆ _ (fun _ h => h) off trivial ⟨by rw [chg_succ, if_pos (hbn.mp (by assumption))]; exact ints_snoc hz, rfl⟩
      | exact LCg.CompEnd.intro F₆ N₆ _ (fun _ h => h) off trivial ⟨by rw [chg_succ, if_neg (fun q => hbn.mpr q (by assumption)), List.append_nil]; exact hz, rfl⟩
  · rintro zs nx ⟨hz, rfl⟩ D2 h₅ tk₅ F₅ N₅ off₅
    have hzl : zs.length = figs M := by rw [hz.length]; exact chg_len hM hpl0 hpl1
    have hf4 : figs M ≤ 4 := by rcases hM with e | e <;> rw [e] <;> decide
    show wpAny _ _ _ _ _ _
    (try k_fold)
    k_steps
    all_goals first
      | exact absurd hfg.symm (by assumption)
      | skip
    show LCt.CompSrcT _ _ _ _ _ _ _ _ _ _ _ _ _ _ _
    rename Fr _ _ _ _ => F₆
    rename News _ _ _ _ => N₆
    have hzl' := hz.length
    refine LCt.CompSrcT.ledger (its := zs.toArray) rfl F₆ N₆ (.head _) (by rw [List.size_toArray, hzl]; simp [sizeLine]; omega) (fun gh => compT_ind (fun i zs' nx => zs' = [] ∧ nx = (D2, LCg.lst zs) :: (kl2, W.listOf ks2.toArray kn2) :: (ord, W.listOf ov.toArray on) :: (kl, W.listOf ks.toArray kn) :: (rowA, W.listOf rowV.toArray rn) :: (L + 1 + 1 + 1 + 1 + 1 + 1, o6n) :: (L + 1 + 1 + 1 + 1 + 1, o5n) :: (L + 1 + 1 + 1 + 1, o4) :: (L + 1 + 1 + 1, o3) :: (L + 1 + 1, o2) :: (L + 1, o1) :: (16, tabObj ps) :: Pt) ⟨rfl, rfl⟩ ?_ ?_)
    · rintro i v I oI C oC D3 m₂ zs' nx hh tk E' hi' hv ⟨rfl, rfl⟩ hC hx F' N' off ne
      obtain ⟨r, tr, rfl, hr⟩ := IntsAre.at hz i v (by simpa using hv)
      obtain ⟨r1, r2, r3⟩ := chg_mem (List.mem_of_getElem? hr)
      obtain ⟨r4, r5⟩ := of_decide_eq_true r3
      clear F₆ N₆
      show wpAny _ _ _ _ _ _
      (try k_fold)
      k_steps
      show wpAny _ _ _ _ _ _
      rename Fr _ _ _ _ => F₇
      rename News _ _ _ _ => N₇
      refine stretch_c (by decide) (X.keeps F₇.keep) (T.keeps F₇.keep) r1 (by omega) hM ?_
      intro a t3 t4 n h₅ tk₅ hk₅ ha₅ hg₅
      have F₈ := fr_keeps F₇ hk₅
      have N₈ : News g L h₅ ((a, tup2 (stp M r).1 t3 (stp M r).2 t4 n) :: (I, oI) :: (C, oC) :: (D3, LCg.lst []) :: (D2, LCg.lst zs) :: (kl2, W.listOf ks2.toArray kn2) :: (ord, W.listOf ov.toArray on) :: (kl, W.listOf ks.toArray kn) :: (rowA, W.listOf rowV.toArray rn) :: (L + 1 + 1 + 1 + 1 + 1 + 1, o6n) :: (L + 1 + 1 + 1 + 1 + 1, o5n) :: (L + 1 + 1 + 1 + 1, o4) :: (L + 1 + 1 + 1, o3) :: (L + 1 + 1, o2) :: (L + 1, o1) :: (16, tabObj ps) :: Pt) := fun q hq => by
        rcases List.mem_cons.mp hq with e | e
        · rw [e]; exact new1 F₇ ha₅ hg₅
        · exact news_keeps N₇ hk₅ q e
      clear F₇ N₇ hk₅ ha₅ hg₅
      (try dsimp only at F₈ N₈)
      show wpAny _ _ _ _ _ _
      (try k_fold)
      k_steps
      show wpAny _ _ _ _ _ _
      rename Fr _ _ _ _ => F₉
      rename News _ _ _ _ => N₉
      refine stretch_c (by decide) (X.keeps F₉.keep) (T.keeps F₉.keep) r1 (by omega) hM ?_
      intro a' t3' t4' n' h₇ tk₇ hk₇ ha₇ hg₇
      have F₁₀ := fr_keeps F₉ hk₇
      have N₁₀ : News g L h₇ ((a', tup2 (stp M r).1 t3' (stp M r).2 t4' n') :: (a, tup2 (stp M r).1 t3 (stp M r).2 t4 n) :: (I, oI) :: (C, oC) :: (D3, LCg.lst []) :: (D2, LCg.lst zs) :: (kl2, W.listOf ks2.toArray kn2) :: (ord, W.listOf ov.toArray on) :: (kl, W.listOf ks.toArray kn) :: (rowA, W.listOf rowV.toArray rn) :: (L + 1 + 1 + 1 + 1 + 1 + 1, o6n) :: (L + 1 + 1 + 1 + 1 + 1, o5n) :: (L + 1 + 1 + 1 + 1, o4) :: (L + 1 + 1 + 1, o3) :: (L + 1 + 1, o2) :: (L + 1, o1) :: (16, tabObj ps) :: Pt) := fun q hq => by
        rcases List.mem_cons.mp hq with e | e
        · rw [e]; exact new1 F₉ ha₇ hg₇
        · exact news_keeps N₉ hk₇ q e
      clear F₉ N₉ hk₇ ha₇ hg₇
      (try dsimp only at F₁₀ N₁₀)
      show wpAny _ _ _ _ _ _
      (try k_fold)
      k_steps
      rename Fr _ _ _ _ => F₁₁
      rename News _ _ _ _ => N₁₁
      exact LCg.CompEnd.intro F₁₁ N₁₁ _ (fun _ h => .tail _ (.tail _ h)) off (.inr ⟨_, .head _, rfl, _, rfl⟩) ⟨rfl, rfl⟩
    · rintro zs' nx ⟨rfl, rfl⟩ D3 h₆ tk₆ F₇ N₇ off₆
      show wpAny _ _ _ _ _ _
      (try k_fold)
      k_steps
      show Q _ _
      rename Fr _ _ _ _ => F₁₁
      rename News _ _ _ _ => N₁₁
      exact h _ _ F₁₁.keep ⟨_, (N₁₁ (16, tabObj ps) (by k_mem)).1⟩
end
section
open PySem PySem.W PyProof.Rows PySem.Calls PyProof.V PySem.Spec
set_option maxRecDepth 100000
theorem law_cutE {prog : Program} {w : World} {A : Around} {env : Env} {t : Sem Flow} {Q : Flow → Shared → Prop} {E : Value → Shared → Prop} {s : Shared} {g : Heap} {L : Addr} {m : Str → Option Value} (hF : Fr g L s.heap m) (hE : PassesOwn (model prog w) A env E)
    (h1 : ∀ (Q : Flow → Shared → Prop) (E : Value → Shared → Prop), PassesOwn (model prog w) A env E → (∀ h' tk', (∀ b o, g.get? b = some o → h'.get? b = some o) → (∃ ps, h'.get? 16 = some (tabObj ps)) → Q (.ret (.bool true)) { s with heap := h', toks := tk' }) → wpAny (model prog w) A t Q E s)
    (h2 : ∀ h' tk', (∀ b o, g.get? b = some o → h'.get? b = some o) → (∃ ps, h'.get? 16 = some (tabObj ps)) → Q (.ret (.bool true)) { s with heap := h', toks := tk' }) : wpAny (model prog w) A t Q E s := h1 Q E hE h2
theorem figs_le {m : Int} (h : m = 4 ∨ m = 8) : figs m ≤ 4 := by rcases h with e | e <;> rw [e] <;> decide
theorem pk_figs {m m' k : Int} (h : Pk m k 4 8) (h' : Pk m' k 3 4) : (figs m : Int) = m' := by
  unfold Pk at h h'
  by_cases hk : k = 0
  · rw [if_pos hk] at h h'; rw [h, h']; rfl
  · rw [if_neg hk] at h h'; rw [h, h']; rfl
theorem news_drop2 {g h : Heap} {L : Addr} {a b : Addr × Obj} {l : List (Addr × Obj)} (N : News g L h (a :: b :: l)) : News g L h (a :: l) := fun q hq => N q ((List.mem_cons.mp hq).elim (fun e => by rw [e]; exact .head _) (fun e => .tail _ (.tail _ e)))
theorem hap_of {g h : Heap} {L : Addr} {a : Addr × Obj} {l : List (Addr × Obj)} (hN : News g L h (a :: l)) (hl : AllLt a.1 l) : ∀ q ∈ l, q.1 ≠ a.1 := fun q hq => Nat.ne_of_lt (ktn_ltOf hl q hq)
end
section
open PySem PySem.W PyProof.Rows PySem.Calls PyProof.V PySem.Spec
set_option maxRecDepth 100000
local macro_rules | `(tactic| walk_at "no such key 9") => `(tactic| skip)
local macro_rules | `(tactic| walk_at "exec For") => `(tactic| refine stop_here ?_)
local macro_rules | `(tactic| walk_at "exec For Name Call cons nil") => `(tactic| refine stop_here ?_)
local macro_rules | `(tactic| walk_at "exec If") => `(tactic| refine stop_here ?_)
local macro_rules | `(tactic| walk_at "exec Assign") => `(tactic| refine stop_here ?_)
set_option maxHeartbeats 8000000 in
theorem segT {w : World} {p : Program} {loose : List Str} {mean : ExcName → Option Value} {mg mb : Str → Option Value} {s : Shared} {g : Heap} {L fa rowA kl ord la : Addr} {cd : Value} {m : Str → Option Value} {lvs rowV ks ov : List Value} {ns rs : List Int} {kn rn on : Nat} {o1 o2 o3 o4 o5 o6 : Obj} {ps : Array Value} {P : List (Addr × Obj)} {M fg : Int} {t tf : Tok} {v4 v5 v6 : Option Value} {Q : Flow → Shared → Prop} {E : Value → Shared → Prop}
    (X : (Mine.hd.heap_39 w.params).In g) (T : Top p loose mean mg mb g) (F : Fr g L s.heap m) (hrow : m (Str.ofString "row") = some (.ref rowA)) (hscr : m (Str.ofString "script") = some (.ref la)) (hfig : m (Str.ofString "figures") = some (.int fg tf)) (hfg : fg = figs M)
    (N : News g L s.heap ((ord, W.listOf ov.toArray on) :: (kl, W.listOf ks.toArray kn) :: (rowA, W.listOf rowV.toArray rn) :: (L + 1 + 1 + 1 + 1 + 1 + 1, o6) :: (L + 1 + 1 + 1 + 1 + 1, o5) :: (L + 1 + 1 + 1 + 1, o4) :: (L + 1 + 1 + 1, o3) :: (L + 1 + 1, o2) :: (L + 1, o1) :: (16, tabObj ps) :: P))
    (d1 : o1.data = .cell (some (.int M t))) (d2 : o2.data = .cell (some (.ref kl))) (d3 : o3.data = .cell (some (.ref ord))) (d4 : o4.data = .cell v4) (d5 : o5.data = .cell v5) (d6 : o6.data = .cell v6)
    (hM : M = 4 ∨ M = 8) (hLs : g.IsList la lvs.toArray) (hIl : IntsAre lvs ns) (hn63 : ns.length ≤ 63) (hI : IntsAre rowV rs) (hlen : (rs.length : Int) = M) (hK : KV P ks (kvv rs) 1 (2 * rs.length))
    (hPL : PL P ov (ordL M (2 * M - 1).toNat))
    (hE : PassesOwn (model PySem.Challenge.rw_hf0004_01.row.prog w) (callerA.deeper (lawEnv w L fa cd)) (lawEnv w L fa cd) E)
    (h16 : @LT.lt Nat _ 16 L) (hkl4 : @Ne Nat kl (L + 1 + 1 + 1 + 1)) (hro4 : @Ne Nat rowA (L + 1 + 1 + 1 + 1)) (hod4 : @Ne Nat ord (L + 1 + 1 + 1 + 1)) (hP4 : ∀ q ∈ P, q.1 ≠ L + 1 + 1 + 1 + 1) (hkl5 : @Ne Nat kl (L + 1 + 1 + 1 + 1 + 1)) (hkl6 : @Ne Nat kl (L + 1 + 1 + 1 + 1 + 1 + 1)) (hro5 : @Ne Nat rowA (L + 1 + 1 + 1 + 1 + 1)) (hro6 : @Ne Nat rowA (L + 1 + 1 + 1 + 1 + 1 + 1)) (hod5 : @Ne Nat ord (L + 1 + 1 + 1 + 1 + 1)) (hod6 : @Ne Nat ord (L + 1 + 1 + 1 + 1 + 1 + 1)) (hP5 : ∀ q ∈ P, q.1 ≠ L + 1 + 1 + 1 + 1 + 1) (hP6 : ∀ q ∈ P, q.1 ≠ L + 1 + 1 + 1 + 1 + 1 + 1)
    (h : ∀ h' tk', (∀ b o, g.get? b = some o → h'.get? b = some o) → (∃ ps, h'.get? 16 = some (tabObj ps)) → Q (.ret (.bool true)) { s with heap := h', toks := tk' }) :
    wpAny (model PySem.Challenge.rw_hf0004_01.row.prog w) (callerA.deeper (lawEnv w L fa cd)) (execs ((lawBody w).drop 6) (lawEnv w L fa cd)) Q E s := by
  revert X; k_fill; intro X
  revert hE
  show PassesOwn _ (callerA.deeper (envOfC _ ⟨_, _, _, _, _⟩ _ _ _)) (envOfC _ ⟨_, _, _, _, _⟩ _ _ _) _ → wpAny _ (callerA.deeper (envOfC _ ⟨_, _, _, _, _⟩ _ _ _)) (execs (_ :: _ :: _ :: _ :: _ :: _ :: []) (envOfC _ ⟨_, _, _, _, _⟩ _ _ _)) _ _ _
  intro hE
  k_with_none
  w_top off
  k_steps
  show wpAny _ _ _ _ _ _
  refine segC (fa := fa) (cd := cd) X T F N d1 d3 hM hPL hE ?_
  clear F N
  intro h₁ tk₁ F N
  show wpAny _ _ _ _ _ _
  (try k_fold)
  k_steps
  show wpAny _ _ _ _ _ _
  refine segD (fa := fa) (cd := cd) X T F hrow hfig hfg N d1 d2 d3 d4 hM hI hlen hK hPL hE ?_ ?_
  · intro q hq
    simp only [List.mem_cons] at hq
    rcases hq with e | e | e | e | e
    · rw [e]; exact hod4
    · rw [e]; exact hkl4
    · rw [e]; exact hro4
    · rw [e]; k_ne
    · exact hP4 q e
  clear F N
  intro m' o4' v' h₂ tk₂ F hm' N d4'
  show wpAny _ _ _ _ _ _
  (try k_fold)
  refine segE (fa := fa) (cd := cd) (la := la) X T F ((hm' _ (by decide) (by decide) (by decide)).trans hrow) ((hm' _ (by decide) (by decide) (by decide)).trans hscr) ((hm' _ (by decide) (by decide) (by decide)).trans hfig) hfg N d1 d2 d5 d6 hM hLs hIl hn63 hI hlen hK hE h16 hkl5 hkl6 hro5 hro6 hod5 hod6 hP5 hP6 h
end
section
open PySem PySem.W PyProof.Rows PySem.Calls PyProof.V PySem.Spec
set_option maxRecDepth 100000
local macro_rules | `(tactic| walk_at "no such key 10") => `(tactic| skip)
local macro_rules | `(tactic| walk_at "exec For Name Call cons nil") => `(tactic| refine stop_here ?_)
local macro_rules | `(tactic| walk_at "call ref") => `(tactic| (k_here; (with_reducible show wpAny _ _ (call (Value.ref 44) _) _ _ _); refine stop_here ?_))
local macro_rules | `(tactic| walk_at "call ref") => `(tactic| (k_here; (with_reducible show wpAny _ _ (call (Value.ref 21) _) _ _ _); refine stop_here ?_))
local macro_rules | `(tactic| walk_at "subscriptTail") => `(tactic| (k_here; (with_reducible show wpAny _ _ (subscriptTail _ _ (Value.ref _) (Value.int _ _)) _ _ _); k_dflt (refine' pick2 ?l ?k ?a ?b ?_; (case l => is_list); (case k => exact fm2_lt _); (case a => decide); (case b => decide)); intro m' t' hm' hm0'))
local macro_rules | `(tactic| walk_at "subscriptTail BinOp") => `(tactic| (k_here; k_dflt (refine kba_turn (value' := PySem.Expr.Name (PySem.Str.ofString "_") ⟨0, 0, 0, 0⟩) (fun _ => rfl) ?_)))
set_option maxHeartbeats 8000000 in
theorem law1 : PySem.Challenge.rw_hf0004_01.Holds := Mine.hd (by
  k_with_none
  w_top off
  k_go0
  rename Fr _ _ _ _ => F'
  rename News _ _ _ _ => N'
  rename Below _ _ _ _ => K'
  rename TabsAt _ _ => hT9
  rename Frag.In _ (ghostOf _ _) => X'
  rename Top _ _ _ _ _ (ghostOf _ _) => T'
  rename IntsAre _ _ => hI
  rename Heap.IsList (ghostOf _ _) _ _ => hLs
  rename ¬ _ => hlen
  rename _ = #[] => hgens
  rename_i w s₀ s₁ mg mb G Y fa o pm cd doc ho hcd X V T B TE TW ns hs hlay0 hL1 hr1 hl2 w10 w9 la lvs w6 hL ra w1 r0 hr hcond' hD h₁ tk₁ o6 o5 o4 o3 o2 o1 e6 e5 e4 e3 e2 e1 X0 l0
  refine law_cutE F' (by passes_own) ?_ ?_
  · intro Q E hE hQ
    clear X0 hD hcond' hr r0 w1 ra hL w6 w9 w10 hl2 hr1 hlay0 hs TW TE B T V X hcd ho Y G hgens
    dsimp only at F' N' e1 e2 e3 e4 e5 e6 K' X' T' ⊢
    (try k_fold)
    k_with_none
    w_top off
    k_steps
    show wpAny _ _ _ _ _ _
    rename Fr _ _ _ _ => F₁
    rename News _ _ _ _ => N₁
    rename IntsAre _ (List.take _ _) => hI₁
    rename Pk _ _ 4 8 => hm
    have hm48 := m48 hm
    have hm8 := m48le hm48
    have hm4 := m48ge hm48
    rename_i rowA rowV _ _ _ _ _
    have sR := (N₁ _ (.head _)).1
    have X₁ := X'.keeps F₁.keep
    have T₁ := T'.keeps F₁.keep
    refine kept_c (dp := _) (un := _) (fr := _) (gd := _) (by decide) (by decide) X₁ T₁ ⟨_, sR, rfl, _, rfl⟩ hI₁ (by rw [List.length_take]; simp; omega) ?_
    intro kl ks kn P h₃ tk₃ hkk hnew hKV
    clear X₁ T₁ sR
    have F₂ := fr_keeps F₁ hkk
    have N₂ := news_keeps N₁ hkk
    k_with "exec For" => refine stop_here ?_
    show wpAny _ _ _ _ _ _
    k_steps
    show wpAny _ _ _ _ _ _
    refine digits_c K' rfl rfl X' T' codeHd F₂ (fun p hp => N₂ p (by rw [List.mem_singleton.mp hp]; k_mem)) hm48 ?_
    intro dl dvs dn ps h₄ tk₄ hg₄ h16 hdl hdn hds
    obtain ⟨dws, rfl⟩ : ∃ ws : List Value, dvs = ws.toArray := ⟨dvs.toList, by simp⟩
    rename Obj => oM
    rename oM.data = _ => dM
    have g16 := N₁ (16, tabObj #[]) (by k_mem)
    have F₃ := fr_but F₂ g16.2.1 g16.2.2 hg₄
    have N₃ : News _ _ h₄ ((dl, W.listOf dws.toArray dn) :: (kl, W.listOf ks.toArray kn) :: (rowA, W.listOf rowV.toArray 0) :: (s₁.heap.objs.size + 1 + 1 + 1 + 1 + 1 + 1, o6) :: (s₁.heap.objs.size + 1 + 1 + 1 + 1 + 1, o5) :: (s₁.heap.objs.size + 1 + 1 + 1 + 1, o4) :: (s₁.heap.objs.size + 1 + 1 + 1, o3) :: (s₁.heap.objs.size + 1 + 1, o2) :: (s₁.heap.objs.size + 1, oM) :: (16, tabObj ps) :: P) := fun q hq => by
      simp only [List.mem_cons] at hq
      rcases hq with e | e | e | e | e | e | e | e | e | e | e
      · rw [e]; exact new1 F₂ hdn hdl
      · rw [e]; exact news_but hg₄ (new1 F₁ (hnew _ (.head _)).2 (hnew _ (.head _)).1) (ne_new g16.1 (hnew _ (.head _)).2)
      · rw [e]; exact news_but hg₄ (N₂ _ (by k_mem)) (by k_ne)
      · rw [e]; exact news_but hg₄ (N₂ _ (by k_mem)) (by k_ne)
      · rw [e]; exact news_but hg₄ (N₂ _ (by k_mem)) (by k_ne)
      · rw [e]; exact news_but hg₄ (N₂ _ (by k_mem)) (by k_ne)
      · rw [e]; exact news_but hg₄ (N₂ _ (by k_mem)) (by k_ne)
      · rw [e]; exact news_but hg₄ (N₂ _ (by k_mem)) (by k_ne)
      · rw [e]; exact news_but hg₄ (N₂ _ (by k_mem)) (by k_ne)
      · rw [e]; exact ⟨h16, g16.2⟩
      · exact news_but hg₄ (new1 F₁ (hnew q (.tail _ e)).2 (hnew q (.tail _ e)).1) (ne_new g16.1 (hnew q (.tail _ e)).2)
    have hP1 : ∀ q ∈ P, q.1 ≠ s₁.heap.objs.size + 1 := fun q hq => ne_new (N₁ (s₁.heap.objs.size + 1, oM) (by k_mem)).1 (hnew q (.tail _ hq)).2
    have hk1 : @Ne Nat kl (s₁.heap.objs.size + 1) := ne_new (N₁ (s₁.heap.objs.size + 1, oM) (by k_mem)).1 (hnew (kl, W.listOf ks.toArray kn) (.head _)).2
    have hd1 : @Ne Nat dl (s₁.heap.objs.size + 1) := ne_new (N₂ (s₁.heap.objs.size + 1, oM) (by k_mem)).1 hdn
    have hP2 : ∀ q ∈ P, q.1 ≠ s₁.heap.objs.size + 1 + 1 := fun q hq => ne_new (N₁ (s₁.heap.objs.size + 1 + 1, o2) (by k_mem)).1 (hnew q (.tail _ hq)).2
    have hk2 : @Ne Nat kl (s₁.heap.objs.size + 1 + 1) := ne_new (N₁ (s₁.heap.objs.size + 1 + 1, o2) (by k_mem)).1 (hnew (kl, W.listOf ks.toArray kn) (.head _)).2
    have hd2 : @Ne Nat dl (s₁.heap.objs.size + 1 + 1) := ne_new (N₂ (s₁.heap.objs.size + 1 + 1, o2) (by k_mem)).1 hdn
    have hP3 : ∀ q ∈ P, q.1 ≠ s₁.heap.objs.size + 1 + 1 + 1 := fun q hq => ne_new (N₁ (s₁.heap.objs.size + 1 + 1 + 1, o3) (by k_mem)).1 (hnew q (.tail _ hq)).2
    have hk3 : @Ne Nat kl (s₁.heap.objs.size + 1 + 1 + 1) := ne_new (N₁ (s₁.heap.objs.size + 1 + 1 + 1, o3) (by k_mem)).1 (hnew (kl, W.listOf ks.toArray kn) (.head _)).2
    have hd3 : @Ne Nat dl (s₁.heap.objs.size + 1 + 1 + 1) := ne_new (N₂ (s₁.heap.objs.size + 1 + 1 + 1, o3) (by k_mem)).1 hdn
    have hP4 : ∀ q ∈ P, q.1 ≠ s₁.heap.objs.size + 1 + 1 + 1 + 1 := fun q hq => ne_new (N₁ (s₁.heap.objs.size + 1 + 1 + 1 + 1, o4) (by k_mem)).1 (hnew q (.tail _ hq)).2
    have hk4 : @Ne Nat kl (s₁.heap.objs.size + 1 + 1 + 1 + 1) := ne_new (N₁ (s₁.heap.objs.size + 1 + 1 + 1 + 1, o4) (by k_mem)).1 (hnew (kl, W.listOf ks.toArray kn) (.head _)).2
    have hd4 : @Ne Nat dl (s₁.heap.objs.size + 1 + 1 + 1 + 1) := ne_new (N₂ (s₁.heap.objs.size + 1 + 1 + 1 + 1, o4) (by k_mem)).1 hdn
    have hP5 : ∀ q ∈ P, q.1 ≠ s₁.heap.objs.size + 1 + 1 + 1 + 1 + 1 := fun q hq => ne_new (N₁ (s₁.heap.objs.size + 1 + 1 + 1 + 1 + 1, o5) (by k_mem)).1 (hnew q (.tail _ hq)).2
    have hk5 : @Ne Nat kl (s₁.heap.objs.size + 1 + 1 + 1 + 1 + 1) := ne_new (N₁ (s₁.heap.objs.size + 1 + 1 + 1 + 1 + 1, o5) (by k_mem)).1 (hnew (kl, W.listOf ks.toArray kn) (.head _)).2
    have hd5 : @Ne Nat dl (s₁.heap.objs.size + 1 + 1 + 1 + 1 + 1) := ne_new (N₂ (s₁.heap.objs.size + 1 + 1 + 1 + 1 + 1, o5) (by k_mem)).1 hdn
    have hP6 : ∀ q ∈ P, q.1 ≠ s₁.heap.objs.size + 1 + 1 + 1 + 1 + 1 + 1 := fun q hq => ne_new (N₁ (s₁.heap.objs.size + 1 + 1 + 1 + 1 + 1 + 1, o6) (by k_mem)).1 (hnew q (.tail _ hq)).2
    have hk6 : @Ne Nat kl (s₁.heap.objs.size + 1 + 1 + 1 + 1 + 1 + 1) := ne_new (N₁ (s₁.heap.objs.size + 1 + 1 + 1 + 1 + 1 + 1, o6) (by k_mem)).1 (hnew (kl, W.listOf ks.toArray kn) (.head _)).2
    have hd6 : @Ne Nat dl (s₁.heap.objs.size + 1 + 1 + 1 + 1 + 1 + 1) := ne_new (N₂ (s₁.heap.objs.size + 1 + 1 + 1 + 1 + 1 + 1, o6) (by k_mem)).1 hdn
    have hP16 : ∀ q ∈ P, q.1 ≠ 16 := fun q hq => ne_new g16.1 (hnew q (.tail _ hq)).2
    have hf4 := figs_le hm48
    have hds' := hds
    rw [List.size_toArray] at hds'
    clear F₁ N₁ F₂ N₂ hkk hnew hg₄ h16 hdl hdn hds g16
    (try dsimp only at F₃)
    show wpAny _ _ _ _ _ _
    (try k_fold)
    k_steps
    · exact absurd (pk_figs hm (by assumption)) (by assumption)
    show wpAny _ _ _ _ _ _
    rename Fr _ _ _ _ => F₄
    rename News _ _ _ _ => N₄
    rename _ ∧ _ => l₄
    have N₅ := news_drop2 (news_drop2 (news_drop2 N₄))
    refine segB (fa := fa) (cd := cd) X' T' K' F₄ rfl N₅ dM (by assumption) (by assumption) hm48 hI₁ (by rw [List.length_take]; simp; omega) hKV hE (fun q hq => hap_of N₄ l₄ q (.tail _ (.tail _ (.tail _ hq)))) (fun q hq => ⟨hap_of N₄ l₄ q (by simp only [List.mem_cons, hq, or_true]), hP4 q hq, hP5 q hq, hP6 q hq⟩) ?_
    intro m₆ ov on' P₆ h₆ tk₆ F₆ hm₆ N₆ hPP hPo hPL
    have hb := fun q hq => hap_of N₄ l₄ q hq
    refine segT (fa := fa) (cd := cd) (la := la) (w := w) (fg := figs _) X' T' F₆ ((hm₆ _ (by decide) (by decide) (by decide)).trans rfl) ((hm₆ _ (by decide) (by decide) (by decide)).trans rfl) ((hm₆ _ (by decide) (by decide) (by decide)).trans rfl) rfl N₆ dM (by assumption) (by assumption) (by assumption) (by assumption) (by assumption) hm48 hLs hI (by omega) hI₁ (by rw [List.length_take]; simp; omega) (hKV.mono hPP) hPL hE l0 hk4 (by k_ne) ?_ (fun q hq => (hPo q hq).2.1) hk5 hk6 (by k_ne) (by k_ne) ?_ ?_ (fun q hq => (hPo q hq).2.2.1) (fun q hq => (hPo q hq).2.2.2) ?_
    · exact fun q => hb (s₁.heap.objs.size + 1 + 1 + 1 + 1, o4) (by k_mem) q.symm
    · exact fun q => hb (s₁.heap.objs.size + 1 + 1 + 1 + 1 + 1, o5) (by k_mem) q.symm
    · exact fun q => hb (s₁.heap.objs.size + 1 + 1 + 1 + 1 + 1 + 1, o6) (by k_mem) q.symm
    · exact hQ
  · intro h' tk' hk hps
    exact ⟨⟨.inl ⟨_, _, [], rfl, fun _ => rfl, ReadsW.bool true, by wrow_post, fun _ => ⟨List.nodup_nil, fun _ h => nomatch h⟩⟩, hk, rfl, hgens⟩, ⟨hps, trivial⟩⟩)
end
end Mine
end
open PySem PySem.W PyProof.Rows
theorem PySem.Challenge.cw_hf0004_01_holds : PySem.Challenge.rw_hf0004_01.Holds := by
  exact Mine.law1
