import PyProof.Rows.All
import Wide.All
import OpenK.AllK
import Wide.FinOn
import PySem.Challenge.RW_fe0310_01
open PySem PySem.W PyProof.Rows
set_option Elab.async false
set_option maxRecDepth 100000
set_option maxHeartbeats 8000000
namespace Mine
open_top hd for PySem.Challenge.rw_fe0310_01
section
local macro_rules | `(tactic| k_mem) => `(tactic| first | (with_reducible assumption) | exact List.mem_cons_self | (refine List.mem_cons_of_mem _ ?_; k_mem))
section
variable {w : World} {mean : ExcName → Option Value} {mg mb : Str → Option Value} {dp un : Nat} {gd : Option (List Code)} {cn : Str} {cs : Scope} {a : Addr} {ccd : Value} {cl : List (Str × Addr)} {outer : List Env}
  {A₀ : Around} {base h₀ : Heap} {L : Addr} {m : Str → Option Value} {news : List (Addr × Obj)} {s : Shared} {Q E : Value → Shared → Prop}

def numAt (ns : List Int) (k : Int) : Int := if k < ns.length then (ns.getD k.toNat 0).fmod 1000 else (k * 37 + 5).fmod 1000

local macro_rules | `(tactic| walk_at "call builtin:len") => `(tactic| (k_here; (with_reducible show wpAny _ _ (call (Value.builtin "len") [Value.ref _]) _ _ _); k_dflt (refine' kst_len ?k1 ?k2 ?k3 ?k4 ?_; (case k1 => k_asm); (case k2 => k_mem); (case k3 => exact IntsAre.length (by assumption)); (case k4 => omega); k_whole)))
local macro_rules | `(tactic| walk_at "subscriptTail") => `(tactic| (k_here; (with_reducible show wpAny _ _ (subscriptTail _ _ (Value.ref _) (Value.int _ _)) _ _ _); k_dflt (refine' item_list_ints ?k1 ?k2 ?k3 ?k4 ?k5 ?_ ?k6 ?k7; (case k1 => exact News.isList (by k_asm) (by k_mem)); (case k2 => assumption); (case k3 => assumption); (case k4 => omega); (case k5 => omega); (case k6 => with_unfolding_all rfl); (case k7 => (intro _; with_unfolding_all rfl)); k_whole); intro _))

theorem num_call (B : Below A₀ base outer h₀) (F : Fr h₀ L s.heap m) (X : (hd.heap_39 w.params).In h₀) (N : News h₀ L s.heap news)
    (T : Top hd.view_39 (looseW hd.view_39 [Str.ofString "SuggestItem"]) mean mg mb h₀)
    (hk : cs.kind = .function) (hdp : dp + 10 < recursionLimit) (hun : un + 80 < cLine)
    {sa : Addr} {vs : List Value} {n : Nat} {ns : List Int} (hl : (sa, listOf vs.toArray n) ∈ news) (hi : IntsAre vs ns) (hn : ns.length < 100) {k : Int} {t : Tok} (h0 : 0 ≤ k) (h1 : k < 100)
    (hret : ∀ t' h' tk', Fr h₀ L h' m → News h₀ L h' news → Q (.int (numAt ns k) t') { s with heap := h', toks := tk' }) :
    wpAny (model Challenge.rw_fe0310_01.row.prog w) (ktrTop dp un gd cn cs L a ccd cl outer) (call (.ref 124) [.ref sa, .int k t]) Q E s := by
  revert X
  k_fill
  intro X
  refine wpAny_call ?_
  k_dflt ktr_enter
  k_steps
  · have e : numAt ns k = (ns.getD k.toNat 0).fmod 1000 := if_pos (by assumption)
    rw [← e]; exact hret _ _ _ (by assumption) (by assumption)
  · have e : numAt ns k = (k * 37 + 5).fmod 1000 := if_neg (by assumption)
    rw [← e]; exact hret _ _ _ (by assumption) (by assumption)

theorem numAt_nonneg (ns : List Int) (k : Int) : 0 ≤ numAt ns k := by
  unfold numAt; split <;> exact Int.fmod_nonneg_of_pos _ (by decide)
theorem numAt_lt (ns : List Int) (k : Int) : numAt ns k < 1000 := by
  unfold numAt; split <;> exact Int.fmod_lt_of_pos _ (by decide)

local macro_rules | `(tactic| walk_at "call ref") => `(tactic| (k_here; (with_reducible show wpAny _ _ (call (Value.ref 124) [Value.ref _, Value.int _ _]) _ _ _); k_dflt (refine' num_call ?k1 ?k2 ?k3 ?k4 ?k5 ?k6 ?k7 ?k8 ?k9 ?k10 ?k11 ?k12 ?k13 ?_; (case k1 => k_asm); (case k2 => k_asm); (case k3 => k_asm); (case k4 => k_asm); (case k5 => k_asm); (case k6 => first | exact rfl | assumption); (case k7 => ktr_room); (case k8 => ktr_units); (case k9 => k_mem); (case k10 => assumption); (case k11 => assumption); (case k12 => omega); (case k13 => omega); k_whole); intro t9 h9 tk9 F9 N9; (try dsimp only); (try k_fold)))

abbrev terms : List Str := [Str.ofString "", Str.ofString "a", Str.ofString "b", Str.ofString "ab", Str.ofString "abc"]
local macro_rules | `(tactic| walk_at "subscriptTail") => `(tactic| (k_here; (with_reducible show wpAny _ _ (subscriptTail _ _ (Value.ref _) (Value.int _ _)) _ _ _); k_dflt (refine' KTb.item_list (ws := terms) ?k1 ?k2 ?k3 ?k4 ?k5 ?_; (case k1 => exact News.isList (by k_asm) (by k_mem)); (case k2 => repeat constructor); (case k3 => exact Int.fmod_nonneg_of_pos _ (by decide)); (case k4 => exact Int.fmod_lt_of_pos _ (by decide)); (case k5 => exact Int.lt_trans (Int.fmod_lt_of_pos _ (by decide)) (by decide)); k_whole); intro _ _))
abbrev tupObj (t : Str) (x : Tok) (d : Int) (y : Tok) (c : Int) (z : Tok) : Obj := { cls := .type "tuple", data := .seq #[.str t x, .int d y, .int c z] }
def rowT (ns : List Int) (k : Int) : Str := terms.getD ((numAt ns k).fmod 5).toNat Str.empty
def rowD (ns : List Int) (k : Int) : Int := (numAt ns (k + 1)).fmod 4 - 1
def rowC (ns : List Int) (k : Int) : Int := if (numAt ns (k + 2)).fmod 7 < 4 then (numAt ns (k + 2)).fmod 7 else 9223372036854775801 + (numAt ns (k + 2)).fmod 7
theorem news_top {h : Heap} {x y : Addr × Obj} (N : News h₀ L h (x :: y :: news)) : News h₀ L h (x :: news) := fun p hp => N p (by
  rcases List.mem_cons.mp hp with rfl | hp
  · exact .head _
  · exact .tail _ (.tail _ hp))
theorem row_call (B : Below A₀ base outer h₀) (F : Fr h₀ L s.heap m) (X : (hd.heap_39 w.params).In h₀) (N : News h₀ L s.heap news)
    (T : Top hd.view_39 (looseW hd.view_39 [Str.ofString "SuggestItem"]) mean mg mb h₀)
    (hk : cs.kind = .function) (hdp : dp + 20 < recursionLimit) (hun : un + 160 < cLine)
    {sa : Addr} {vs : List Value} {n : Nat} {ns : List Int} (hl : (sa, listOf vs.toArray n) ∈ news) (hi : IntsAre vs ns) (hn : ns.length < 100) {k : Int} {t : Tok} (h0 : 0 ≤ k) (h1 : k < 50)
    (hret : ∀ q x y z h' tk', Fr h₀ L h' m → News h₀ L h' ((q, tupObj (rowT ns k) x (rowD ns k) y (rowC ns k) z) :: news) → (∀ p ∈ news, p.1 < q) → Q (.ref q) { s with heap := h', toks := tk' }) :
    wpAny (model Challenge.rw_fe0310_01.row.prog w) (ktrTop dp un gd cn cs L a ccd cl outer) (call (.ref 131) [.ref sa, .int k t]) Q E s := by
  revert X
  k_fill
  intro X
  refine wpAny_call ?_
  k_dflt ktr_enter
  k_steps
  · rename News _ _ _ (_ :: _ :: _) => kN
    rename _ ∧ AllLt _ _ => kl
    have N2 := news_top kN
    have e : rowC ns k = (numAt ns (k + 2)).fmod 7 := if_pos (by assumption)
    rw [← e] at N2
    exact hret _ _ _ _ _ _ (by assumption) N2 (kst_ltOf kl.2)
  · rename News _ _ _ (_ :: _ :: _) => kN
    rename _ ∧ AllLt _ _ => kl
    have N2 := news_top kN
    have e : rowC ns k = 9223372036854775801 + (numAt ns (k + 2)).fmod 7 := if_neg (by assumption)
    rw [← e] at N2
    exact hret _ _ _ _ _ _ (by assumption) N2 (kst_ltOf kl.2)
end
end

section
local macro_rules | `(tactic| k_mem) => `(tactic| first | (with_reducible assumption) | exact List.mem_cons_self | (refine List.mem_cons_of_mem _ ?_; k_mem))
section
variable {w : World} {mean : ExcName → Option Value} {mg mb : Str → Option Value} {dp un : Nat} {gd : Option (List Code)} {cn : Str} {cs : Scope} {a : Addr} {ccd : Value} {cl : List (Str × Addr)} {outer : List Env}
  {A₀ : Around} {base h₀ : Heap} {L : Addr} {m : Str → Option Value} {news : List (Addr × Obj)} {s : Shared} {Q E : Value → Shared → Prop}


abbrev itDict (w : World) (k1 k2 k3 : Tok) (t : Str) (x : Tok) (d : Int) (y : Tok) (c : Int) (z : Tok) : Obj := dictOf [⟨PyData.keyHash w.params (Str.ofString "_term"), .str (Str.ofString "_term") k1, .str t x⟩,
  ⟨PyData.keyHash w.params (Str.ofString "_distance"), .str (Str.ofString "_distance") k2, .int d y⟩, ⟨PyData.keyHash w.params (Str.ofString "_count"), .str (Str.ofString "_count") k3, .int c z⟩] 3
def IsIt (w : World) (news : List (Addr × Obj)) (q : Addr) (t : Str) (d c : Int) : Prop := ∃ dq k1 k2 k3 x y z, (q, instObj 113 dq) ∈ news ∧ (dq, itDict w k1 k2 k3 t x d y c z) ∈ news
def IsTp (news : List (Addr × Obj)) (q : Addr) (t : Str) (d c : Int) : Prop := ∃ x y z, (q, tupObj t x d y c z) ∈ news
theorem IsIt.sub {news' : List (Addr × Obj)} {q : Addr} {t : Str} {d c : Int} (h : IsIt w news q t d c) (hs : ∀ p ∈ news, p ∈ news') : IsIt w news' q t d c :=
  let ⟨dq, k1, k2, k3, x, y, z, h1, h2⟩ := h; ⟨dq, k1, k2, k3, x, y, z, hs _ h1, hs _ h2⟩
theorem IsTp.sub {news' : List (Addr × Obj)} {q : Addr} {t : Str} {d c : Int} (h : IsTp news q t d c) (hs : ∀ p ∈ news, p ∈ news') : IsTp news' q t d c :=
  let ⟨x, y, z, h1⟩ := h; ⟨x, y, z, hs _ h1⟩

theorem make_call (B : Below A₀ base outer h₀) (F : Fr h₀ L s.heap m) (X : (hd.heap_39 w.params).In h₀) (N : News h₀ L s.heap news)
    (T : Top hd.view_39 (looseW hd.view_39 [Str.ofString "SuggestItem"]) mean mg mb h₀)
    (hk : cs.kind = .function) (hdp : dp + 20 < recursionLimit) (hun : un + 160 < cLine)
    {t : Str} {x : Tok} {d : Int} {y : Tok} {c : Int} {z : Tok}
    (hret : ∀ q dq k1 k2 k3 h' tk', Fr h₀ L h' m → News h₀ L h' ((q, instObj 113 dq) :: (dq, itDict w k1 k2 k3 t x d y c z) :: news) → (∀ p ∈ news, p.1 < dq) → dq < q → Q (.ref q) { s with heap := h', toks := tk' }) :
    wpAny (model Challenge.rw_fe0310_01.row.prog w) (ktrTop dp un gd cn cs L a ccd cl outer) (call (.ref 113) [.str t x, .int d y, .int c z]) Q E s := by
  revert X
  k_fill
  intro X
  refine' call_cls ?k1 ?k2 ?k3 ?k4 ?k5 ?k6 ?_; (case k1 => k_asm); (case k2 => k_asm); (case k3 => k_asm); (case k4 => k_is); (case k5 => k_is); (case k6 => k_is); intro x' d' h' F' N' l1 l2
  have l1' := l1; have l2' := l2; k_lt2 l2
  k_dflt ktr_enter
  k_steps
  exact hret _ _ _ _ _ _ _ (by assumption) (by assumption) l1' l2'

theorem get_term (B : Below A₀ base outer h₀) (F : Fr h₀ L s.heap m) (X : (hd.heap_39 w.params).In h₀) (N : News h₀ L s.heap news)
    (T : Top hd.view_39 (looseW hd.view_39 [Str.ofString "SuggestItem"]) mean mg mb h₀)
    (hk : cs.kind = .function) (hdp : dp + 10 < recursionLimit) (hun : un + 80 < cLine)
    {q dq : Addr} {k1 k2 k3 x y z : Tok} {t : Str} {d c : Int} (hq1 : (q, instObj 113 dq) ∈ news) (hq2 : (dq, itDict w k1 k2 k3 t x d y c z) ∈ news)
    (hret : ∀ h' tk', Fr h₀ L h' m → News h₀ L h' news → Q (.str t x) { s with heap := h', toks := tk' }) :
    wpAny (model Challenge.rw_fe0310_01.row.prog w) (ktrTop dp un gd cn cs L a ccd cl outer) (getAttr (.ref q) (Str.ofString "term") true) Q E s := by
  revert X
  k_fill
  intro X
  refine' get_prop ?k1 ?k2 ?k3 ?k4 ?k5 ?k6 ?k7 ?k8 ?k9 ?_; (case k1 => k_asm); (case k2 => k_asm); (case k3 => k_inst); (case k4 => k_is); (case k5 => k_is); (case k6 => k_is); (case k7 => k_is); (case k8 => k_is); (case k9 => k_is)
  k_dflt ktr_enter
  k_steps
  exact hret _ _ (by assumption) (by assumption)
local macro_rules | `(tactic| walk_at "getAttr ref") => `(tactic| (k_here; (with_reducible show wpAny _ _ (getAttr (Value.ref _) (PySem.Str.ofString "term") _) _ _ _); k_dflt (refine' get_term ?k1 ?k2 ?k3 ?k4 ?k5 ?k6 ?k7 ?k8 ?k9 ?k10 ?_; (case k1 => k_asm); (case k2 => k_asm); (case k3 => k_asm); (case k4 => k_asm); (case k5 => k_asm); (case k6 => first | exact rfl | assumption); (case k7 => ktr_room); (case k8 => ktr_units); (case k9 => k_mem); (case k10 => k_mem); k_whole); intro h9 tk9 F9 N9; (try dsimp only); (try k_fold)))
theorem get_distance (B : Below A₀ base outer h₀) (F : Fr h₀ L s.heap m) (X : (hd.heap_39 w.params).In h₀) (N : News h₀ L s.heap news)
    (T : Top hd.view_39 (looseW hd.view_39 [Str.ofString "SuggestItem"]) mean mg mb h₀)
    (hk : cs.kind = .function) (hdp : dp + 10 < recursionLimit) (hun : un + 80 < cLine)
    {q dq : Addr} {k1 k2 k3 x y z : Tok} {t : Str} {d c : Int} (hq1 : (q, instObj 113 dq) ∈ news) (hq2 : (dq, itDict w k1 k2 k3 t x d y c z) ∈ news)
    (hret : ∀ h' tk', Fr h₀ L h' m → News h₀ L h' news → Q (.int d y) { s with heap := h', toks := tk' }) :
    wpAny (model Challenge.rw_fe0310_01.row.prog w) (ktrTop dp un gd cn cs L a ccd cl outer) (getAttr (.ref q) (Str.ofString "distance") true) Q E s := by
  revert X
  k_fill
  intro X
  refine' get_prop ?k1 ?k2 ?k3 ?k4 ?k5 ?k6 ?k7 ?k8 ?k9 ?_; (case k1 => k_asm); (case k2 => k_asm); (case k3 => k_inst); (case k4 => k_is); (case k5 => k_is); (case k6 => k_is); (case k7 => k_is); (case k8 => k_is); (case k9 => k_is)
  k_dflt ktr_enter
  k_steps
  exact hret _ _ (by assumption) (by assumption)
local macro_rules | `(tactic| walk_at "getAttr ref") => `(tactic| (k_here; (with_reducible show wpAny _ _ (getAttr (Value.ref _) (PySem.Str.ofString "distance") _) _ _ _); k_dflt (refine' get_distance ?k1 ?k2 ?k3 ?k4 ?k5 ?k6 ?k7 ?k8 ?k9 ?k10 ?_; (case k1 => k_asm); (case k2 => k_asm); (case k3 => k_asm); (case k4 => k_asm); (case k5 => k_asm); (case k6 => first | exact rfl | assumption); (case k7 => ktr_room); (case k8 => ktr_units); (case k9 => k_mem); (case k10 => k_mem); k_whole); intro h9 tk9 F9 N9; (try dsimp only); (try k_fold)))
theorem get_count (B : Below A₀ base outer h₀) (F : Fr h₀ L s.heap m) (X : (hd.heap_39 w.params).In h₀) (N : News h₀ L s.heap news)
    (T : Top hd.view_39 (looseW hd.view_39 [Str.ofString "SuggestItem"]) mean mg mb h₀)
    (hk : cs.kind = .function) (hdp : dp + 10 < recursionLimit) (hun : un + 80 < cLine)
    {q dq : Addr} {k1 k2 k3 x y z : Tok} {t : Str} {d c : Int} (hq1 : (q, instObj 113 dq) ∈ news) (hq2 : (dq, itDict w k1 k2 k3 t x d y c z) ∈ news)
    (hret : ∀ h' tk', Fr h₀ L h' m → News h₀ L h' news → Q (.int c z) { s with heap := h', toks := tk' }) :
    wpAny (model Challenge.rw_fe0310_01.row.prog w) (ktrTop dp un gd cn cs L a ccd cl outer) (getAttr (.ref q) (Str.ofString "count") true) Q E s := by
  revert X
  k_fill
  intro X
  refine' get_prop ?k1 ?k2 ?k3 ?k4 ?k5 ?k6 ?k7 ?k8 ?k9 ?_; (case k1 => k_asm); (case k2 => k_asm); (case k3 => k_inst); (case k4 => k_is); (case k5 => k_is); (case k6 => k_is); (case k7 => k_is); (case k8 => k_is); (case k9 => k_is)
  k_dflt ktr_enter
  k_steps
  exact hret _ _ (by assumption) (by assumption)
local macro_rules | `(tactic| walk_at "getAttr ref") => `(tactic| (k_here; (with_reducible show wpAny _ _ (getAttr (Value.ref _) (PySem.Str.ofString "count") _) _ _ _); k_dflt (refine' get_count ?k1 ?k2 ?k3 ?k4 ?k5 ?k6 ?k7 ?k8 ?k9 ?k10 ?_; (case k1 => k_asm); (case k2 => k_asm); (case k3 => k_asm); (case k4 => k_asm); (case k5 => k_asm); (case k6 => first | exact rfl | assumption); (case k7 => ktr_room); (case k8 => ktr_units); (case k9 => k_mem); (case k10 => k_mem); k_whole); intro h9 tk9 F9 N9; (try dsimp only); (try k_fold)))

theorem retB {h : Heap} {tk : Nat} {x y : Bool} (hret : ∀ h' tk', Fr h₀ L h' m → News h₀ L h' news → Q (.bool x) { s with heap := h', toks := tk' }) (e : y = x) (F : Fr h₀ L h m) (N : News h₀ L h news) : Q (.bool y) { s with heap := h, toks := tk } := by
  subst e; exact hret _ _ F N

theorem told_call (B : Below A₀ base outer h₀) (F : Fr h₀ L s.heap m) (X : (hd.heap_39 w.params).In h₀) (N : News h₀ L s.heap news)
    (T : Top hd.view_39 (looseW hd.view_39 [Str.ofString "SuggestItem"]) mean mg mb h₀)
    (hk : cs.kind = .function) (hdp : dp + 20 < recursionLimit) (hun : un + 160 < cLine)
    {q : Addr} {t : Str} {d c : Int} (hq : IsIt w news q t d c)
    (hret : ∀ r x y z h' tk', Fr h₀ L h' m → News h₀ L h' ((r, tupObj t x d y c z) :: news) → (∀ p ∈ news, p.1 < r) → Q (.ref r) { s with heap := h', toks := tk' }) :
    wpAny (model Challenge.rw_fe0310_01.row.prog w) (ktrTop dp un gd cn cs L a ccd cl outer) (call (.ref 150) [.ref q]) Q E s := by
  obtain ⟨dq, k1, k2, k3, x, y, z, hq1, hq2⟩ := hq
  refine wpAny_call ?_
  k_dflt ktr_enter
  k_steps
  exact hret _ _ _ _ _ _ (by assumption) (by assumption) (by assumption)

def itEq (d₁ c₁ d₂ c₂ : Int) : Bool := d₁ == d₂ && c₁ == c₂
def itLt (d₁ c₁ d₂ c₂ : Int) : Bool := decide (d₁ < d₂) || (d₁ == d₂ && decide (c₂ < c₁))

theorem eq_call (B : Below A₀ base outer h₀) (F : Fr h₀ L s.heap m) (X : (hd.heap_39 w.params).In h₀) (N : News h₀ L s.heap news)
    (T : Top hd.view_39 (looseW hd.view_39 [Str.ofString "SuggestItem"]) mean mg mb h₀)
    (hk : cs.kind = .function) (hdp : dp + 20 < recursionLimit) (hun : un + 160 < cLine)
    {q₁ q₂ : Addr} {t₁ t₂ : Str} {d₁ c₁ d₂ c₂ : Int} (hq₁ : IsIt w news q₁ t₁ d₁ c₁) (hq₂ : IsIt w news q₂ t₂ d₂ c₂)
    (hret : ∀ h' tk', Fr h₀ L h' m → News h₀ L h' news → Q (.bool (itEq d₁ c₁ d₂ c₂)) { s with heap := h', toks := tk' }) :
    wpAny (model Challenge.rw_fe0310_01.row.prog w) (ktrTop dp un gd cn cs L a ccd cl outer) (call (.ref 35) [.ref q₁, .ref q₂]) Q E s := by
  obtain ⟨dq, k1, k2, k3, x, y, z, hq1, hq2⟩ := hq₁
  obtain ⟨dr, r1, r2, r3, x', y', z', hr1, hr2⟩ := hq₂
  refine wpAny_call ?_
  k_dflt ktr_enter
  k_steps
  all_goals refine retB hret ?_ (by assumption) (by assumption)
  · simp [itEq, *]
  · simp [itEq, *]

theorem lt_call (B : Below A₀ base outer h₀) (F : Fr h₀ L s.heap m) (X : (hd.heap_39 w.params).In h₀) (N : News h₀ L s.heap news)
    (T : Top hd.view_39 (looseW hd.view_39 [Str.ofString "SuggestItem"]) mean mg mb h₀)
    (hk : cs.kind = .function) (hdp : dp + 20 < recursionLimit) (hun : un + 160 < cLine)
    {q₁ q₂ : Addr} {t₁ t₂ : Str} {d₁ c₁ d₂ c₂ : Int} (hq₁ : IsIt w news q₁ t₁ d₁ c₁) (hq₂ : IsIt w news q₂ t₂ d₂ c₂)
    (hret : ∀ h' tk', Fr h₀ L h' m → News h₀ L h' news → Q (.bool (itLt d₁ c₁ d₂ c₂)) { s with heap := h', toks := tk' }) :
    wpAny (model Challenge.rw_fe0310_01.row.prog w) (ktrTop dp un gd cn cs L a ccd cl outer) (call (.ref 42) [.ref q₁, .ref q₂]) Q E s := by
  obtain ⟨dq, k1, k2, k3, x, y, z, hq1, hq2⟩ := hq₁
  obtain ⟨dr, r1, r2, r3, x', y', z', hr1, hr2⟩ := hq₂
  refine wpAny_call ?_
  k_dflt ktr_enter
  k_steps
  all_goals refine retB hret ?_ (by assumption) (by assumption)
  · simp [itLt, *]
  · simp [itLt, *]

theorem eq_int (B : Below A₀ base outer h₀) (F : Fr h₀ L s.heap m) (X : (hd.heap_39 w.params).In h₀) (N : News h₀ L s.heap news)
    (T : Top hd.view_39 (looseW hd.view_39 [Str.ofString "SuggestItem"]) mean mg mb h₀)
    (hk : cs.kind = .function) (hdp : dp + 20 < recursionLimit) (hun : un + 160 < cLine)
    {q₁ : Addr} {t₁ : Str} {d₁ c₁ : Int} {i : Int} {x : Tok} (hq₁ : IsIt w news q₁ t₁ d₁ c₁)
    (hret : ∀ h' tk', Fr h₀ L h' m → News h₀ L h' news → Q (.notImplemented) { s with heap := h', toks := tk' }) :
    wpAny (model Challenge.rw_fe0310_01.row.prog w) (ktrTop dp un gd cn cs L a ccd cl outer) (call (.ref 35) [.ref q₁, .int i x]) Q E s := by
  obtain ⟨dq, k1, k2, k3, x, y, z, hq1, hq2⟩ := hq₁
  refine wpAny_call ?_
  k_dflt ktr_enter
  k_steps
  exact hret _ _ (by assumption) (by assumption)

theorem eq_tup (B : Below A₀ base outer h₀) (F : Fr h₀ L s.heap m) (X : (hd.heap_39 w.params).In h₀) (N : News h₀ L s.heap news)
    (T : Top hd.view_39 (looseW hd.view_39 [Str.ofString "SuggestItem"]) mean mg mb h₀)
    (hk : cs.kind = .function) (hdp : dp + 20 < recursionLimit) (hun : un + 160 < cLine)
    {q₁ q₂ : Addr} {t₁ t₂ : Str} {d₁ c₁ d₂ c₂ : Int} (hq₁ : IsIt w news q₁ t₁ d₁ c₁) (hq₂ : IsTp news q₂ t₂ d₂ c₂)
    (hret : ∀ h' tk', Fr h₀ L h' m → News h₀ L h' news → Q (.notImplemented) { s with heap := h', toks := tk' }) :
    wpAny (model Challenge.rw_fe0310_01.row.prog w) (ktrTop dp un gd cn cs L a ccd cl outer) (call (.ref 35) [.ref q₁, .ref q₂]) Q E s := by
  obtain ⟨dq, k1, k2, k3, x, y, z, hq1, hq2⟩ := hq₁
  obtain ⟨x, y, z, hr1⟩ := hq₂
  refine wpAny_call ?_
  k_dflt ktr_enter
  k_steps
  exact hret _ _ (by assumption) (by assumption)

theorem lt_int (B : Below A₀ base outer h₀) (F : Fr h₀ L s.heap m) (X : (hd.heap_39 w.params).In h₀) (N : News h₀ L s.heap news)
    (T : Top hd.view_39 (looseW hd.view_39 [Str.ofString "SuggestItem"]) mean mg mb h₀)
    (hk : cs.kind = .function) (hdp : dp + 20 < recursionLimit) (hun : un + 160 < cLine)
    {q₁ : Addr} {t₁ : Str} {d₁ c₁ : Int} {i : Int} {x : Tok} (hq₁ : IsIt w news q₁ t₁ d₁ c₁)
    (hret : ∀ h' tk', Fr h₀ L h' m → News h₀ L h' news → Q (.notImplemented) { s with heap := h', toks := tk' }) :
    wpAny (model Challenge.rw_fe0310_01.row.prog w) (ktrTop dp un gd cn cs L a ccd cl outer) (call (.ref 42) [.ref q₁, .int i x]) Q E s := by
  obtain ⟨dq, k1, k2, k3, x, y, z, hq1, hq2⟩ := hq₁
  refine wpAny_call ?_
  k_dflt ktr_enter
  k_steps
  exact hret _ _ (by assumption) (by assumption)

theorem lt_none (B : Below A₀ base outer h₀) (F : Fr h₀ L s.heap m) (X : (hd.heap_39 w.params).In h₀) (N : News h₀ L s.heap news)
    (T : Top hd.view_39 (looseW hd.view_39 [Str.ofString "SuggestItem"]) mean mg mb h₀)
    (hk : cs.kind = .function) (hdp : dp + 20 < recursionLimit) (hun : un + 160 < cLine)
    {q₁ : Addr} {t₁ : Str} {d₁ c₁ : Int} (hq₁ : IsIt w news q₁ t₁ d₁ c₁)
    (hret : ∀ h' tk', Fr h₀ L h' m → News h₀ L h' news → Q (.notImplemented) { s with heap := h', toks := tk' }) :
    wpAny (model Challenge.rw_fe0310_01.row.prog w) (ktrTop dp un gd cn cs L a ccd cl outer) (call (.ref 42) [.ref q₁, .none]) Q E s := by
  obtain ⟨dq, k1, k2, k3, x, y, z, hq1, hq2⟩ := hq₁
  refine wpAny_call ?_
  k_dflt ktr_enter
  k_steps
  exact hret _ _ (by assumption) (by assumption)

theorem iTxt_len {a : Int} (h : a.natAbs < 10 ^ 20) : (Str.ofString (toString a)).length ≤ 21 := by
  rw [PySem.ofString_length]; exact int_text_length_le10 (by decide) h
theorem iTxt_log {a : Int} (h : a.natAbs < 10 ^ 20) : a.natAbs.log2 < 1920 := by
  by_cases h0 : a.natAbs = 0
  · rw [h0]; decide
  · exact (Nat.log2_lt h0).mpr (Nat.lt_trans h (by decide))
def itStr (t : Str) (d c : Int) : Str := t ++ Str.ofString ", " ++ Str.ofString (toString d) ++ Str.ofString ", " ++ Str.ofString (toString c)
local macro_rules | `(tactic| walk_at "formatField") => `(tactic| (k_here; (with_reducible show wpAny _ _ (formatField (Value.str _ _) Str.empty) _ _ _); (refine PyProof.Rows.formatField_str ?_ (by rw [PySem.sizeLine_eq]; omega)); intro _ _))
local macro_rules | `(tactic| walk_at "formatField") => `(tactic| (k_here; (with_reducible show wpAny _ _ (formatField (Value.int _ _) Str.empty) _ _ _); (refine PyProof.Rows.formatField_int_small (by assumption) ?_)))
theorem retS {h : Heap} {tk : Nat} {x y : Str} {z : Tok} (hret : ∀ z h' tk', Fr h₀ L h' m → News h₀ L h' news → Q (.str x z) { s with heap := h', toks := tk' }) (e : y = x) (F : Fr h₀ L h m) (N : News h₀ L h news) : Q (.str y z) { s with heap := h, toks := tk } := by
  subst e; exact hret _ _ _ F N
theorem str_call (B : Below A₀ base outer h₀) (F : Fr h₀ L s.heap m) (X : (hd.heap_39 w.params).In h₀) (N : News h₀ L s.heap news)
    (T : Top hd.view_39 (looseW hd.view_39 [Str.ofString "SuggestItem"]) mean mg mb h₀)
    (hk : cs.kind = .function) (hdp : dp + 20 < recursionLimit) (hun : un + 160 < cLine)
    {q₁ : Addr} {t₁ : Str} {d₁ c₁ : Int} (hq₁ : IsIt w news q₁ t₁ d₁ c₁) (hT : t₁.length ≤ 1000) (hd : d₁.natAbs < 10 ^ 20) (hc : c₁.natAbs < 10 ^ 20)
    (hret : ∀ x h' tk', Fr h₀ L h' m → News h₀ L h' news → Q (.str (itStr t₁ d₁ c₁) x) { s with heap := h', toks := tk' }) :
    wpAny (model Challenge.rw_fe0310_01.row.prog w) (ktrTop dp un gd cn cs L a ccd cl outer) (call (.ref 49) [.ref q₁]) Q E s := by
  obtain ⟨dq, k1, k2, k3, x, y, z, hq1, hq2⟩ := hq₁
  have hD := iTxt_len hd
  have hC := iTxt_len hc
  have hd1 := iTxt_log hd
  have hc1 := iTxt_log hc
  clear hd hc
  refine wpAny_call ?_
  k_dflt ktr_enter
  k_steps
  all_goals refine retS hret ?_ (by assumption) (by assumption)
  · simp only [itStr, PySem.Str.empty_append]

theorem before_call (B : Below A₀ base outer h₀) (F : Fr h₀ L s.heap m) (X : (hd.heap_39 w.params).In h₀) (N : News h₀ L s.heap news)
    (T : Top hd.view_39 (looseW hd.view_39 [Str.ofString "SuggestItem"]) mean mg mb h₀)
    (hk : cs.kind = .function) (hdp : dp + 20 < recursionLimit) (hun : un + 160 < cLine)
    {q₁ q₂ : Addr} {t₁ t₂ : Str} {d₁ c₁ d₂ c₂ : Int} (hq₁ : IsTp news q₁ t₁ d₁ c₁) (hq₂ : IsTp news q₂ t₂ d₂ c₂)
    (hret : ∀ h' tk', Fr h₀ L h' m → News h₀ L h' news → Q (.bool (itLt d₁ c₁ d₂ c₂)) { s with heap := h', toks := tk' }) :
    wpAny (model Challenge.rw_fe0310_01.row.prog w) (ktrTop dp un gd cn cs L a ccd cl outer) (call (.ref 138) [.ref q₁, .ref q₂]) Q E s := by
  obtain ⟨x, y, z, hq1⟩ := hq₁
  obtain ⟨x', y', z', hr1⟩ := hq₂
  refine wpAny_call ?_
  k_dflt ktr_enter
  k_steps
  all_goals refine retB hret ?_ (by assumption) (by assumption)
  · simp [itLt, *]
  · simp [itLt, *]
  · simp [itLt, *]
end
end

section
local macro_rules | `(tactic| k_mem) => `(tactic| first | (with_reducible assumption) | exact List.mem_cons_self | (refine List.mem_cons_of_mem _ ?_; k_mem))
section
variable {w : World} {mean : ExcName → Option Value} {mg mb : Str → Option Value} {dp un : Nat} {gd : Option (List Code)} {cn : Str} {cs : Scope} {a : Addr} {ccd : Value} {cl : List (Str × Addr)} {outer : List Env}
  {A₀ : Around} {base h₀ : Heap} {L : Addr} {m : Str → Option Value} {news : List (Addr × Obj)} {s : Shared} {Q E : Value → Shared → Prop}


local macro_rules | `(tactic| walk_at "getAttr ref") => `(tactic| (k_here; (with_reducible show wpAny _ _ (getAttr (Value.ref _) (PySem.Str.ofString "term") _) _ _ _); k_dflt (refine' get_term ?k1 ?k2 ?k3 ?k4 ?k5 ?k6 ?k7 ?k8 ?k9 ?k10 ?_; (case k1 => k_asm); (case k2 => k_asm); (case k3 => k_asm); (case k4 => k_asm); (case k5 => k_asm); (case k6 => first | exact rfl | assumption); (case k7 => ktr_room); (case k8 => ktr_units); (case k9 => k_mem); (case k10 => k_mem); k_whole); intro h9 tk9 F9 N9; (try dsimp only); (try k_fold)))
local macro_rules | `(tactic| walk_at "getAttr ref") => `(tactic| (k_here; (with_reducible show wpAny _ _ (getAttr (Value.ref _) (PySem.Str.ofString "distance") _) _ _ _); k_dflt (refine' get_distance ?k1 ?k2 ?k3 ?k4 ?k5 ?k6 ?k7 ?k8 ?k9 ?k10 ?_; (case k1 => k_asm); (case k2 => k_asm); (case k3 => k_asm); (case k4 => k_asm); (case k5 => k_asm); (case k6 => first | exact rfl | assumption); (case k7 => ktr_room); (case k8 => ktr_units); (case k9 => k_mem); (case k10 => k_mem); k_whole); intro h9 tk9 F9 N9; (try dsimp only); (try k_fold)))
local macro_rules | `(tactic| walk_at "getAttr ref") => `(tactic| (k_here; (with_reducible show wpAny _ _ (getAttr (Value.ref _) (PySem.Str.ofString "count") _) _ _ _); k_dflt (refine' get_count ?k1 ?k2 ?k3 ?k4 ?k5 ?k6 ?k7 ?k8 ?k9 ?k10 ?_; (case k1 => k_asm); (case k2 => k_asm); (case k3 => k_asm); (case k4 => k_asm); (case k5 => k_asm); (case k6 => first | exact rfl | assumption); (case k7 => ktr_room); (case k8 => ktr_units); (case k9 => k_mem); (case k10 => k_mem); k_whole); intro h9 tk9 F9 N9; (try dsimp only); (try k_fold)))
theorem sub_cons {x : Addr × Obj} {l l' : List (Addr × Obj)} (h : ∀ p ∈ l, p ∈ l') : ∀ p ∈ l, p ∈ x :: l' := fun p hp => List.mem_cons_of_mem _ (h p hp)

theorem cmp_eq_it (B : Below A₀ base outer h₀) (F : Fr h₀ L s.heap m) (X : (hd.heap_39 w.params).In h₀) (N : News h₀ L s.heap news)
    (T : Top hd.view_39 (looseW hd.view_39 [Str.ofString "SuggestItem"]) mean mg mb h₀)
    (hk : cs.kind = .function) (hdp : dp + 30 < recursionLimit) (hun : un + 240 < cLine)
    {q₁ q₂ : Addr} {t₁ t₂ : Str} {d₁ c₁ d₂ c₂ : Int} (hq₁ : IsIt w news q₁ t₁ d₁ c₁) (hq₂ : IsIt w news q₂ t₂ d₂ c₂)
    (hret : ∀ h' tk', Fr h₀ L h' m → News h₀ L h' news → Q (.bool (itEq d₁ c₁ d₂ c₂)) { s with heap := h', toks := tk' }) :
    wpAny (model Challenge.rw_fe0310_01.row.prog w) (ktrTop dp un gd cn cs L a ccd cl outer) (compareOp .Eq (.ref q₁) (.ref q₂)) Q E s := by
  revert X
  k_fill
  intro X
  have hq₁' := hq₁; have hq₂' := hq₂
  obtain ⟨a1, a2, a3, a4, a5, a6, a7, hs1, hs2⟩ := hq₁'
  obtain ⟨b1, b2, b3, b4, b5, b6, b7, hs3, hs4⟩ := hq₂'
  refine cmp_ofEq ?_
  refine' cmp_K (tb := .ref 113) ?k1 ?k2 ?k3 ?k4 ?k5 ?k6 ?k7 ?k8 ?_; (case k1 => ktr_units); (case k2 => k_asm); (case k3 => k_asm); (case k4 => k_inst); (case k5 => exact InstAt.type (by k_inst)); (case k6 => k_is); (case k7 => k_is); (case k8 => k_is)
  exact eq_call B F X N T hk (by omega) (by omega) hq₁ hq₂ hret
theorem cmp_lt_it (B : Below A₀ base outer h₀) (F : Fr h₀ L s.heap m) (X : (hd.heap_39 w.params).In h₀) (N : News h₀ L s.heap news)
    (T : Top hd.view_39 (looseW hd.view_39 [Str.ofString "SuggestItem"]) mean mg mb h₀)
    (hk : cs.kind = .function) (hdp : dp + 30 < recursionLimit) (hun : un + 240 < cLine)
    {q₁ q₂ : Addr} {t₁ t₂ : Str} {d₁ c₁ d₂ c₂ : Int} (hq₁ : IsIt w news q₁ t₁ d₁ c₁) (hq₂ : IsIt w news q₂ t₂ d₂ c₂)
    (hret : ∀ h' tk', Fr h₀ L h' m → News h₀ L h' news → Q (.bool (itLt d₁ c₁ d₂ c₂)) { s with heap := h', toks := tk' }) :
    wpAny (model Challenge.rw_fe0310_01.row.prog w) (ktrTop dp un gd cn cs L a ccd cl outer) (compareOp .Lt (.ref q₁) (.ref q₂)) Q E s := by
  revert X
  k_fill
  intro X
  have hq₁' := hq₁; have hq₂' := hq₂
  obtain ⟨a1, a2, a3, a4, a5, a6, a7, hs1, hs2⟩ := hq₁'
  obtain ⟨b1, b2, b3, b4, b5, b6, b7, hs3, hs4⟩ := hq₂'
  refine cmp_ofLt ?_
  refine' cmp_K (tb := .ref 113) ?k1 ?k2 ?k3 ?k4 ?k5 ?k6 ?k7 ?k8 ?_; (case k1 => ktr_units); (case k2 => k_asm); (case k3 => k_asm); (case k4 => k_inst); (case k5 => exact InstAt.type (by k_inst)); (case k6 => k_is); (case k7 => k_is); (case k8 => k_is)
  exact lt_call B F X N T hk (by omega) (by omega) hq₁ hq₂ hret
local macro_rules | `(tactic| walk_at "compareOp Eq ref") => `(tactic| (k_here; (with_reducible show wpAny _ _ (compareOp CmpOp.Eq (Value.ref _) (Value.ref _)) _ _ _); k_dflt (refine' cmp_eq_it ?k1 ?k2 ?k3 ?k4 ?k5 ?k6 ?k7 ?k8 ?k9 ?k10 ?_; (case k1 => k_asm); (case k2 => k_asm); (case k3 => k_asm); (case k4 => k_asm); (case k5 => k_asm); (case k6 => first | exact rfl | assumption); (case k7 => ktr_room); (case k8 => ktr_units); (case k9 => first | assumption | exact IsIt.sub (by assumption) (by (repeat (first | exact fun _ h => h | refine sub_cons ?_))));(case k10 => first | assumption | exact IsIt.sub (by assumption) (by (repeat (first | exact fun _ h => h | refine sub_cons ?_)))); k_whole); intro h9 tk9 F9 N9; (try dsimp only); (try k_fold)))
local macro_rules | `(tactic| walk_at "compareOp Lt ref") => `(tactic| (k_here; (with_reducible show wpAny _ _ (compareOp CmpOp.Lt (Value.ref _) (Value.ref _)) _ _ _); k_dflt (refine' cmp_lt_it ?k1 ?k2 ?k3 ?k4 ?k5 ?k6 ?k7 ?k8 ?k9 ?k10 ?_; (case k1 => k_asm); (case k2 => k_asm); (case k3 => k_asm); (case k4 => k_asm); (case k5 => k_asm); (case k6 => first | exact rfl | assumption); (case k7 => ktr_room); (case k8 => ktr_units); (case k9 => first | assumption | exact IsIt.sub (by assumption) (by (repeat (first | exact fun _ h => h | refine sub_cons ?_))));(case k10 => first | assumption | exact IsIt.sub (by assumption) (by (repeat (first | exact fun _ h => h | refine sub_cons ?_)))); k_whole); intro h9 tk9 F9 N9; (try dsimp only); (try k_fold)))
local macro_rules | `(tactic| walk_at "call ref") => `(tactic| (k_here; (with_reducible show wpAny _ _ (call (Value.ref 138) [Value.ref _, Value.ref _]) _ _ _); k_dflt (refine' before_call ?k1 ?k2 ?k3 ?k4 ?k5 ?k6 ?k7 ?k8 ?k9 ?k10 ?_; (case k1 => k_asm); (case k2 => k_asm); (case k3 => k_asm); (case k4 => k_asm); (case k5 => k_asm); (case k6 => first | exact rfl | assumption); (case k7 => ktr_room); (case k8 => ktr_units); (case k9 => first | assumption | exact IsTp.sub (by assumption) (by (repeat (first | exact fun _ h => h | refine sub_cons ?_))));(case k10 => first | assumption | exact IsTp.sub (by assumption) (by (repeat (first | exact fun _ h => h | refine sub_cons ?_)))); k_whole); intro h9 tk9 F9 N9; (try dsimp only); (try k_fold)))

theorem two_call (B : Below A₀ base outer h₀) (F : Fr h₀ L s.heap m) (X : (hd.heap_39 w.params).In h₀) (N : News h₀ L s.heap news)
    (T : Top hd.view_39 (looseW hd.view_39 [Str.ofString "SuggestItem"]) mean mg mb h₀)
    (hk : cs.kind = .function) (hdp : dp + 40 < recursionLimit) (hun : un + 320 < cLine)
    {p₁ p₂ q₁ q₂ : Addr} {t₁ t₂ : Str} {d₁ c₁ d₂ c₂ : Int} (hi₁ : IsIt w news p₁ t₁ d₁ c₁) (hi₂ : IsIt w news p₂ t₂ d₂ c₂) (ht₁ : IsTp news q₁ t₁ d₁ c₁) (ht₂ : IsTp news q₂ t₂ d₂ c₂)
    (hret : ∀ h' tk', Fr h₀ L h' m → News h₀ L h' news → Q (.bool true) { s with heap := h', toks := tk' }) :
    wpAny (model Challenge.rw_fe0310_01.row.prog w) (ktrTop dp un gd cn cs L a ccd cl outer) (call (.ref 164) [.ref p₁, .ref p₂, .ref q₁, .ref q₂]) Q E s := by
  revert X
  k_fill
  intro X
  have ht₁' := ht₁
  have ht₂' := ht₂
  have hi₁' := hi₁
  have hi₂' := hi₂
  obtain ⟨x, y, z, hq1⟩ := ht₁'
  obtain ⟨x', y', z', hr1⟩ := ht₂'
  obtain ⟨a1, a2, a3, a4, a5, a6, a7, hs1, hs2⟩ := hi₁'
  obtain ⟨b1, b2, b3, b4, b5, b6, b7, hs3, hs4⟩ := hi₂'
  refine wpAny_call ?_
  k_dflt ktr_enter
  k_steps
  all_goals refine retB hret ?_ (by assumption) (cb_drop (by assumption) (by (repeat (first | exact fun _ h => h | refine sub_cons ?_))))
  · simp [itEq, *]
  · simp [itEq, *]

end
end

section
local macro_rules | `(tactic| k_mem) => `(tactic| first | (with_reducible assumption) | exact List.mem_cons_self | (refine List.mem_cons_of_mem _ ?_; k_mem))
section
variable {w : World} {mean : ExcName → Option Value} {mg mb : Str → Option Value} {dp un : Nat} {gd : Option (List Code)} {cn : Str} {cs : Scope} {a : Addr} {ccd : Value} {cl : List (Str × Addr)} {outer : List Env}
  {A₀ : Around} {base h₀ : Heap} {L : Addr} {m : Str → Option Value} {news : List (Addr × Obj)} {s : Shared} {Q E : Value → Shared → Prop}



theorem tno_113 {A : Around} {q dq : Addr} (X : (hd.heap_39 w.params).In s.heap) (h1 : s.heap.get? q = some (instObj 113 dq)) {Q : String → Shared → Prop} (h : Q "SuggestItem" s) :
    wpAny (model Challenge.rw_fe0310_01.row.prog w) A (PySem.typeNameOf (.ref q)) Q E s := by
  revert X
  k_fill
  intro X
  have L0 : Looks (model Challenge.rw_fe0310_01.row.prog w) s.heap (typeOf (.ref q)) (.ref 113) := (Looks.ld h1).andThen .now
  obtain ⟨cd, hc⟩ : ∃ cd, clsIn (hd.heap_39 w.params) 113 = some cd := ⟨_, by k_is⟩
  have hn : cd.name = Str.ofString "SuggestItem" := by
    have h0 : (clsIn (hd.heap_39 w.params) 113).map (·.name) = some (Str.ofString "SuggestItem") := by rfl
    rw [hc] at h0; exact Option.some.inj h0
  unfold PySem.typeNameOf shownTypeOf
  refine wpAny_bind (wpAny_bind (L0.here ?_))
  rw [if_neg (by decide)]
  refine wpAny_pure ?_
  unfold PySem.typeName
  refine wpAny_bind ((looks_clsIn X hc).here ?_)
  rw [hn]
  exact wpAny_pure h

theorem cmp_lt_int (B : Below A₀ base outer h₀) (F : Fr h₀ L s.heap m) (X : (hd.heap_39 w.params).In h₀) (N : News h₀ L s.heap news)
    (T : Top hd.view_39 (looseW hd.view_39 [Str.ofString "SuggestItem"]) mean mg mb h₀)
    (hk : cs.kind = .function) (hdp : dp + 30 < recursionLimit) (hun : un + 240 < cLine)
    {q₁ : Addr} {t₁ : Str} {d₁ c₁ : Int} {i : Int} {x : Tok} (hq₁ : IsIt w news q₁ t₁ d₁ c₁) (hret : ∀ h h' tk' e, Fr h₀ L h m → News h₀ L h news → Heap.NewExc h h' e "TypeError" → E (.ref e) { s with heap := h', toks := tk' }) :
    wpAny (model Challenge.rw_fe0310_01.row.prog w) (ktrTop dp un gd cn cs L a ccd cl outer) (compareOp .Lt (.ref q₁) (.int i x)) Q E s := by
  revert X
  k_fill
  intro X
  have hq₁' := hq₁
  obtain ⟨a1, a2, a3, a4, a5, a6, a7, hs1, hs2⟩ := hq₁'
  have I : InstAt s.heap q₁ (instObj 113 a1) 113 (some _) := InstAt.of_news N hs1 hs2
  have hu : (ktrTop dp un gd cn cs L a ccd cl outer).units < cLine := by show un < cLine; omega
  have Xs := X.keeps F.keep
  refine cmp_ofLt ?_
  unfold richCompare
  simp only [oneThing_ref]
  refine wpAny_holding (wpAny_bind (wpAny_cRoomFor hu ?_))
  refine wpAny_bind (I.type.here (wpAny_bind (Looks.here (r := .type "int") (Looks.of_pure rfl) ?_)))
  rw [if_pos (by decide)]
  refine wpAny_bind ((looks_subIn (r := false) Xs (by k_is)).here ?_)
  simp only [Bool.false_eq_true, if_false, Bool.not_false, if_true]
  have one : wpAny (model Challenge.rw_fe0310_01.row.prog w) (ktrTop dp un gd cn cs L a ccd cl outer) (tryCompare (.ref q₁) (cmpInfo .Lt).2.1 (.int i x))
      (fun r s' => r = none ∧ ∃ h' tk', s' = { s with heap := h', toks := tk' } ∧ Fr h₀ L h' m ∧ News h₀ L h' news) E s := by
    unfold tryCompare
    refine wpAny_bind (ifBound_K (f := 42) Xs I (by k_is) (by k_is) (lt_int B F X N T hk (by omega) (by omega) hq₁ fun h' tk' F' N' => ?_))
    exact wpAny_pure ⟨rfl, h', tk', rfl, F', N'⟩
  refine wpAny_bind (wpAny_mono one (fun r s₁ h₁ => ?_) fun _ _ e => e)
  obtain ⟨rfl, h', tk', rfl, F', N'⟩ := h₁
  dsimp only
  refine wpAny_bind (m := tryCompare (.int i x) _ (.ref q₁)) (wpAny_tryCompare_declines (T := "int") (id := "int.__gt__") (typeIs_int _ i x) PySem.F.slot_int_gt ?_)
  refine wpAny_call_entry PySem.F.slot_int_gt (typeIs_int _ i x) PySem.F.entry_int_gt ?_ (PySem.F.args_int_gt_2 _ _)
  refine nd_load (N' _ hs1).1 ?_
  show wpAny _ _ (do rule "int.binary.not-an-int"; ret .notImplemented) _ _ _
  refine wpAny_bind (wpAny_rule (wpAny_pure ⟨_, rfl, rfl, ?_⟩))
  refine wpAny_bind (wpAny_rule (wpAny_bind (tno_113 (X.keeps F'.keep) (N' _ hs1).1 ?_)))
  refine wpAny_bind (wpAny_typeNameOf' (T := "int") (typeIs_int _ i x) (by decide) ?_)
  exact wpAny_raiseTypeError rfl (fun h'' tk'' e hx => hret _ _ _ _ F' N' hx) (by decide +kernel)

theorem cmp_lt_none (B : Below A₀ base outer h₀) (F : Fr h₀ L s.heap m) (X : (hd.heap_39 w.params).In h₀) (N : News h₀ L s.heap news)
    (T : Top hd.view_39 (looseW hd.view_39 [Str.ofString "SuggestItem"]) mean mg mb h₀)
    (hk : cs.kind = .function) (hdp : dp + 30 < recursionLimit) (hun : un + 240 < cLine)
    {q₁ : Addr} {t₁ : Str} {d₁ c₁ : Int} (hq₁ : IsIt w news q₁ t₁ d₁ c₁) (hret : ∀ h h' tk' e, Fr h₀ L h m → News h₀ L h news → Heap.NewExc h h' e "TypeError" → E (.ref e) { s with heap := h', toks := tk' }) :
    wpAny (model Challenge.rw_fe0310_01.row.prog w) (ktrTop dp un gd cn cs L a ccd cl outer) (compareOp .Lt (.ref q₁) .none) Q E s := by
  revert X
  k_fill
  intro X
  have hq₁' := hq₁
  obtain ⟨a1, a2, a3, a4, a5, a6, a7, hs1, hs2⟩ := hq₁'
  have I : InstAt s.heap q₁ (instObj 113 a1) 113 (some _) := InstAt.of_news N hs1 hs2
  have hu : (ktrTop dp un gd cn cs L a ccd cl outer).units < cLine := by show un < cLine; omega
  have Xs := X.keeps F.keep
  refine cmp_ofLt ?_
  unfold richCompare
  simp only [oneThing_ref]
  refine wpAny_holding (wpAny_bind (wpAny_cRoomFor hu ?_))
  refine wpAny_bind (I.type.here (wpAny_bind (Looks.here (r := .type "NoneType") (Looks.of_pure rfl) ?_)))
  rw [if_pos (by decide)]
  refine wpAny_bind ((looks_subIn (r := false) Xs (by k_is)).here ?_)
  simp only [Bool.false_eq_true, if_false, Bool.not_false, if_true]
  have one : wpAny (model Challenge.rw_fe0310_01.row.prog w) (ktrTop dp un gd cn cs L a ccd cl outer) (tryCompare (.ref q₁) (cmpInfo .Lt).2.1 .none)
      (fun r s' => r = none ∧ ∃ h' tk', s' = { s with heap := h', toks := tk' } ∧ Fr h₀ L h' m ∧ News h₀ L h' news) E s := by
    unfold tryCompare
    refine wpAny_bind (ifBound_K (f := 42) Xs I (by k_is) (by k_is) (lt_none B F X N T hk (by omega) (by omega) hq₁ fun h' tk' F' N' => ?_))
    exact wpAny_pure ⟨rfl, h', tk', rfl, F', N'⟩
  refine wpAny_bind (wpAny_mono one (fun r s₁ h₁ => ?_) fun _ _ e => e)
  obtain ⟨rfl, h', tk', rfl, F', N'⟩ := h₁
  dsimp only
  refine wpAny_bind (m := tryCompare .none _ (.ref q₁)) (wpAny_tryCompare_declines (T := "NoneType") (id := "NoneType.__gt__") rfl PySem.F.slot_NoneType_gt ?_)
  refine wpAny_call_entry PySem.F.slot_NoneType_gt rfl PySem.F.entry_NoneType_gt ?_ (PySem.F.args_NoneType_gt_2 _ _)
  show wpAny _ _ (do ret .notImplemented) _ _ _
  refine wpAny_pure ⟨_, rfl, rfl, ?_⟩
  refine wpAny_bind (wpAny_rule (wpAny_bind (tno_113 (X.keeps F'.keep) (N' _ hs1).1 ?_)))
  refine wpAny_bind (wpAny_typeNameOf' (T := "NoneType") rfl (by decide) ?_)
  exact wpAny_raiseTypeError rfl (fun h'' tk'' e hx => hret _ _ _ _ F' N' hx) (by decide +kernel)

theorem cmp_eq_int (B : Below A₀ base outer h₀) (F : Fr h₀ L s.heap m) (X : (hd.heap_39 w.params).In h₀) (N : News h₀ L s.heap news)
    (T : Top hd.view_39 (looseW hd.view_39 [Str.ofString "SuggestItem"]) mean mg mb h₀)
    (hk : cs.kind = .function) (hdp : dp + 30 < recursionLimit) (hun : un + 240 < cLine)
    {q₁ : Addr} {t₁ : Str} {d₁ c₁ : Int} {i : Int} {x : Tok} (hq₁ : IsIt w news q₁ t₁ d₁ c₁) (hret : ∀ h' tk', Fr h₀ L h' m → News h₀ L h' news → Q (.bool false) { s with heap := h', toks := tk' }) :
    wpAny (model Challenge.rw_fe0310_01.row.prog w) (ktrTop dp un gd cn cs L a ccd cl outer) (compareOp .Eq (.ref q₁) (.int i x)) Q E s := by
  revert X
  k_fill
  intro X
  have hq₁' := hq₁
  obtain ⟨a1, a2, a3, a4, a5, a6, a7, hs1, hs2⟩ := hq₁'
  have I : InstAt s.heap q₁ (instObj 113 a1) 113 (some _) := InstAt.of_news N hs1 hs2
  have hu : (ktrTop dp un gd cn cs L a ccd cl outer).units < cLine := by show un < cLine; omega
  have Xs := X.keeps F.keep
  refine cmp_ofEq ?_
  unfold richCompare
  simp only [oneThing_ref]
  refine wpAny_holding (wpAny_bind (wpAny_cRoomFor hu ?_))
  refine wpAny_bind (I.type.here (wpAny_bind (Looks.here (r := .type "int") (Looks.of_pure rfl) ?_)))
  rw [if_pos (by decide)]
  refine wpAny_bind ((looks_subIn (r := false) Xs (by k_is)).here ?_)
  simp only [Bool.false_eq_true, if_false, Bool.not_false, if_true]
  have one : wpAny (model Challenge.rw_fe0310_01.row.prog w) (ktrTop dp un gd cn cs L a ccd cl outer) (tryCompare (.ref q₁) (cmpInfo .Eq).2.1 (.int i x))
      (fun r s' => r = none ∧ ∃ h' tk', s' = { s with heap := h', toks := tk' } ∧ Fr h₀ L h' m ∧ News h₀ L h' news) E s := by
    unfold tryCompare
    refine wpAny_bind (ifBound_K (f := 35) Xs I (by k_is) (by k_is) (eq_int B F X N T hk (by omega) (by omega) hq₁ fun h' tk' F' N' => ?_))
    exact wpAny_pure ⟨rfl, h', tk', rfl, F', N'⟩
  refine wpAny_bind (wpAny_mono one (fun r s₁ h₁ => ?_) fun _ _ e => e)
  obtain ⟨rfl, h', tk', rfl, F', N'⟩ := h₁
  dsimp only
  refine wpAny_bind (m := tryCompare (.int i x) _ (.ref q₁)) (wpAny_tryCompare_declines (T := "int") (id := "int.__eq__") (typeIs_int _ i x) slot_int_eq ?_)
  refine wpAny_call_entry slot_int_eq (typeIs_int _ i x) entry_int_eq ?_ (args_int_eq _ _)
  refine nd_load (N' _ hs1).1 ?_
  show wpAny _ _ (do rule "int.binary.not-an-int"; ret .notImplemented) _ _ _
  refine wpAny_bind (wpAny_rule (wpAny_pure ⟨_, rfl, rfl, ?_⟩))
  refine wpAny_bind (wpAny_rule (wpAny_bind ?_))
  show wpAny _ _ (pure false) _ _ _
  exact wpAny_pure (wpAny_pure (hret _ _ F' N'))

theorem cmp_eq_tup (B : Below A₀ base outer h₀) (F : Fr h₀ L s.heap m) (X : (hd.heap_39 w.params).In h₀) (N : News h₀ L s.heap news)
    (T : Top hd.view_39 (looseW hd.view_39 [Str.ofString "SuggestItem"]) mean mg mb h₀)
    (hk : cs.kind = .function) (hdp : dp + 30 < recursionLimit) (hun : un + 240 < cLine)
    {q₁ q₂ : Addr} {t₁ t₂ : Str} {d₁ c₁ d₂ c₂ : Int} (hq₁ : IsIt w news q₁ t₁ d₁ c₁) (hq₂ : IsTp news q₂ t₂ d₂ c₂) (hret : ∀ h' tk', Fr h₀ L h' m → News h₀ L h' news → Q (.bool false) { s with heap := h', toks := tk' }) :
    wpAny (model Challenge.rw_fe0310_01.row.prog w) (ktrTop dp un gd cn cs L a ccd cl outer) (compareOp .Eq (.ref q₁) (.ref q₂)) Q E s := by
  revert X
  k_fill
  intro X
  have hq₁' := hq₁
  have hq₂' := hq₂
  obtain ⟨a1, a2, a3, a4, a5, a6, a7, hs1, hs2⟩ := hq₁'
  obtain ⟨b1, b2, b3, hs3⟩ := hq₂'
  have I : InstAt s.heap q₁ (instObj 113 a1) 113 (some _) := InstAt.of_news N hs1 hs2
  have hu : (ktrTop dp un gd cn cs L a ccd cl outer).units < cLine := by show un < cLine; omega
  have Xs := X.keeps F.keep
  have hne : q₁ ≠ q₂ := fun e => by
    subst e
    have h1 := (N _ hs1).1; have h2 := (N _ hs3).1
    rw [h1] at h2; cases h2
  have Lt : Looks (model Challenge.rw_fe0310_01.row.prog w) s.heap (typeOf (.ref q₂)) (.type "tuple") := (Looks.ld (N _ hs3).1).andThen .now
  refine cmp_ofEq ?_
  unfold richCompare
  simp only [oneThing_ref]
  refine wpAny_holding (wpAny_bind (wpAny_cRoomFor hu ?_))
  refine wpAny_bind (I.type.here (wpAny_bind (Lt.here ?_)))
  rw [if_pos (by decide)]
  refine wpAny_bind ((looks_subIn (r := false) Xs (by k_is)).here ?_)
  simp only [Bool.false_eq_true, if_false, Bool.not_false, if_true]
  have one : wpAny (model Challenge.rw_fe0310_01.row.prog w) (ktrTop dp un gd cn cs L a ccd cl outer) (tryCompare (.ref q₁) (cmpInfo .Eq).2.1 (.ref q₂))
      (fun r s' => r = none ∧ ∃ h' tk', s' = { s with heap := h', toks := tk' } ∧ Fr h₀ L h' m ∧ News h₀ L h' news) E s := by
    unfold tryCompare
    refine wpAny_bind (ifBound_K (f := 35) Xs I (by k_is) (by k_is) (eq_tup B F X N T hk (by omega) (by omega) hq₁ hq₂ fun h' tk' F' N' => ?_))
    exact wpAny_pure ⟨rfl, h', tk', rfl, F', N'⟩
  refine wpAny_bind (wpAny_mono one (fun r s₁ h₁ => ?_) fun _ _ e => e)
  obtain ⟨rfl, h', tk', rfl, F', N'⟩ := h₁
  dsimp only
  have ht2 : ∀ u : Nat, Shared.TypeIs { s with heap := h', toks := u } (.ref q₂) "tuple" := fun u => ⟨_, (N' _ hs3).1, rfl⟩
  refine wpAny_bind (m := tryCompare (.ref q₂) _ (.ref q₁)) (wpAny_tryCompare_declines (T := "tuple") (id := "tuple.__eq__") (ht2 _) PySem.F.slot_tuple_eq ?_)
  refine wpAny_call_entry PySem.F.slot_tuple_eq (ht2 _) PySem.F.entry_tuple_eq ?_ (PySem.F.args_tuple_eq_2 _ _)
  have I' : InstAt h' q₁ (instObj 113 a1) 113 (some _) := InstAt.of_news N' hs1 hs2
  have e1 : Looks (model Challenge.rw_fe0310_01.row.prog w) h' (isInstance (.ref q₁) (.type "tuple")) false := by
    unfold isInstance
    exact I'.type.andThen (looks_subIn (X.keeps F'.keep) (by k_is))
  refine wpAny_bind (m := isInstance (.ref q₁) (.type "tuple")) (e1.here ?_)
  show wpAny _ _ (ret .notImplemented) _ _ _
  refine wpAny_pure ⟨_, rfl, rfl, ?_⟩
  refine wpAny_bind (wpAny_rule (wpAny_bind ?_))
  unfold isSame
  dsimp only
  rw [if_neg (by simpa using hne)]
  refine wpAny_bind (wpAny_load (N' _ hs1).1 (wpAny_bind (wpAny_load (N' _ hs3).1 ?_)))
  exact wpAny_pure (wpAny_pure (hret _ _ F' N'))
end
end

section
local macro_rules | `(tactic| k_mem) => `(tactic| first | (with_reducible assumption) | exact List.mem_cons_self | (refine List.mem_cons_of_mem _ ?_; k_mem))
section
variable {w : World} {mean : ExcName → Option Value} {mg mb : Str → Option Value} {dp un : Nat} {gd : Option (List Code)} {cn : Str} {cs : Scope} {a : Addr} {ccd : Value} {cl : List (Str × Addr)} {outer : List Env}
  {A₀ : Around} {base h₀ : Heap} {L : Addr} {m : Str → Option Value} {news : List (Addr × Obj)} {s : Shared} {Q E : Value → Shared → Prop}



theorem code_raw {A : Around} {K : Frag} {p : Program} {loose : List Str} {env : Env} {R : Result → Shared → Prop} {name qual : Str} {params : Arguments} {body : List Stmt} {scope : Scope} {dV kV doc pm cdv ct oc : Value} {an od : Option Addr} {osl : Array (Option Value)} {f : Addr} {args : Args} {binds : List (Str × Value)} {prog : Program}
    (B : Below A₀ base outer h₀) (F : Fr h₀ L s.heap m) (X₀ : K.In h₀) (N : News h₀ L s.heap news) (T : Top p loose mean mg mb h₀) (hA : A.frames = some (env :: outer)) (hf : env.frame = some L) (hke : env.scope.kind = .function)
    (ho : K.lookup f = some ⟨oc, od, .func (fnOf name qual params body scope dV kV doc pm an cdv ct), osl⟩) (hcd : codeIn K cdv qual = true) (hroom : A.depth < recursionLimit)
    (hbind : BindsTo s (fnOf name qual params body scope dV kV doc pm an cdv ct) args binds) (hloc : ∀ y ∈ binds, scope.names.lookup y.1 = some .local)
    (h : ∀ g L' h₁, Fr h₀ L g m → h₀.StaysIn g → Fr g L' h₁ (fun y => binds.reverse.lookup y) → News g L' h₁ news → Below A base (env :: outer) g → K.In g → Top p loose mean mg mb g →
      wpAny (model prog w) (A.deeper (envOf qual scope L' f cdv)) (execs body (envOf qual scope L' f cdv))
        (fun fl s' => R (.ok (.ret (match fl with | .ret v => v | _ => .none))) s')
        (fun e s' => wpAny (model prog w) (A.deeper (envOf qual scope L' f cdv)) (leaving (envOf qual scope L' f cdv) e) (fun _ s'' => R (.error e) s'') (fun e' s'' => R (.error e') s'') s')
        { s with heap := h₁, toks := s.toks + binds.length })
    (hco : scope.isCoroutine = false) (hgen : scope.isGenerator = false) (hk : scope.kind = .function)
    (hcell : ∀ x ∈ scope.names, x.2 ≠ .cell) : codeAny (model prog w) A (.call (.ref f) args) R s := by
  have G := groundX (R := R) B F N hA hf hke
  refine codeAny_call_def (fd := fnX name qual params body scope [] dV kV doc pm an cdv ct) (body := body) (binds := binds) hroom ((X₀.keeps F.keep) _ _ ho) rfl (T.nolimit.keeps F.keep) (codeRec_of (X₀.keeps F.keep) hcd) rfl hbind hcell hloc (fun h₁ hns hk₁ => ?_) hco hgen hk
  exact h _ s.heap.objs.size h₁ G.1 G.2.2.1 ⟨hns, fun b o e => hk₁ b o (of_hideAll _ e), Nat.le_of_eq (hideAll_size _ _)⟩
    (fun p hp => ⟨hk₁ _ _ (N p hp).1, Nat.ne_of_lt (Heap.lt_size (N p hp).1), hideAll_none _ (List.mem_map_of_mem hp)⟩) G.2.1 (X₀.keeps G.2.2.1) (T.keeps G.2.2.1)

theorem refused_int (B : Below A₀ base [] h₀) (F : Fr h₀ L s.heap m) (X : (hd.heap_39 w.params).In h₀) (N : News h₀ L s.heap news)
    (T : Top hd.view_39 (looseW hd.view_39 [Str.ofString "SuggestItem"]) mean mg mb h₀)
    (hk : cs.kind = .function) (hdp : dp + 50 < recursionLimit) (hun : un + 400 < cLine)
    {p₁ : Addr} {t₁ : Str} {d₁ c₁ : Int} {i : Int} {x : Tok} (hi₁ : IsIt w news p₁ t₁ d₁ c₁)
    (hret : ∀ h' tk', Fr h₀ L h' m → News h₀ L h' news → Q (.bool true) { s with heap := h', toks := tk' }) :
    wpAny (model Challenge.rw_fe0310_01.row.prog w) (ktrTop dp un gd cn cs L a ccd cl []) (call (.ref 157) [.ref p₁, .int i x]) Q E s := by
  revert X
  k_fill
  intro X
  refine wpAny_call ?_
  k_dflt (refine' code_raw ?k1 ?k2 ?k3 ?k4 ?k5 ?kA ?kF ?kK ?k6 ?k7 ?k8 ?k9 ?kB ?_ ?c2 ?c3 ?c4 ?c5; (case kA => exact rfl); (case kF => exact rfl); (case kK => assumption); (case k1 => k_asm); (case k2 => k_asm); (case k3 => k_asm); (case k4 => k_asm); (case k5 => k_asm); (case k6 => k_is); (case k7 => k_is); (case k8 => ktr_room); (case k9 => exact BindsTo.of_eq rfl); (case c5 => decide); (case kB => exact locs rfl); (case c2 => exact rfl); (case c3 => exact rfl); (case c4 => exact rfl); k_whole)
  intro g L' h₁ FG st F' N' B' X' T'
  (try dsimp only); (try k_fold)
  have hi₁' := hi₁
  obtain ⟨a1, a2, a3, a4, a5, a6, a7, hs1, hs2⟩ := hi₁'
  k_steps
  refine cmp_lt_int (outer := [envX cn cs L a ccd cl]) (dp := dp + 1) (un := un + 3) B' F' X' N' T' rfl (by omega) (by omega) hi₁ (fun h₂ h₃ tk e F₂ N₂ hx => ?_)
  obtain ⟨oL, es, ep, hL, hLd, hLk, hLf⟩ := FG.ns
  have hLt : L < g.objs.size := Heap.lt_size hL
  have hLL : L ≠ L' := Nat.ne_of_lt (Nat.lt_of_lt_of_le hLt F₂.above)
  have hsub : ∀ b o, (g.hide L).get? b = some o → g.get? b = some o := fun b o q => Heap.of_hide q
  have hst : h₀.StaysIn (g.hide L) := fun b o q => by
    have hb : b ≠ L := fun q' => by
      have := F.above
      exact absurd (Heap.lt_size q) (by rw [q']; exact Nat.not_lt.mpr this)
    exact (Heap.hide_ne g hb).trans (st b o q)
  have Fb : Fr (g.hide L) L' h₂ _ := ⟨F₂.ns, fun b o q => F₂.keep b o (hsub b o q), by rw [Heap.hide_size]; exact F₂.above⟩
  have Nb : News (g.hide L) L' h₂ (news ++ [(L, oL)]) := fun q hq => by
    rcases List.mem_append.mp hq with hq | hq
    · refine ⟨(N₂ q hq).1, (N₂ q hq).2.1, ?_⟩
      cases hg : (g.hide L).get? q.1 with
      | none => rfl
      | some o => have := hsub _ _ hg; rw [(N₂ q hq).2.2] at this; cases this
    · rw [List.mem_singleton.mp hq]
      exact ⟨F₂.keep _ _ hL, hLL, Heap.hide_self g L⟩
  have hne : ∀ q ∈ news, q.1 ∉ L' :: [(L, oL)].map (·.1) := fun q hq hm => by
    rcases List.mem_cons.mp hm with e1 | hm
    · exact (N₂ q hq).2.1 e1
    · have e2 : q.1 = L := List.mem_singleton.mp hm
      have := (N₂ q hq).2.2
      rw [e2, hL] at this; cases this
  refine TLg.noted_newA (l := [envX cn cs L a ccd cl]) (frs := [(L, oL)]) rfl ⟨by show cs.kind ≠ .module; rw [hk]; decide, rfl, ⟨es, ep, hLd⟩, trivial⟩ hx Fb Nb hne (fun h₄ frs' SU _ H => ?_)
  obtain ⟨sl, rfl⟩ := TLg.one_up SU
  refine TT.HeldNA.land H (fun h₅ H₅ => ?_)
  refine TT.clause_hitTN H₅ (T.keeps hst) (k := fun h₆ F₆ N₆ => ?_)
  k_steps
  show Q (.bool true) _
  refine hret _ _ ⟨⟨_, es, ep, (N₆ _ (List.mem_append_right _ List.mem_cons_self)).1, hLd, hLk, hLf⟩, fun b o q => F₆.keep b o (hst b o q), F.above⟩ fun q hq => ⟨(N₆ q (List.mem_append_left _ hq)).1, (N q hq).2⟩

theorem refused_none (B : Below A₀ base [] h₀) (F : Fr h₀ L s.heap m) (X : (hd.heap_39 w.params).In h₀) (N : News h₀ L s.heap news)
    (T : Top hd.view_39 (looseW hd.view_39 [Str.ofString "SuggestItem"]) mean mg mb h₀)
    (hk : cs.kind = .function) (hdp : dp + 50 < recursionLimit) (hun : un + 400 < cLine)
    {p₁ : Addr} {t₁ : Str} {d₁ c₁ : Int}  (hi₁ : IsIt w news p₁ t₁ d₁ c₁)
    (hret : ∀ h' tk', Fr h₀ L h' m → News h₀ L h' news → Q (.bool true) { s with heap := h', toks := tk' }) :
    wpAny (model Challenge.rw_fe0310_01.row.prog w) (ktrTop dp un gd cn cs L a ccd cl []) (call (.ref 157) [.ref p₁, .none]) Q E s := by
  revert X
  k_fill
  intro X
  refine wpAny_call ?_
  k_dflt (refine' code_raw ?k1 ?k2 ?k3 ?k4 ?k5 ?kA ?kF ?kK ?k6 ?k7 ?k8 ?k9 ?kB ?_ ?c2 ?c3 ?c4 ?c5; (case kA => exact rfl); (case kF => exact rfl); (case kK => assumption); (case k1 => k_asm); (case k2 => k_asm); (case k3 => k_asm); (case k4 => k_asm); (case k5 => k_asm); (case k6 => k_is); (case k7 => k_is); (case k8 => ktr_room); (case k9 => exact BindsTo.of_eq rfl); (case c5 => decide); (case kB => exact locs rfl); (case c2 => exact rfl); (case c3 => exact rfl); (case c4 => exact rfl); k_whole)
  intro g L' h₁ FG st F' N' B' X' T'
  (try dsimp only); (try k_fold)
  have hi₁' := hi₁
  obtain ⟨a1, a2, a3, a4, a5, a6, a7, hs1, hs2⟩ := hi₁'
  k_steps
  refine cmp_lt_none (outer := [envX cn cs L a ccd cl]) (dp := dp + 1) (un := un + 3) B' F' X' N' T' rfl (by omega) (by omega) hi₁ (fun h₂ h₃ tk e F₂ N₂ hx => ?_)
  obtain ⟨oL, es, ep, hL, hLd, hLk, hLf⟩ := FG.ns
  have hLt : L < g.objs.size := Heap.lt_size hL
  have hLL : L ≠ L' := Nat.ne_of_lt (Nat.lt_of_lt_of_le hLt F₂.above)
  have hsub : ∀ b o, (g.hide L).get? b = some o → g.get? b = some o := fun b o q => Heap.of_hide q
  have hst : h₀.StaysIn (g.hide L) := fun b o q => by
    have hb : b ≠ L := fun q' => by
      have := F.above
      exact absurd (Heap.lt_size q) (by rw [q']; exact Nat.not_lt.mpr this)
    exact (Heap.hide_ne g hb).trans (st b o q)
  have Fb : Fr (g.hide L) L' h₂ _ := ⟨F₂.ns, fun b o q => F₂.keep b o (hsub b o q), by rw [Heap.hide_size]; exact F₂.above⟩
  have Nb : News (g.hide L) L' h₂ (news ++ [(L, oL)]) := fun q hq => by
    rcases List.mem_append.mp hq with hq | hq
    · refine ⟨(N₂ q hq).1, (N₂ q hq).2.1, ?_⟩
      cases hg : (g.hide L).get? q.1 with
      | none => rfl
      | some o => have := hsub _ _ hg; rw [(N₂ q hq).2.2] at this; cases this
    · rw [List.mem_singleton.mp hq]
      exact ⟨F₂.keep _ _ hL, hLL, Heap.hide_self g L⟩
  have hne : ∀ q ∈ news, q.1 ∉ L' :: [(L, oL)].map (·.1) := fun q hq hm => by
    rcases List.mem_cons.mp hm with e1 | hm
    · exact (N₂ q hq).2.1 e1
    · have e2 : q.1 = L := List.mem_singleton.mp hm
      have := (N₂ q hq).2.2
      rw [e2, hL] at this; cases this
  refine TLg.noted_newA (l := [envX cn cs L a ccd cl]) (frs := [(L, oL)]) rfl ⟨by show cs.kind ≠ .module; rw [hk]; decide, rfl, ⟨es, ep, hLd⟩, trivial⟩ hx Fb Nb hne (fun h₄ frs' SU _ H => ?_)
  obtain ⟨sl, rfl⟩ := TLg.one_up SU
  refine TT.HeldNA.land H (fun h₅ H₅ => ?_)
  refine TT.clause_hitTN H₅ (T.keeps hst) (k := fun h₆ F₆ N₆ => ?_)
  k_steps
  show Q (.bool true) _
  refine hret _ _ ⟨⟨_, es, ep, (N₆ _ (List.mem_append_right _ List.mem_cons_self)).1, hLd, hLk, hLf⟩, fun b o q => F₆.keep b o (hst b o q), F.above⟩ fun q hq => ⟨(N₆ q (List.mem_append_left _ hq)).1, (N q hq).2⟩
end
end

section
local macro_rules | `(tactic| walk_at "no such key") => `(tactic| fail)
local macro_rules | `(tactic| k_mem) => `(tactic| first | (with_reducible assumption) | exact List.mem_cons_self | (refine List.mem_cons_of_mem _ ?_; k_mem))
section
variable {w : World} {mean : ExcName → Option Value} {mg mb : Str → Option Value} {dp un : Nat} {gd : Option (List Code)} {cn : Str} {cs : Scope} {a : Addr} {ccd : Value} {cl : List (Str × Addr)} {outer : List Env}
  {A₀ : Around} {base h₀ : Heap} {L : Addr} {m : Str → Option Value} {news : List (Addr × Obj)} {s : Shared} {Q E : Value → Shared → Prop}



local macro_rules | `(tactic| k_all) => `(tactic| assumption)

theorem set_term {Qu : Unit → Shared → Prop} {q dq : Addr} {k1 k2 k3 x y z ux : Tok} {t : Str} {d c : Int} {u : Str} (B : Below A₀ base outer h₀) (F : Fr h₀ L s.heap m) (X : (hd.heap_39 w.params).In h₀) (N : News h₀ L s.heap ((dq, itDict w k1 k2 k3 t x d y c z) :: news))
    (T : Top hd.view_39 (looseW hd.view_39 [Str.ofString "SuggestItem"]) mean mg mb h₀)
    (hk : cs.kind = .function) (hdp : dp + 20 < recursionLimit) (hun : un + 160 < cLine)
    (hq : (q, instObj 113 dq) ∈ news) (hne : ∀ p ∈ news, p.1 ≠ dq)
    (hret : ∀ h' tk', Fr h₀ L h' m → News h₀ L h' ((dq, itDict w k1 k2 k3 u ux d y c z) :: news) → Qu () { s with heap := h', toks := tk' }) :
    wpAny (model Challenge.rw_fe0310_01.row.prog w) (ktrTop dp un gd cn cs L a ccd cl outer) (setAttr (.ref q) (Str.ofString "term") (.str u ux)) Qu E s := by
  revert X
  k_fill
  intro X
  refine' set_prop ?k1 ?k2 ?k3 ?k4 ?k5 ?k6 ?k7 ?k8 ?_; (case k1 => k_asm); (case k2 => k_asm); (case k3 => k_inst); (case k4 => k_is); (case k5 => k_is); (case k6 => k_is); (case k7 => k_is); (case k8 => k_is)
  k_dflt ktr_enter
  k_steps
  exact hret _ _ (by assumption) (by assumption)

theorem set_distance {Qu : Unit → Shared → Prop} {q dq : Addr} {k1 k2 k3 x y z ux : Tok} {t : Str} {d c : Int} {u : Int} (B : Below A₀ base outer h₀) (F : Fr h₀ L s.heap m) (X : (hd.heap_39 w.params).In h₀) (N : News h₀ L s.heap ((dq, itDict w k1 k2 k3 t x d y c z) :: news))
    (T : Top hd.view_39 (looseW hd.view_39 [Str.ofString "SuggestItem"]) mean mg mb h₀)
    (hk : cs.kind = .function) (hdp : dp + 20 < recursionLimit) (hun : un + 160 < cLine)
    (hq : (q, instObj 113 dq) ∈ news) (hne : ∀ p ∈ news, p.1 ≠ dq)
    (hret : ∀ h' tk', Fr h₀ L h' m → News h₀ L h' ((dq, itDict w k1 k2 k3 t x u ux c z) :: news) → Qu () { s with heap := h', toks := tk' }) :
    wpAny (model Challenge.rw_fe0310_01.row.prog w) (ktrTop dp un gd cn cs L a ccd cl outer) (setAttr (.ref q) (Str.ofString "distance") (.int u ux)) Qu E s := by
  revert X
  k_fill
  intro X
  refine' set_prop ?k1 ?k2 ?k3 ?k4 ?k5 ?k6 ?k7 ?k8 ?_; (case k1 => k_asm); (case k2 => k_asm); (case k3 => k_inst); (case k4 => k_is); (case k5 => k_is); (case k6 => k_is); (case k7 => k_is); (case k8 => k_is)
  k_dflt ktr_enter
  k_steps
  exact hret _ _ (by assumption) (by assumption)

theorem set_count {Qu : Unit → Shared → Prop} {q dq : Addr} {k1 k2 k3 x y z ux : Tok} {t : Str} {d c : Int} {u : Int} (B : Below A₀ base outer h₀) (F : Fr h₀ L s.heap m) (X : (hd.heap_39 w.params).In h₀) (N : News h₀ L s.heap ((dq, itDict w k1 k2 k3 t x d y c z) :: news))
    (T : Top hd.view_39 (looseW hd.view_39 [Str.ofString "SuggestItem"]) mean mg mb h₀)
    (hk : cs.kind = .function) (hdp : dp + 20 < recursionLimit) (hun : un + 160 < cLine)
    (hq : (q, instObj 113 dq) ∈ news) (hne : ∀ p ∈ news, p.1 ≠ dq)
    (hret : ∀ h' tk', Fr h₀ L h' m → News h₀ L h' ((dq, itDict w k1 k2 k3 t x d y u ux) :: news) → Qu () { s with heap := h', toks := tk' }) :
    wpAny (model Challenge.rw_fe0310_01.row.prog w) (ktrTop dp un gd cn cs L a ccd cl outer) (setAttr (.ref q) (Str.ofString "count") (.int u ux)) Qu E s := by
  revert X
  k_fill
  intro X
  refine' set_prop ?k1 ?k2 ?k3 ?k4 ?k5 ?k6 ?k7 ?k8 ?_; (case k1 => k_asm); (case k2 => k_asm); (case k3 => k_inst); (case k4 => k_is); (case k5 => k_is); (case k6 => k_is); (case k7 => k_is); (case k8 => k_is)
  k_dflt ktr_enter
  k_steps
  exact hret _ _ (by assumption) (by assumption)
end
end

section
local macro_rules | `(tactic| k_mem) => `(tactic| first | (with_reducible assumption) | exact List.mem_cons_self | (refine List.mem_cons_of_mem _ ?_; k_mem))
section
variable {w : World} {mean : ExcName → Option Value} {mg mb : Str → Option Value} {dp un : Nat} {gd : Option (List Code)} {cn : Str} {cs : Scope} {a : Addr} {ccd : Value} {cl : List (Str × Addr)} {outer : List Env}
  {A₀ : Around} {base h₀ : Heap} {L : Addr} {m : Str → Option Value} {news : List (Addr × Obj)} {s : Shared} {Q E : Value → Shared → Prop}


local macro_rules | `(tactic| walk_at "call ref") => `(tactic| (k_here; (with_reducible show wpAny _ _ (call (Value.ref 113) [Value.str _ _, Value.int _ _, Value.int _ _]) _ _ _); k_dflt (refine' make_call ?k1 ?k2 ?k3 ?k4 ?k5 ?k6 ?k7 ?k8  ?_; (case k1 => k_asm); (case k2 => k_asm); (case k3 => k_asm); (case k4 => k_asm); (case k5 => k_asm); (case k6 => first | exact rfl | assumption); (case k7 => ktr_room); (case k8 => ktr_units);  k_whole); intro q9 dq9 a9 b9 c9 h9 tk9 F9 N9 l9 m9; (try dsimp only); (try k_fold)))

local macro_rules | `(tactic| walk_at "call builtin:len") => `(tactic| (k_here; (with_reducible show wpAny _ _ (call (Value.builtin "len") [Value.str _ _]) _ _ _); (refine len_writK _ rfl (by omega) ?_)))
local macro_rules | `(tactic| walk_at "binaryOp FloorDiv int int") => `(tactic| (k_here; (with_reducible show wpAny _ _ (binaryOp Operator.FloorDiv (Value.int 10 _) (Value.int (10 ^ _) _)) _ _ _); (refine floordiv_int (Int.ne_of_gt (Int.pow_pos (by decide))) ?_ (.inl (by assumption)))))
theorem pyl_pow (n : Nat) (h : n ≤ 6) : Builtin.divisionGoesByPylong 10 (10 ^ ((n : Int)).toNat) = false := by
  refine PyProof.noPylong_small ?_
  have e : ((n : Int)).toNat = n := by omega
  rw [e]
  have : n = 0 ∨ n = 1 ∨ n = 2 ∨ n = 3 ∨ n = 4 ∨ n = 5 ∨ n = 6 := by omega
  rcases this with rfl | rfl | rfl | rfl | rfl | rfl | rfl <;> decide

theorem create_call (B : Below A₀ base outer h₀) (F : Fr h₀ L s.heap m) (X : (hd.heap_39 w.params).In h₀) (N : News h₀ L s.heap news)
    (T : Top hd.view_39 (looseW hd.view_39 [Str.ofString "SuggestItem"]) mean mg mb h₀)
    (hk : cs.kind = .function) (hdp : dp + 40 < recursionLimit) (hun : un + 300 < cLine)
    {t : Str} {x : Tok} {d : Int} {y : Tok} (hT : t.length ≤ 6)
    (hret : ∀ q dq k1 k2 k3 z h' tk', Fr h₀ L h' m → News h₀ L h' ((q, instObj 113 dq) :: (dq, itDict w k1 k2 k3 t x d y (Int.fdiv 10 (10 ^ t.length)) z) :: news) → (∀ p ∈ news, p.1 < dq) → dq < q → Q (.ref q) { s with heap := h', toks := tk' }) :
    wpAny (model Challenge.rw_fe0310_01.row.prog w) (ktrTop dp un gd cn cs L a ccd cl outer) (call (.ref 107) [.ref 113, .str t x, .int d y]) Q E s := by
  revert X
  k_fill
  intro X
  have hpyl := pyl_pow _ hT
  refine wpAny_call ?_
  k_dflt ktr_enter
  k_steps
  exact hret _ _ _ _ _ _ _ _ (by assumption) (by assumption) (by assumption) (by assumption)
end
end

section
open PySem PySem.W PyProof.Rows PyProof.Rows.LCg
section
variable {prog : Program} {w : World} {A : Around} {E : Value → Shared → Prop} {s : Shared} {h₀ : Heap} {L : Addr} {m : Str → Option Value} {env : Env}
  {elt : Expr} {x : Str} {scope : Scope} {cl : List (Str × Addr)} {S : List (Addr × Obj) → Prop} {P : Nat → Value → Prop} {Fin : List Value → List (Addr × Obj) → Prop}

/-- one turn of a comprehension: what evaluating the element does, over any ledger that holds the one told -/
def Step (prog : Program) (w : World) (A : Around) (s : Shared) (h₀ : Heap) (L : Addr) (m : Str → Option Value) (env : Env) (elt : Expr) (x : Str) (scope : Scope) (cl : List (Str × Addr))
    (P : Nat → Value → Prop) (n : Nat) (J : Nat → List Value → List (Addr × Obj) → Prop) : Prop :=
  ∀ i v ys news' full C oC m₂ h tk (Q' E' : Value → Shared → Prop), P i v → i < n → NsObj oC m₂ → m₂ x = some v → Fr h₀ L h m → News h₀ L h full → (C, oC) ∈ full → (∀ q ∈ news', q ∈ full) → J i ys news' →
    (∀ y own h' tk', Fr h₀ L h' m → News h₀ L h' (own ++ full) → (∀ p ∈ own, ∀ q ∈ full, q.1 < p.1) → J (i + 1) (ys ++ [y]) (own ++ news') → Q' y { s with heap := h', toks := tk' }) →
    wpAny (model prog w) A (eval elt (compEnvC scope cl C env)) Q' E' { s with heap := h, toks := tk }

theorem compRest_of {n : Nat} {J : Nat → List Value → List (Addr × Obj) → Prop} {news : List (Addr × Obj)} (hstep : Step prog w A s h₀ L m env elt x scope cl P n J)
    (hS : ∀ news', (∀ p ∈ news, p ∈ news') → S news')
    (hfin : ∀ ys news', ys.length = n → J n ys news' → (∀ p ∈ news, p ∈ news') → Fin ys news') :
    ∀ k i ys news', i + k = n → ys.length = i → J i ys news' → (∀ p ∈ news, p ∈ news') → CompRest prog w A h₀ L m env elt x scope cl s S P Fin k i ys news'
  | 0, i, ys, news', hk, hy, hJ, hs => by
    have e : i = n := hk
    subst e
    exact CompRest.zero (hfin ys news' hy hJ hs)
  | k + 1, i, ys, news', hk, hy, hJ, hs => by
    refine CompRest.succ fun v I oI C oC D m₂ h tk E' hP hC hx F N off hne => ?_
    refine hstep i v ys news' _ C oC m₂ h tk _ _ hP (by omega) hC hx F N (List.mem_cons_of_mem _ List.mem_cons_self) (fun q hq => List.mem_cons_of_mem _ (List.mem_cons_of_mem _ (List.mem_cons_of_mem _ hq))) hJ fun y own h' tk' F' N' hlt hJ' => ?_
    have hI := fun p hp => hlt p hp (I, oI) List.mem_cons_self
    have hCl := fun p hp => hlt p hp (C, oC) (List.mem_cons_of_mem _ List.mem_cons_self)
    have hD := fun p hp => hlt p hp (D, lst ys) (List.mem_cons_of_mem _ (List.mem_cons_of_mem _ List.mem_cons_self))
    refine CompEnd.intro F' N' (own ++ news') (fun p hp => ?_) (Off3.of fun p hp => ?_) (hS _ fun p hp => List.mem_append_right _ (hs p hp)) ?_
    · rcases List.mem_cons.mp hp with rfl | hp
      · exact List.mem_append_right _ List.mem_cons_self
      rcases List.mem_cons.mp hp with rfl | hp
      · exact List.mem_append_right _ (List.mem_cons_of_mem _ List.mem_cons_self)
      rcases List.mem_cons.mp hp with rfl | hp
      · exact List.mem_append_right _ (List.mem_cons_of_mem _ (List.mem_cons_of_mem _ List.mem_cons_self))
      rcases List.mem_append.mp hp with hp | hp
      · exact List.mem_append_left _ hp
      · exact List.mem_append_right _ (List.mem_cons_of_mem _ (List.mem_cons_of_mem _ (List.mem_cons_of_mem _ hp)))
    · rcases List.mem_append.mp hp with hp | hp
      · exact ⟨Nat.ne_of_gt (hI p hp), Nat.ne_of_gt (hCl p hp), Nat.ne_of_gt (hD p hp)⟩
      · exact off.mem p hp
    · exact compRest_of hstep hS hfin k (i + 1) (ys ++ [y]) (own ++ news') (by omega) (by simp [hy]) hJ' (fun p hp => List.mem_append_right _ (hs p hp))

/-- a list comprehension over a list of the ledger -/
theorem comp_list {iter : Expr} {px : Pos} {pos : Pos} {Q : Value → Shared → Prop} {news : List (Addr × Obj)} {ax : Addr} {xs : List Value} {k : Nat} (J : Nat → List Value → List (Addr × Obj) → Prop)
    (F₀ : Fr h₀ L s.heap m) (hclos : closureFor scope env = pure cl) (hcell : ∀ y ∈ scope.names, y.2 ≠ .cell) (hkind : scope.kind = .function)
    (hnames : ∀ y ∈ scope.names, y.2 = .local → scope.names.lookup y.1 = some .local) (hx : scope.names.lookup x = some .local) (hh : A.handled = none)
    (hiter : wpAny (model prog w) A (eval iter env) (fun xv s₁ => xv = .ref ax ∧ ∃ h' tk', s₁ = { s with heap := h', toks := tk' } ∧ Fr h₀ L h' m ∧ News h₀ L h' news) E s)
    (hm : (ax, listOf xs.toArray k) ∈ news) (hsz : xs.length ≤ sizeLine) (h0 : J 0 [] news)
    (hstep : ∀ h' tk', Step prog w A { s with heap := h', toks := tk' } h₀ L m env elt x scope cl (fun i v => xs[i]? = some v) xs.length J)
    (hret : ∀ ys news' D h' tk', Fr h₀ L h' m → News h₀ L h' ((D, lst ys) :: news') → ys.length = xs.length → J xs.length ys news' → (∀ p ∈ news, p ∈ news') → (∀ q ∈ news', q.1 ≠ D) → Q (.ref D) { s with heap := h', toks := tk' })
    (hs : ∀ x, foldedSetIterable iter env x = pure x := by intro _; rfl) :
    wpAny (model prog w) A (eval (.ListComp elt [⟨.Name x px, iter, [], 0⟩] scope pos) env) Q E s := by
  refine ListComp_U F₀ hclos hcell hkind hnames hx (wpAny_mono hiter (fun xv s₁ h₁ => ?_) fun _ _ e => e) hs
  obtain ⟨rfl, h', tk', rfl, F, N⟩ := h₁
  refine CompSrc.ledger hh F N hm (by simpa using hsz) fun g => ?_
  have e : xs.toArray.size = xs.length := by simp
  rw [e]
  have e2 : (fun (i : Nat) (v : Value) => xs.toArray[i]? = some v) = fun i v => xs[i]? = some v := by funext i v; simp
  rw [e2]
  refine compRest_of (news := news) (hstep g tk') (fun news' hs => .inr ⟨_, hs _ hm, rfl, _, rfl⟩) (fun ys news' hy hJ hs D h'' tk'' F'' N'' o1 => ?_) xs.length 0 [] news (by simp) rfl h0 fun p hp => hp
  refine hret ys news' D h'' tk'' F'' N'' hy hJ hs ?_
  have off : ∀ {l : List (Addr × Obj)}, Off1 D l → ∀ q ∈ l, q.1 ≠ D := fun {l} => by
    induction l with
    | nil => intro _ q hq; cases hq
    | cons p r ih =>
      intro h q hq
      rcases List.mem_cons.mp hq with rfl | hq
      · exact h.1
      · exact ih h.2 q hq
  exact off o1
theorem off1 {D : Addr} : ∀ {l : List (Addr × Obj)}, Off1 D l → ∀ q ∈ l, q.1 ≠ D
  | [], _, q, hq => by cases hq
  | p :: r, h, q, hq => by
    rcases List.mem_cons.mp hq with rfl | hq
    · exact h.1
    · exact off1 h.2 q hq
theorem comp_list_to {iter : Expr} {y : Str} {px py : Pos} {pos spos : Pos} {Q : Flow → Shared → Prop} {news : List (Addr × Obj)} {ax : Addr} {xs : List Value} {k : Nat} (J : Nat → List Value → List (Addr × Obj) → Prop)
    (F₀ : Fr h₀ L s.heap m) (hLe : env.locals = L)
    (hsw : swapsWith (.ListComp elt [⟨.Name x px, iter, [], 0⟩] scope pos) (some (.Name y py)) spos.line env = pure true)
    (hclos : closureFor scope env = pure cl) (hcell : ∀ y ∈ scope.names, y.2 ≠ .cell) (hkind : scope.kind = .function)
    (hnames : ∀ y ∈ scope.names, y.2 = .local → scope.names.lookup y.1 = some .local) (hx : scope.names.lookup x = some .local)
    (hy : env.kindOf y = some .local) (hp : (env.scope.kind == .class || (env.scope.kind == .module && env.locals != env.globals)) = false) (hh : A.handled = none)
    (hiter : wpAny (model prog w) A (eval iter env) (fun xv s₁ => xv = .ref ax ∧ ∃ h' tk', s₁ = { s with heap := h', toks := tk' } ∧ Fr h₀ L h' m ∧ News h₀ L h' news) E s)
    (hm : (ax, listOf xs.toArray k) ∈ news) (hsz : xs.length ≤ sizeLine) (h0 : J 0 [] news)
    (hstep : ∀ h' tk', Step prog w A { s with heap := h', toks := tk' } h₀ L m env elt x scope cl (fun i v => xs[i]? = some v) xs.length J)
    (hret : ∀ ys news' D h' tk', Fr h₀ L h' (fun z => if z = y then some (.ref D) else m z) → News h₀ L h' ((D, lst ys) :: news') → ys.length = xs.length → J xs.length ys news' → (∀ p ∈ news, p ∈ news') → (∀ q ∈ news', q.1 ≠ D) → Q .next { s with heap := h', toks := tk' })
    (hs : ∀ x, foldedSetIterable iter env x = pure x := by intro _; rfl) :
    wpAny (model prog w) A (exec (.Assign [.Name y py] (.ListComp elt [⟨.Name x px, iter, [], 0⟩] scope pos) spos) env) Q E s := by
  refine Assign_ListComp_U F₀ hLe hsw hclos hcell hkind hnames hx hy hp (wpAny_mono hiter (fun xv s₁ h₁ => ?_) fun _ _ e => e) hs
  obtain ⟨rfl, h', tk', rfl, F, N⟩ := h₁
  refine CompSrc.ledger hh F N hm (by simpa using hsz) fun g => ?_
  have e : xs.toArray.size = xs.length := by simp
  rw [e]
  have e2 : (fun (i : Nat) (v : Value) => xs.toArray[i]? = some v) = fun i v => xs[i]? = some v := by funext i v; simp
  rw [e2]
  exact compRest_of (news := news) (hstep g tk') (fun news' hs => .inr ⟨_, hs _ hm, rfl, _, rfl⟩) (fun ys news' hy hJ hs D h'' tk'' F'' N'' o1 => hret ys news' D h'' tk'' F'' N'' hy hJ hs (off1 o1)) xs.length 0 [] news (by simp) rfl h0 fun p hp => hp
theorem comp_range_to {iter : Expr} {y : Str} {px py : Pos} {pos spos : Pos} {Q : Flow → Shared → Prop} {n : Nat} (J : Nat → List Value → List (Addr × Obj) → Prop)
    (F₀ : Fr h₀ L s.heap m) (hLe : env.locals = L)
    (hsw : swapsWith (.ListComp elt [⟨.Name x px, iter, [], 0⟩] scope pos) (some (.Name y py)) spos.line env = pure true)
    (hclos : closureFor scope env = pure cl) (hcell : ∀ y ∈ scope.names, y.2 ≠ .cell) (hkind : scope.kind = .function)
    (hnames : ∀ y ∈ scope.names, y.2 = .local → scope.names.lookup y.1 = some .local) (hx : scope.names.lookup x = some .local)
    (hy : env.kindOf y = some .local) (hp : (env.scope.kind == .class || (env.scope.kind == .module && env.locals != env.globals)) = false) (hh : A.handled = none)
    {news : List (Addr × Obj)} {a b : Int}
    (hiter : wpAny (model prog w) A (eval iter env) (fun xv s₁ => ∃ r t u v h' tk', xv = .ref r ∧ s₁ = { s with heap := h', toks := tk' } ∧ Fr h₀ L h' m ∧ News h₀ L h' news ∧ IsRange h' r a b 1 t u v) E s)
    (hsm : Builtin.Range.small a b 1 = true) (hn : Builtin.Range.rangeSize a b 1 = ((n : Nat) : Int)) (hsz : n ≤ sizeLine) (h0 : J 0 [] news)
    (hstep : ∀ h' tk', Step prog w A { s with heap := h', toks := tk' } h₀ L m env elt x scope cl (fun i v => ∃ t, v = .int (a + (i : Int)) t) n J)
    (hret : ∀ ys news' D h' tk', Fr h₀ L h' (fun z => if z = y then some (.ref D) else m z) → News h₀ L h' ((D, lst ys) :: news') → ys.length = n → J n ys news' → (∀ p ∈ news, p ∈ news') → (∀ q ∈ news', q.1 ≠ D) → Q .next { s with heap := h', toks := tk' })
    (hs : ∀ x, foldedSetIterable iter env x = pure x := by intro _; rfl) :
    wpAny (model prog w) A (exec (.Assign [.Name y py] (.ListComp elt [⟨.Name x px, iter, [], 0⟩] scope pos) spos) env) Q E s := by
  refine Assign_ListComp_U F₀ hLe hsw hclos hcell hkind hnames hx hy hp (wpAny_mono hiter (fun xv s₁ h₁ => ?_) fun _ _ e => e) hs
  obtain ⟨r, t, u, v, h', tk', rfl, rfl, F, N, hr⟩ := h₁
  refine CompSrc.range hh F N hr hsm hn hsz fun g => ?_
  exact compRest_of (news := news) (hstep g tk') (fun _ _ => trivial) (fun ys news' hy hJ hs D h'' tk'' F'' N'' o1 => hret ys news' D h'' tk'' F'' N'' hy hJ hs (off1 o1)) n 0 [] news (by simp) rfl h0 fun p hp => hp

/-- a comprehension that picks: over a list of the ledger, a test that answers for itself, the element the item -/
theorem comp_pick {ct iter : Expr} {px : Pos} {pos : Pos} {Q : Value → Shared → Prop} {news : List (Addr × Obj)} {ax : Addr} {xs : List Value} {k : Nat} (p : Value → Bool)
    (F₀ : Fr h₀ L s.heap m) (hclos : closureFor scope env = pure cl) (hcell : ∀ y ∈ scope.names, y.2 ≠ .cell) (hkind : scope.kind = .function)
    (hnames : ∀ y ∈ scope.names, y.2 = .local → scope.names.lookup y.1 = some .local) (hx : scope.names.lookup x = some .local) (hh : A.handled = none)
    (hiter : wpAny (model prog w) A (eval iter env) (fun xv s₁ => xv = .ref ax ∧ ∃ h' tk', s₁ = { s with heap := h', toks := tk' } ∧ Fr h₀ L h' m ∧ News h₀ L h' news) E s)
    (hm : (ax, listOf xs.toArray k) ∈ news) (hsz : xs.length ≤ sizeLine)
    (htest : ∀ v ∈ xs, ∀ full C oC m₂ h tk (Q' : Bool → Shared → Prop) (E' : Value → Shared → Prop), NsObj oC m₂ → m₂ x = some v → Fr h₀ L h m → News h₀ L h full → (C, oC) ∈ full → (∀ q ∈ news, q ∈ full) →
      (∀ h' tk', Fr h₀ L h' m → News h₀ L h' full → Q' (p v) { s with heap := h', toks := tk' }) → wpAny (model prog w) A (isTrue ct (compEnvC scope cl C env) (eval ct (compEnvC scope cl C env))) Q' E' { s with heap := h, toks := tk })
    (helt : ∀ v ∈ xs, ∀ full C oC m₂ h tk (Q' : Value → Shared → Prop) (E' : Value → Shared → Prop), NsObj oC m₂ → m₂ x = some v → Fr h₀ L h m → News h₀ L h full → (C, oC) ∈ full →
      (∀ h' tk', Fr h₀ L h' m → News h₀ L h' full → Q' v { s with heap := h', toks := tk' }) → wpAny (model prog w) A (eval elt (compEnvC scope cl C env)) Q' E' { s with heap := h, toks := tk })
    (hret : ∀ D h' tk', Fr h₀ L h' m → News h₀ L h' ((D, lst (xs.filter p)) :: news) → (∀ q ∈ news, q.1 ≠ D) → Q (.ref D) { s with heap := h', toks := tk' })
    (hs : ∀ x, foldedSetIterable iter env x = pure x := by intro _; rfl) :
    wpAny (model prog w) A (eval (.ListComp elt [⟨.Name x px, iter, [ct], 0⟩] scope pos) env) Q E s := by
  refine LCt.ListComp_T F₀ hclos hcell hkind hnames hx (wpAny_mono hiter (fun xv s₁ h₁ => ?_) fun _ _ e => e) hs
  obtain ⟨rfl, h', tk', rfl, F, N⟩ := h₁
  refine LCt.CompSrcT.ledger hh F N hm (by simpa using hsz) fun g => ?_
  have key : ∀ k i, i + k = xs.length → LCt.CompRestT prog w A h₀ L m env ct elt x scope cl { s with heap := g, toks := tk' } (SrcAt h₀ ax xs.toArray) (fun i v => xs.toArray[i]? = some v) (FinE h₀ L m { s with heap := g, toks := tk' } Q) k i ((xs.take i).filter p) news := by
    intro k
    induction k with
    | zero =>
      intro i hi
      refine LCt.CompRestT.zero fun D h'' tk'' F'' N'' o1 => ?_
      have e : xs.take i = xs := List.take_of_length_le (by omega)
      rw [e] at N''
      exact hret D h'' tk'' F'' N'' (off1 o1)
    | succ k ih =>
      intro i hi
      refine LCt.CompRestT.succ fun v I oI C oC D m₂ h tk E' hP hC hx F N off hne => ?_
      have hP' : xs[i]? = some v := by simpa using hP
      have hv : v ∈ xs := List.mem_of_getElem? hP'
      have et : xs.take (i + 1) = xs.take i ++ [v] := by rw [List.take_add_one, hP']; rfl
      refine htest v hv _ C oC m₂ h tk _ _ hC hx F N (List.mem_cons_of_mem _ List.mem_cons_self) (fun q hq => List.mem_cons_of_mem _ (List.mem_cons_of_mem _ (List.mem_cons_of_mem _ hq))) fun h1 tk1 F1 N1 => ?_
      have rest := ih (i + 1) (by omega)
      rw [et, List.filter_append] at rest
      have S1 : SrcAt h₀ ax xs.toArray news := .inr ⟨_, hm, rfl, _, rfl⟩
      cases hp : p v with
      | true =>
        rw [if_pos rfl]
        refine helt v hv _ C oC m₂ h1 tk1 _ _ hC hx F1 N1 (List.mem_cons_of_mem _ List.mem_cons_self) fun h2 tk2 F2 N2 => ?_
        have e3 : [v].filter p = [v] := by simp [hp]
        rw [e3] at rest
        exact CompEnd.intro F2 N2 news (fun _ h => h) off S1 rest
      | false =>
        rw [if_neg (by simp)]
        have e3 : [v].filter p = [] := by simp [hp]
        rw [e3, List.append_nil] at rest
        exact CompEnd.intro F1 N1 news (fun _ h => h) off S1 rest
  have e : xs.toArray.size = xs.length := by simp
  rw [e]
  exact key xs.length 0 (by omega)
end
end

section
open PySem PySem.W PyProof.Rows PyProof.Rows.LCg
section
variable {prog : Program} {w : World} {A : Around} {E : Value → Shared → Prop} {s : Shared} {h₀ : Heap} {env : Env} {target iter : Expr} {body : List Stmt} {pos : Pos} {Q : Flow → Shared → Prop} {m : Str → Option Value} {news : List (Addr × Obj)}

theorem items_list {I ax : Addr} {lo : Obj} {xs : List Value} {s₂ : Shared} (J : Nat → (Str → Option Value) → List (Addr × Obj) → Prop)
    (hstep : ∀ i v m₁ news₁ o h tk (P : Flow → Shared → Prop), xs[i]? = some v → J i m₁ news₁ → (ax, lo) ∈ news₁ → Fr h₀ env.locals h m₁ → News h₀ env.locals h ((I, o) :: news₁) → (∀ p ∈ news₁, p.1 ≠ I) →
      (∀ h' tk' m₂ news₂, Fr h₀ env.locals h' m₂ → News h₀ env.locals h' ((I, o) :: news₂) → (∀ p ∈ news₂, p.1 ≠ I) → (ax, lo) ∈ news₂ → J (i + 1) m₂ news₂ → P .next { s₂ with heap := h', toks := tk' }) → (∀ v s', Q (.ret v) s' → P (.ret v) s') →
      wpAny (model prog w) A (assign target env v) (fun _ s₃ => wpAny (model prog w) A (execs body env) P E s₃) E { s₂ with heap := h, toks := tk })
    (hfin : ∀ m' news' h' tk', J xs.length m' news' → Fr h₀ env.locals h' m' → News h₀ env.locals h' news' → Q .next { s₂ with heap := h', toks := tk' }) :
    ∀ k i m₁ news₁, i + k = xs.length → J i m₁ news₁ → (ax, lo) ∈ news₁ → (∀ p ∈ news₁, p.1 ≠ I) →
      ItemsRest prog w A E h₀ env target body Q s₂ [(I, "list_iterator")] [(ax, lo)] ((xs.drop i).map .val) m₁ news₁
  | 0, i, m₁, news₁, hk, hJ, _, _ => by
    have e : xs.drop i = [] := List.drop_of_length_le (by omega)
    have e2 : i = xs.length := hk
    rw [e]
    refine ItemsRest.zero fun h tk F N => hfin _ _ _ _ (e2 ▸ hJ) F N
  | k + 1, i, m₁, news₁, hk, hJ, hin, hne => by
    have hlt : i < xs.length := by omega
    rw [List.drop_eq_getElem_cons hlt]
    refine ItemsRest.val fun h tk F => AllObj.cons fun o _ => AllObj.nil fun N => ?_
    refine hstep i xs[i] m₁ news₁ o h tk _ (List.getElem?_eq_getElem hlt) hJ hin F N hne (fun h' tk' m₂ news₂ F' N' hne' hin' hJ' => ?_) fun v s' hq => hq
    refine ⟨h', tk', m₂, news₂, rfl, F', N', fun p hp q hq => ?_, ⟨hin', trivial⟩, items_list J hstep hfin k (i + 1) m₂ news₂ (by omega) hJ' hin' hne'⟩
    rw [List.mem_singleton.mp hq]
    exact hne' p hp

/-- a for over a list of the ledger -/
theorem for_list {ax : Addr} {xs : List Value} {n : Nat} (J : Nat → (Str → Option Value) → List (Addr × Obj) → Prop)
    (F₀ : Fr h₀ env.locals s.heap m) (hh : A.handled = none)
    (hiter : wpAny (model prog w) A (eval iter env) (fun xv s₁ => xv = .ref ax ∧ ∃ h' tk', s₁ = { s with heap := h', toks := tk' } ∧ Fr h₀ env.locals h' m ∧ News h₀ env.locals h' news) E s)
    (hm : (ax, listOf xs.toArray n) ∈ news) (h0 : J 0 m news)
    (hstep : ∀ I i v m₁ news₁ o h tk (P : Flow → Shared → Prop), xs[i]? = some v → J i m₁ news₁ → (ax, listOf xs.toArray n) ∈ news₁ → Fr h₀ env.locals h m₁ → News h₀ env.locals h ((I, o) :: news₁) → (∀ p ∈ news₁, p.1 ≠ I) →
      (∀ h' tk' m₂ news₂, Fr h₀ env.locals h' m₂ → News h₀ env.locals h' ((I, o) :: news₂) → (∀ p ∈ news₂, p.1 ≠ I) → (ax, listOf xs.toArray n) ∈ news₂ → J (i + 1) m₂ news₂ → P .next { s with heap := h', toks := tk' }) → (∀ v s', Q (.ret v) s' → P (.ret v) s') →
      wpAny (model prog w) A (assign target env v) (fun _ s₃ => wpAny (model prog w) A (execs body env) P E s₃) E { s with heap := h, toks := tk })
    (hfin : ∀ m' news' h' tk', J xs.length m' news' → Fr h₀ env.locals h' m' → News h₀ env.locals h' news' → Q .next { s with heap := h', toks := tk' })
    (hs : ∀ x, foldedSetIterable iter env x = pure x := by intro _; rfl)
    (hE : PassesOwn (model prog w) A env E := by passes_own) :
    wpAny (model prog w) A (exec (.For target iter body [] pos) env) Q E s := by
  refine For_turns F₀ (wpAny_mono hiter (fun xv s₁ h₁ => ?_) fun _ _ e => e) hs hE
  obtain ⟨rfl, h', tk', rfl, F, N⟩ := h₁
  refine iter_listTurns (lo := listOf xs.toArray n) (vs := xs) hh F N hm rfl rfl fun I hI => ?_
  have := items_list (prog := prog) (w := w) (A := A) (E := E) (target := target) (body := body) (Q := Q) (I := I) (s₂ := { s with heap := h', toks := tk' }) J (hstep I) hfin xs.length 0 m news (by omega) h0 hm fun p hp => Nat.ne_of_lt (hI p hp)
  rw [List.drop_zero] at this
  exact this

theorem items_zip {I l1 l2 : Addr} {lo1 lo2 : Obj} {elts : List Expr} {kk : Nat} {tp : Pos} {xs ys : List Value} {s₂ : Shared} (J : Nat → (Str → Option Value) → List (Addr × Obj) → Prop) (hxy : xs.length = ys.length)
    (hstep : ∀ i x y T m₁ news₁ its h tk (P : Flow → Shared → Prop), xs[i]? = some x → ys[i]? = some y → J i m₁ news₁ → (l1, lo1) ∈ news₁ → (l2, lo2) ∈ news₁ → IsTup h T #[x, y] → Fr h₀ env.locals h m₁ → News h₀ env.locals h (its ++ news₁) → (∀ p ∈ news₁, ∀ q ∈ its, p.1 ≠ q.1) →
      (∀ h' tk' m₂ news₂, Fr h₀ env.locals h' m₂ → News h₀ env.locals h' (its ++ news₂) → (∀ p ∈ news₂, ∀ q ∈ its, p.1 ≠ q.1) → (l1, lo1) ∈ news₂ → (l2, lo2) ∈ news₂ → J (i + 1) m₂ news₂ → P .next { s₂ with heap := h', toks := tk' }) → (∀ v s', Q (.ret v) s' → P (.ret v) s') →
      wpAny (model prog w) A (assign (.Tuple elts kk tp) env (.ref T)) (fun _ s₃ => wpAny (model prog w) A (execs body env) P E s₃) E { s₂ with heap := h, toks := tk })
    (hfin : ∀ m' news' h' tk', J xs.length m' news' → Fr h₀ env.locals h' m' → News h₀ env.locals h' news' → Q .next { s₂ with heap := h', toks := tk' }) :
    ∀ k i m₁ news₁, i + k = xs.length → J i m₁ news₁ → (l1, lo1) ∈ news₁ → (l2, lo2) ∈ news₁ → (∀ p ∈ news₁, ∀ b ∈ [I + 4, I + 2, I + 3, I, I + 1], p.1 ≠ b) →
      ItemsRest prog w A E h₀ env (.Tuple elts kk tp) body Q s₂ [(I + 4, "zip"), (I + 2, "tuple"), (I + 3, "tuple"), (I, "list_iterator"), (I + 1, "list_iterator")] [(l1, lo1), (l2, lo2)] (zipItems (xs.drop i) (ys.drop i)) m₁ news₁
  | 0, i, m₁, news₁, hk, hJ, _, _, _ => by
    have e : xs.drop i = [] := List.drop_of_length_le (by omega)
    have e2 : i = xs.length := hk
    rw [e]
    refine ItemsRest.zero fun h tk F N => hfin _ _ _ _ (e2 ▸ hJ) F N
  | k + 1, i, m₁, news₁, hk, hJ, hin1, hin2, hne => by
    have hlt : i < xs.length := by omega
    have hlt2 : i < ys.length := by omega
    rw [List.drop_eq_getElem_cons hlt, List.drop_eq_getElem_cons hlt2]
    refine ItemsRest.pair fun T t h tk hT F => AllObj.cons fun o1 _ => AllObj.cons fun o2 _ => AllObj.cons fun o3 _ => AllObj.cons fun o4 _ => AllObj.cons fun o5 _ => AllObj.nil fun N => ?_
    have hq : ∀ (p : Addr × Obj), (∀ b ∈ [I + 4, I + 2, I + 3, I, I + 1], p.1 ≠ b) → ∀ q ∈ [(I + 4, o1), (I + 2, o2), (I + 3, o3), (I, o4), (I + 1, o5)], p.1 ≠ q.1 := by
      intro p hp q hq
      have : q.1 ∈ [I + 4, I + 2, I + 3, I, I + 1] := by
        have := List.mem_map_of_mem (f := Prod.fst) hq
        exact this
      exact hp _ this
    refine hstep i xs[i] ys[i] T m₁ news₁ _ h tk _ (List.getElem?_eq_getElem hlt) (List.getElem?_eq_getElem hlt2) hJ hin1 hin2 hT F N (fun p hp => hq p (hne p hp)) (fun h' tk' m₂ news₂ F' N' hne' hin1' hin2' hJ' => ?_) fun v s' hq => hq
    refine ⟨h', tk', m₂, news₂, rfl, F', N', hne', ⟨hin1', hin2', trivial⟩, items_zip J hxy hstep hfin k (i + 1) m₂ news₂ (by omega) hJ' hin1' hin2' fun p hp b hb => ?_⟩
    have hz := hne' p hp
    rcases List.mem_cons.mp hb with rfl | hb
    · exact hz (I + 4, o1) (.head _)
    rcases List.mem_cons.mp hb with rfl | hb
    · exact hz (I + 2, o2) (.tail _ (.head _))
    rcases List.mem_cons.mp hb with rfl | hb
    · exact hz (I + 3, o3) (.tail _ (.tail _ (.head _)))
    rcases List.mem_cons.mp hb with rfl | hb
    · exact hz (b, o4) (.tail _ (.tail _ (.tail _ (.head _))))
    · rw [List.mem_singleton.mp hb]
      exact hz (I + 1, o5) (.tail _ (.tail _ (.tail _ (.tail _ (.head _)))))

/-- a for over zip of two lists of the ledger -/
theorem for_zip {elts : List Expr} {kk : Nat} {tp : Pos} {l1 l2 : Addr} {xs ys : List Value} {n1 n2 : Nat} (J : Nat → (Str → Option Value) → List (Addr × Obj) → Prop) (hxy : xs.length = ys.length)
    (F₀ : Fr h₀ env.locals s.heap m) (hh : A.handled = none)
    (hiter : ∀ (Q' : Value → Shared → Prop), (∀ h' tk', Fr h₀ env.locals h' m → News h₀ env.locals h' news → wpAny (model prog w) A (call (.type "zip") [.ref l1, .ref l2]) Q' E { s with heap := h', toks := tk' }) → wpAny (model prog w) A (eval iter env) Q' E s)
    (hm1 : (l1, listOf xs.toArray n1) ∈ news) (hm2 : (l2, listOf ys.toArray n2) ∈ news) (h0 : J 0 m news)
    (hstep : ∀ i x y T m₁ news₁ its h tk (P : Flow → Shared → Prop), xs[i]? = some x → ys[i]? = some y → J i m₁ news₁ → (l1, listOf xs.toArray n1) ∈ news₁ → (l2, listOf ys.toArray n2) ∈ news₁ → IsTup h T #[x, y] → Fr h₀ env.locals h m₁ → News h₀ env.locals h (its ++ news₁) → (∀ p ∈ news₁, ∀ q ∈ its, p.1 ≠ q.1) →
      (∀ h' tk' m₂ news₂, Fr h₀ env.locals h' m₂ → News h₀ env.locals h' (its ++ news₂) → (∀ p ∈ news₂, ∀ q ∈ its, p.1 ≠ q.1) → (l1, listOf xs.toArray n1) ∈ news₂ → (l2, listOf ys.toArray n2) ∈ news₂ → J (i + 1) m₂ news₂ → P .next { s with heap := h', toks := tk' }) → (∀ v s', Q (.ret v) s' → P (.ret v) s') →
      wpAny (model prog w) A (assign (.Tuple elts kk tp) env (.ref T)) (fun _ s₃ => wpAny (model prog w) A (execs body env) P E s₃) E { s with heap := h, toks := tk })
    (hfin : ∀ m' news' h' tk', J xs.length m' news' → Fr h₀ env.locals h' m' → News h₀ env.locals h' news' → Q .next { s with heap := h', toks := tk' })
    (hs : ∀ x, foldedSetIterable iter env x = pure x := by intro _; rfl)
    (hE : PassesOwn (model prog w) A env E := by passes_own) :
    wpAny (model prog w) A (exec (.For (.Tuple elts kk tp) iter body [] pos) env) Q E s := by
  refine For_turns F₀ (hiter _ fun h' tk' F N => ?_) hs hE
  refine ktu_zip (s := { s with heap := h', toks := tk' }) hh F N hm1 rfl rfl hm2 rfl rfl fun I hI => ?_
  have := items_zip (prog := prog) (w := w) (A := A) (E := E) (body := body) (Q := Q) (elts := elts) (kk := kk) (tp := tp) (I := I) (s₂ := { s with heap := h', toks := tk' }) J hxy hstep hfin xs.length 0 m news (by omega) h0 hm1 hm2 fun p hp b hb => by
    have := hI p hp
    have hb' : I ≤ b := by
      simp only [List.mem_cons, List.not_mem_nil, or_false] at hb
      rcases hb with rfl | rfl | rfl | rfl | rfl
      · exact Nat.le_add_right _ _
      · exact Nat.le_add_right _ _
      · exact Nat.le_add_right _ _
      · exact Nat.le_refl _
      · exact Nat.le_add_right _ _
    exact Nat.ne_of_lt (Nat.lt_of_lt_of_le this hb')
  rw [List.drop_zero, List.drop_zero] at this
  exact this
end
end

section
open PySem PySem.Calls PySem.W PyProof.Rows PyProof.Rows.LCg
section
variable {prog : Program} {w : World} {A : Around} {E : Value → Shared → Prop} {s : Shared} {h₀ : Heap} {L : Addr} {m : Str → Option Value} {env : Env}

abbrev NB (prog : Program) (w : World) (A : Around) (env : Env) (R : Result → Shared → Prop) : Value → Shared → Prop := notedBy (model prog w) A env fun e s' => R (.error e) s'
def BodyP (prog : Program) (w : World) (A : Around) (elt : Expr) (env : Env) (acc : Value) (R : Result → Shared → Prop) (K : Shared → Prop) (s₂ : Shared) : Prop :=
  wpAny (model prog w) A (eval elt env) (fun x s₄ => wpAny (model prog w) A (call (.builtin "list.append") [acc, x]) (fun _ s₅ => K s₅) (NB prog w A env R) s₄) (NB prog w A env R) s₂
def BodyT (prog : Program) (w : World) (A : Around) (c elt : Expr) (env : Env) (acc : Value) (R : Result → Shared → Prop) (K : Shared → Prop) (s₂ : Shared) : Prop :=
  wpAny (model prog w) A (isTrue c env (eval c env)) (fun ok s₃ => if ok = true then BodyP prog w A elt env acc R K s₃ else K s₃) (NB prog w A env R) s₂
abbrev LoopG (prog : Program) (w : World) (A : Around) (elt target iter : Expr) (ifs : List Expr) (scope : Scope) (pos : Pos) (BODY : Env → Value → (Result → Shared → Prop) → (Shared → Prop) → Shared → Prop) : Prop :=
  ∀ (it acc : Value) (cenv : Env) (R : Result → Shared → Prop) (I : Nat → Shared → Prop),
    (∀ n s, I n s → wpAny (model prog w) A (pyNext it) (fun r s₁ => match r with
      | none => R (.ok .next) s₁
      | some v => wpAny (model prog w) A (letOwnedTupleGo target it v) (fun _ s₀ => wpAny (model prog w) A (assign target cenv v) (fun _ s₂ => BODY cenv acc R (fun s₅ => ∃ m, m < n ∧ I m s₅) s₂) (NB prog w A cenv R) s₀) (NB prog w A cenv R) s₁) (NB prog w A cenv R) s) →
    ∀ n s, I n s → codeAny (model prog w) A (.compLoop (.ListComp elt [⟨target, iter, ifs, 0⟩] scope pos) 0 it acc cenv) R s
theorem loop_plain {elt target iter : Expr} {scope : Scope} {pos : Pos} : LoopG prog w A elt target iter [] scope pos (BodyP prog w A elt) := fun _ _ _ _ I turn n _ h => kcp_loop I turn n h
theorem loop_test {c elt target iter : Expr} {scope : Scope} {pos : Pos} : LoopG prog w A elt target iter [c] scope pos (BodyT prog w A c elt) := fun _ _ _ _ I turn n _ h => kct_loop I turn n h

theorem block_G {elt target iter : Expr} {ifs : List Expr} {scope : Scope} {cl : List (Str × Addr)} {pos : Pos} {BODY : Env → Value → (Result → Shared → Prop) → (Shared → Prop) → Shared → Prop} {s₂ : Shared} {I : Addr} {fp wr : List Addr} {n : Nat} {P Md : Nat → Value → Heap → Prop} {St : Nat → Heap → Prop} {news : List (Addr × Obj)}
    {Rel : Nat → (Str → Option Value) → Prop} {RR : Value → Addr → Result → Shared → Prop} (J : Nat → List Value → List (Addr × Obj) → Prop)
    (hloop : LoopG prog w A elt target iter ifs scope pos BODY)
    (W : KTurns prog w A target I fp wr n P Md St) (hself : ∀ (s' : Shared) (Q' E' : Value → Shared → Prop), St 0 s'.heap → Q' (.ref I) s' → wpAny (model prog w) A (pyIter (.ref I)) Q' E' s')
    (hcell : ∀ y ∈ scope.names, y.2 ≠ .cell) (hkind : scope.kind = .function)
    (hLf : L ∉ fp) (hwr : ∀ b ∈ wr, h₀.get? b = none) (hst : St 0 s₂.heap) (hfp : ∀ b ∈ fp, b < s₂.heap.objs.size)
    (F : Fr h₀ L s₂.heap m) (N : News h₀ L s₂.heap news) (off : ∀ p ∈ news, p.1 ∉ wr) (h0 : J 0 [] news)
    (hassign : ∀ i v C m' ys news' (s' : Shared) (Q' : Unit → Shared → Prop) (E' : Value → Shared → Prop), i < n → P i v s'.heap → J i ys news' → News h₀ L s'.heap news' → s'.heap.Ns C m' →
      (∀ h' tk m₂, h'.Ns C m₂ → Rel i m₂ → (∀ b o, b ≠ C → s'.heap.get? b = some o → h'.get? b = some o) → Q' () { s' with heap := h', toks := tk }) → wpAny (model prog w) A (assign target (compEnvC scope cl C env) v) Q' E' s')
    (hbody : ∀ i C oC m₂ D ys news' own h tk (R : Result → Shared → Prop) (K : Shared → Prop), i < n → NsObj oC m₂ → Rel i m₂ → J i ys news' → (∀ p ∈ own, p.1 ∈ fp) → (∀ p ∈ own, p.1 ≠ C ∧ p.1 ≠ D) → Fr h₀ L h m → News h₀ L h (own ++ (C, oC) :: (D, lst ys) :: news') → (∀ p ∈ news', p.1 ∉ wr ∧ p.1 ≠ C ∧ p.1 ≠ D) → D ≠ C →
      (∀ b ∈ wr, b < D) → (∀ b ∈ wr, b < C) →
      (∀ h' tk' ys' news'', Fr h₀ L h' m → News h₀ L h' (own ++ (C, oC) :: (D, lst ys') :: news'') → (∀ p ∈ news'', p.1 ∉ wr ∧ p.1 ≠ C ∧ p.1 ≠ D) → J (i + 1) ys' news'' → K { s₂ with heap := h', toks := tk' }) →
      BODY (compEnvC scope cl C env) (.ref D) R K { s₂ with heap := h, toks := tk })
    (hRR : ∀ D C h tk m' ys news', Fr h₀ L h m → News h₀ L h ((D, lst ys) :: news') → (∀ p ∈ news', p.1 ≠ C ∧ p.1 ≠ D) → h.Ns C m' → h₀.get? C = none → h₀.get? D = none → C ≠ L → D ≠ L → C ≠ D → J n ys news' → RR (.ref D) C (.ok .next) { s₂ with heap := h, toks := tk }) :
    wpAny (model prog w) A (newList []) (fun acc s₃ => wpAny (model prog w) A (newFunctionEnv scope env.globals cl [] env.qual none .none (some env)) (fun cenv s₄ =>
      codeAny (model prog w) A (.compStart (.ListComp elt [⟨target, iter, ifs, 0⟩] scope pos) 0 (.ref I) acc { cenv with scope := relabel scope env }) (RR acc cenv.locals) s₄) E s₃) E s₂ := by
  refine wpAny_newObj_type (wpAny_newFunctionEnv hcell (by intro y hy; simp at hy) (fun h₁ hns₁ hsb₁ => ?_) hkind)
  dsimp only at hns₁ hsb₁ ⊢
  generalize hH2 : s₂.heap.push { cls := .type "list", dict := none, data := .seq ([] : List Value).toArray } = H2 at hns₁ hsb₁ ⊢
  have hC : H2.objs.size = s₂.heap.objs.size + 1 := by rw [← hH2, Heap.size_push]
  have hDC : s₂.heap.objs.size ≠ H2.objs.size := by rw [hC]; exact Nat.ne_of_lt (Nat.lt_succ_self _)
  have below : ∀ b, b < s₂.heap.objs.size → b ≠ H2.objs.size ∧ b ≠ s₂.heap.objs.size := fun b hb => ⟨by rw [hC]; exact Nat.ne_of_lt (Nat.lt_succ_of_lt hb), Nat.ne_of_lt hb⟩
  have old : ∀ b o, s₂.heap.get? b = some o → h₁.get? b = some o := fun b o e => hsb₁.extBut b o (below b (Heap.lt_size e)).1 (Heap.get?_push_of_some _ (hH2 ▸ Heap.get?_push_of_some _ e))
  have hacc : h₁.get? s₂.heap.objs.size = some (lst []) := hsb₁.extBut _ _ hDC (Heap.get?_push_of_some _ (hH2 ▸ Heap.get?_push_size _ rfl))
  have fresh₀ : ∀ a, s₂.heap.objs.size ≤ a → h₀.get? a = none := fun a ha => by
    cases e : h₀.get? a with
    | none => rfl
    | some o' => exact absurd (Heap.lt_size (F.keep a o' e)) (Nat.not_lt.mpr ha)
  have hD₀ : h₀.get? s₂.heap.objs.size = none := fresh₀ _ (Nat.le_refl _)
  have hC₀ : h₀.get? H2.objs.size = none := fresh₀ _ (by rw [hC]; exact Nat.le_succ _)
  have hLlt : L < s₂.heap.objs.size := F.ns.lt
  have hDL : s₂.heap.objs.size ≠ L := Ne.symm (below L hLlt).2
  have hCL : H2.objs.size ≠ L := Ne.symm (below L hLlt).1
  have hCf : H2.objs.size ∉ fp := fun hm => (below _ (hfp _ hm)).1 rfl
  have hDf : s₂.heap.objs.size ∉ fp := fun hm => Nat.lt_irrefl _ (hfp _ hm)
  have hCw : H2.objs.size ∉ wr := fun hm => hCf (W.sub _ hm)
  have hDw : s₂.heap.objs.size ∉ wr := fun hm => hDf (W.sub _ hm)
  have hLw : L ∉ wr := fun h => hLf (W.sub _ h)
  have oldw : ∀ b o, h₀.get? b = some o → b ∉ wr := fun b o e hb => by rw [hwr b hb] at e; cases e
  have hst₁ : St 0 h₁ := W.frame _ _ _ hst fun b _ o e => old b o e
  have loop : ∀ s₃ : Shared, s₃ = { s₂ with heap := h₁, toks := s₂.toks + ([] : List (Str × Value)).length } →
      codeAny (model prog w) A (.compLoop (.ListComp elt [⟨target, iter, ifs, 0⟩] scope pos) 0 (.ref I) (.ref s₂.heap.objs.size) (compEnvC scope cl H2.objs.size env))
        (RR (.ref s₂.heap.objs.size) H2.objs.size) s₃ := by
    rintro s₃ rfl
    refine hloop _ _ _ _
      (fun k s' => ∃ h' tk i ys m' news', s' = { s₂ with heap := h', toks := tk } ∧ i ≤ n ∧ k = n + 1 - i ∧ St i h' ∧ Fr h₀ L h' m ∧ h'.Ns H2.objs.size m' ∧
        News h₀ L h' ((s₂.heap.objs.size, lst ys) :: news') ∧ (∀ p ∈ news', p.1 ∉ wr ∧ p.1 ≠ H2.objs.size ∧ p.1 ≠ s₂.heap.objs.size) ∧ J i ys news') ?_ (n + 1) _
      ⟨h₁, _, 0, [], _, news, rfl, Nat.zero_le _, rfl, hst₁, F.keeps old, hns₁, fun p hp => ?_, fun p hp => ⟨off p hp, (below _ (Heap.lt_size (N p hp).1)).1, (below _ (Heap.lt_size (N p hp).1)).2⟩, h0⟩
    · rintro k s' ⟨h', tk, i, ys, m', news', rfl, hi, rfl, hst', F', hn', N', off', hJ⟩
      have next : ∀ h₁ : Heap, (∀ b o, b ∉ wr → h'.get? b = some o → h₁.get? b = some o) → Fr h₀ L h₁ m ∧ News h₀ L h₁ ((s₂.heap.objs.size, lst ys) :: news') ∧ h₁.Ns H2.objs.size m' := fun h₁ hk₁ =>
        ⟨⟨F'.ns.at' fun o e => hk₁ _ o hLw e, fun b o e => hk₁ b o (oldw b o e) (F'.keep b o e), F'.above⟩, fun p hp => ⟨hk₁ _ _ (by
          rcases List.mem_cons.mp hp with rfl | hp
          · exact hDw
          · exact (off' p hp).1) (N' p hp).1, (N' p hp).2⟩, hn'.at' fun o e => hk₁ _ o hCw e⟩
      by_cases hlt : i < n
      · refine W.item i _ _ _ hlt hst' fun v h₂ tk₂ hMd hk₂ => ?_
        refine W.go i v _ _ _ hMd fun h₃ hP hst₃ hk₃ => ?_
        obtain ⟨F₃, N₃, hn₃⟩ := next h₃ fun b o hb x => hk₃ b o hb (hk₂ b o hb x)
        refine hassign i v _ m' ys news' _ _ _ hlt hP hJ (fun p hp => N₃ p (.tail _ hp)) hn₃ fun h₄ tk₄ m₂ hn₄ hRel hs₄ => ?_
        have hst₄ : St (i + 1) h₄ := W.frame _ _ _ hst₃ fun b hb o e => hs₄ b o (fun q => hCf (q ▸ hb)) e
        obtain ⟨oC, heC, hoC⟩ := ns_obj hn₄
        have F₄ : Fr h₀ L h₄ m := ⟨F₃.ns.at' fun o e => hs₄ _ o (Ne.symm hCL) e, fun b o e => hs₄ b o (fun q => by rw [q, hC₀] at e; cases e) (F₃.keep b o e), F₃.above⟩
        have Nown : News h₀ L h₄ (ownOf h₀ fp h₄) := news_ownOf hLf
        have N₄ : News h₀ L h₄ (ownOf h₀ fp h₄ ++ (H2.objs.size, oC) :: (s₂.heap.objs.size, lst ys) :: news') := by
          refine Nown.append fun p hp => ?_
          rcases List.mem_cons.mp hp with rfl | hp
          · exact ⟨heC, hCL, hC₀⟩
          · have z := N₃ p hp
            refine ⟨hs₄ _ _ ?_ z.1, z.2⟩
            rcases List.mem_cons.mp hp with rfl | hp
            · exact hDC
            · exact (off' p hp).2.1
        refine hbody i _ oC m₂ _ ys news' (ownOf h₀ fp h₄) h₄ _ _ _ hlt hoC hRel hJ ownOf_sub (fun p hp => ⟨fun q => hCf (q ▸ ownOf_sub p hp), fun q => hDf (q ▸ ownOf_sub p hp)⟩) F₄ N₄ off' hDC (fun b hb => hfp b (W.sub b hb)) (fun b hb => by rw [hC]; exact Nat.lt_succ_of_lt (hfp b (W.sub b hb))) fun h₅ tk₅ ys' news₅ F₅ N₅ off₅ hJ₅ => ?_
        refine ⟨n + 1 - (i + 1), by omega, h₅, tk₅, i + 1, ys', m₂, news₅, rfl, hlt, rfl, ?_, F₅, hoC.ns (N₅ (H2.objs.size, oC) (List.mem_append_right _ (.head _))).1, fun p hp => N₅ p (List.mem_append_right _ (.tail _ hp)), off₅, hJ₅⟩
        refine W.frame _ _ _ hst₄ fun b hb o e => ?_
        cases hn : h₀.get? b with
        | some o₀ =>
          have : o₀ = o := by have q := F₄.keep b o₀ hn; rw [e] at q; exact (Option.some.inj q).symm
          exact this ▸ F₅.keep b o₀ hn
        | none => exact (N₅ _ (List.mem_append_left _ (mem_ownOf hb hn e))).1
      · have hin : i = n := by omega
        subst hin
        refine W.done _ _ _ hst' fun h₂ tk₂ hk₂ => ?_
        obtain ⟨F₂, N₂, hn₂⟩ := next h₂ hk₂
        exact hRR _ _ h₂ tk₂ _ ys news' F₂ N₂ (fun p hp => (off' p hp).2) hn₂ hC₀ hD₀ hCL hDL (Ne.symm hDC) hJ
    · rcases List.mem_cons.mp hp with rfl | hp
      · exact ⟨hacc, hDL, hD₀⟩
      · exact ⟨old _ _ (N p hp).1, (N p hp).2⟩
  exact codeAny_compStart_list (loop _ rfl) (hself _ _ _ hst₁ (loop _ rfl))
end
end

section
open PySem PySem.Calls PySem.W PyProof.Rows PyProof.Rows.LCg
section
variable {prog : Program} {w : World} {A : Around} {E : Value → Shared → Prop} {s : Shared} {h₀ : Heap} {L : Addr} {m : Str → Option Value} {env : Env}

theorem tup3_assign {env : Env} {a b c : Str} {pa pb pc tp : Pos} {kk : Nat} {T : Addr} {x y z : Value} {m : Str → Option Value} {Q : Unit → Shared → Prop} (hh : A.handled = none) (ht : IsTup s.heap T #[x, y, z])
    (ha : env.kindOf a = some .local) (hb : env.kindOf b = some .local) (hc : env.kindOf c = some .local) (hp : (env.scope.kind == .class || (env.scope.kind == .module && env.locals != env.globals)) = false) (hn : s.heap.Ns env.locals m)
    (h : ∀ (h' : Heap) (tk : Nat), h'.Ns env.locals (fun q => if q = c then some z else if q = b then some y else if q = a then some x else m q) → (∀ d o, d ≠ env.locals → s.heap.get? d = some o → h'.get? d = some o) → Q () { s with heap := h', toks := tk }) :
    wpAny (model prog w) A (assign (.Tuple [.Name a pa, .Name b pb, .Name c pc] kk tp) env (.ref T)) Q E s := by
  refine assign_Tuple_tuple hh ht rfl rfl fun h₁ he₁ => ?_
  have hL : env.locals ≠ s.heap.objs.size := Nat.ne_of_lt hn.lt
  have hn₁ : h₁.Ns env.locals m := hn.at' fun o e => he₁ _ o hL e
  have up₁ : ∀ c o, s.heap.get? c = some o → h₁.get? c = some o := fun c o e => he₁ c o (Nat.ne_of_lt (Heap.lt_size e)) e
  show wpAny _ _ (assignInOrder [assign (.Name a pa) env, assign (.Name b pb) env, assign (.Name c pc) env] [x, y, z]) _ _ _
  refine assignInOrder_cons (wpAny_assign_Name (wpAny_storeName_local ha hn₁ (fun h₂ hn₂ hs₂ => ?_) hp))
  refine assignInOrder_cons (wpAny_assign_Name (wpAny_storeName_local hb hn₂ (fun h₃ hn₃ hs₃ => ?_) hp))
  refine assignInOrder_cons (wpAny_assign_Name (wpAny_storeName_local hc hn₃ (fun h₄ hn₄ hs₄ => ?_) hp))
  refine assignInOrder_nil ?_
  exact h h₄ _ hn₄ fun c o hc e => hs₄.extBut c o hc (hs₃.extBut c o hc (hs₂.extBut c o hc (up₁ c o e)))
/-- a comprehension over a list of triples -/
theorem comp3 {elt iter : Expr} {x1 x2 x3 : Str} {p1 p2 p3 tp : Pos} {kk : Nat} {scope : Scope} {cl : List (Str × Addr)} {pos : Pos} {Q : Value → Shared → Prop} {news : List (Addr × Obj)} {ax : Addr} {xs : List Value} {k : Nat} (P : Nat → Value → Value → Value → Prop) (J : Nat → List Value → Prop)
    (F₀ : Fr h₀ L s.heap m) (hclos : closureFor scope env = pure cl) (hcell : ∀ y ∈ scope.names, y.2 ≠ .cell) (hkind : scope.kind = .function)
    (hnames : ∀ y ∈ scope.names, y.2 = .local → scope.names.lookup y.1 = some .local) (hx1 : scope.names.lookup x1 = some .local) (hx2 : scope.names.lookup x2 = some .local) (hx3 : scope.names.lookup x3 = some .local)
    (h12 : x1 ≠ x2) (h13 : x1 ≠ x3) (h23 : x2 ≠ x3) (hh : A.handled = none)
    (hiter : wpAny (model prog w) A (eval iter env) (fun xv s₁ => xv = .ref ax ∧ ∃ h' tk', s₁ = { s with heap := h', toks := tk' } ∧ Fr h₀ L h' m ∧ News h₀ L h' news) E s)
    (hm : (ax, listOf xs.toArray k) ∈ news) (hsz : xs.length ≤ sizeLine) (h0 : J 0 []) (hlen : ∀ i ys, J i ys → ys.length = i)
    (hitem : ∀ i v, xs[i]? = some v → ∃ T a b c n, v = .ref T ∧ (T, ({ cls := .type "tuple", data := .seq #[a, b, c] n } : Obj)) ∈ news ∧ P i a b c)
    (hstep : ∀ i a b c ys full C oC m₂ h tk (Q' E' : Value → Shared → Prop), P i a b c → i < xs.length → NsObj oC m₂ → m₂ x1 = some a → m₂ x2 = some b → m₂ x3 = some c → Fr h₀ L h m → News h₀ L h full → (C, oC) ∈ full → (∀ q ∈ news, q ∈ full) → J i ys →
      (∀ y h' tk', Fr h₀ L h' m → News h₀ L h' full → J (i + 1) (ys ++ [y]) → Q' y { s with heap := h', toks := tk' }) →
      wpAny (model prog w) A (eval elt (compEnvC scope cl C env)) Q' E' { s with heap := h, toks := tk })
    (hret : ∀ ys D h' tk', Fr h₀ L h' m → News h₀ L h' ((D, lst ys) :: news) → J xs.length ys → (∀ q ∈ news, q.1 ≠ D) → Q (.ref D) { s with heap := h', toks := tk' })
    (hs : ∀ x, foldedSetIterable iter env x = pure x := by intro _; rfl) :
    wpAny (model prog w) A (eval (.ListComp elt [⟨.Tuple [.Name x1 p1, .Name x2 p2, .Name x3 p3] kk tp, iter, [], 0⟩] scope pos) env) Q E s := by
  rw [eval_ListComp]
  refine wpAny_comprehension_free (use := none) rfl hs hclos hkind hnames (wpAny_mono hiter (fun xv s₁ h₁ => ?_) fun _ _ e => e)
  obtain ⟨rfl, h', tk', rfl, F, N⟩ := h₁
  have hax := N _ hm
  have hl : h'.IsList ax xs.toArray := ⟨_, hax.1, rfl, k, rfl⟩
  have hlt : ax < h'.objs.size := Heap.lt_size hax.1
  have hne : ax ≠ h'.objs.size := Nat.ne_of_lt hlt
  refine wpAny_pyIter_list (s := { s with heap := h', toks := tk' }) hl ?_
  have up : ∀ b o, h'.get? b = some o → (h'.push { cls := .type "list_iterator", data := .fields #[.ref ax, .int 0 0] }).get? b = some o := fun b o e => Heap.get?_push_of_some _ e
  have hW := Walks.list (prog := prog) (w := w) hh h'.objs.size ax hne xs.toArray
  refine block_G (news := news) (s₂ := { s with heap := h'.push { cls := .type "list_iterator", data := .fields #[.ref ax, .int 0 0] }, toks := tk' })
    (Rel := fun i m₂ => ∃ a b c, P i a b c ∧ m₂ x1 = some a ∧ m₂ x2 = some b ∧ m₂ x3 = some c) (fun i ys news' => news' = news ∧ J i ys) loop_plain (KTurns.ofWalks hW fun i v s Q E st q => letGo_listiter st.1 q) (fun s' Q' E' st q => hW.self 0 _ _ _ st q) hcell hkind
    ?_ ?_ ?_ ?_ (F.keeps up) (N.grown up) ?_ ⟨rfl, h0⟩ ?_ ?_ ?_
  · intro hI
    rcases List.mem_cons.mp hI with e | hI
    · exact absurd F.ns.lt (e ▸ Nat.lt_irrefl _)
    · exact hax.2.1 (List.mem_singleton.mp hI).symm
  · intro b hb
    have hb' : b = h'.objs.size := by simpa using hb
    rw [hb']
    exact next_is_new F
  · exact ⟨⟨_, Heap.get?_push_size _ rfl, rfl, rfl⟩, hl.at fun o e => Heap.get?_push_of_some _ e⟩
  · intro b hb
    show b < (h'.push _).objs.size
    rw [Heap.size_push]
    rcases List.mem_cons.mp hb with rfl | hb
    · exact Nat.lt_succ_self _
    · rw [List.mem_singleton.mp hb]; exact Nat.lt_succ_of_lt hlt
  · intro p hp hI
    exact absurd (Heap.lt_size (N p hp).1) ((List.mem_singleton.mp hI) ▸ Nat.lt_irrefl _)
  · rintro i v C m' ys news' s' Q' E' hi hP ⟨rfl, hJ⟩ N' hn' hQ
    have hP' : xs[i]? = some v := by simpa using hP
    obtain ⟨T, a, b, c, nt, rfl, hmT, hPabc⟩ := hitem i v hP'
    refine tup3_assign (env := compEnvC scope cl C env) hh ⟨_, (N' _ hmT).1, rfl, nt, rfl⟩ (lookup_relabel_local hx1) (lookup_relabel_local hx2) (lookup_relabel_local hx3) (by simp [compEnvC, relabel, hkind]) hn' fun h₂ tk₂ hn₂ hs₂ => ?_
    exact hQ h₂ tk₂ _ hn₂ ⟨a, b, c, hPabc, by simp [h12, h13], by simp [h23], by simp⟩ hs₂
  · rintro i C oC m₂ D ys news' own h tk R K hi hC ⟨a, b, c, hPabc, e1, e2, e3⟩ ⟨rfl, hJ⟩ hown hownCD F' N' off' hDC _ _ hK
    unfold BodyP
    refine hstep i a b c ys _ C oC m₂ h tk _ _ hPabc (by simpa using hi) hC e1 e2 e3 F' N' (List.mem_append_right _ (.head _)) (fun q hq => List.mem_append_right _ (.tail _ (.tail _ hq))) hJ fun y h₄ tk₄ F₄ N₄ J₄ => ?_
    have zD := (N₄ (D, lst ys) (List.mem_append_right _ (.tail _ (.head _))))
    refine append_at (s := { s with heap := h₄, toks := tk₄ }) (hsz := by show ys.toArray.size ≤ sizeLine; rw [List.size_toArray, hlen _ _ hJ]; exact Nat.le_trans (Nat.le_of_lt (by simpa using hi)) hsz) zD.1 fun h₅ hs₅ hD₅ => ?_
    refine hK h₅ tk₄ (ys ++ [y]) news' (F₄.change hs₅ zD.2.1 zD.2.2) (fun p hp => ?_) off' ⟨rfl, J₄⟩
    have go : ∀ p ∈ own ++ (C, oC) :: news', p.1 ≠ D := fun p hp => by
      rcases List.mem_append.mp hp with hp | hp
      · exact (hownCD p hp).2
      · rcases List.mem_cons.mp hp with rfl | hp
        · exact Ne.symm hDC
        · exact (off' p hp).2.2
    have mv : ∀ p ∈ own ++ (C, oC) :: news', h₅.get? p.1 = some p.2 ∧ p.1 ≠ L ∧ h₀.get? p.1 = none := fun p hp => by
      have z := N₄ p (by
        rcases List.mem_append.mp hp with hp | hp
        · exact List.mem_append_left _ hp
        · rcases List.mem_cons.mp hp with rfl | hp
          · exact List.mem_append_right _ (.head _)
          · exact List.mem_append_right _ (.tail _ (.tail _ hp)))
      exact ⟨hs₅.extBut _ _ (go p hp) z.1, z.2⟩
    rcases List.mem_append.mp hp with hp | hp
    · exact mv p (List.mem_append_left _ hp)
    · rcases List.mem_cons.mp hp with rfl | hp
      · exact mv _ (List.mem_append_right _ (.head _))
      · rcases List.mem_cons.mp hp with rfl | hp
        · exact ⟨hD₅.trans (congrArg some (lst_snoc ys y)), zD.2⟩
        · exact mv p (List.mem_append_right _ (.tail _ hp))
  · rintro D C h tk m' ys news' F' N' off' hn hC₀ hD₀ hCL hDL hCD ⟨rfl, hJ⟩
    refine ⟨m', hn, fun h'' hs'' => hret ys D h'' tk (F'.change hs'' hCL hC₀) (fun p hp => ?_) (by simpa using hJ) fun q hq => (off' q hq).2⟩
    refine ⟨hs''.extBut _ _ ?_ (N' p hp).1, (N' p hp).2⟩
    rcases List.mem_cons.mp hp with rfl | hp
    · exact Ne.symm hCD
    · exact (off' p hp).1
end
end

section
open PySem PySem.Calls PySem.W PyProof.Rows PyProof.Rows.LCg
section
variable {prog : Program} {w : World} {A : Around} {E : Value → Shared → Prop} {s : Shared} {h₀ : Heap} {L : Addr} {m : Str → Option Value} {env : Env}
/-- a comprehension over zip whose test is false at every pair -/
theorem comp_zip_none {elt iter ct : Expr} {x1 x2 : Str} {p1 p2 tp : Pos} {kk : Nat} {scope : Scope} {cl : List (Str × Addr)} {pos : Pos} {Q : Value → Shared → Prop} {news : List (Addr × Obj)} {l1 l2 : Addr} {xs ys : List Value} {n1 n2 : Nat}
    (hclos : closureFor scope env = pure cl) (hcell : ∀ y ∈ scope.names, y.2 ≠ .cell) (hkind : scope.kind = .function)
    (hnames : ∀ y ∈ scope.names, y.2 = .local → scope.names.lookup y.1 = some .local) (hx1 : scope.names.lookup x1 = some .local) (hx2 : scope.names.lookup x2 = some .local)
    (h12 : x1 ≠ x2) (hh : A.handled = none)
    (hiter : ∀ (Q' : Value → Shared → Prop), (∀ h' tk', Fr h₀ L h' m → News h₀ L h' news → wpAny (model prog w) A (call (.type "zip") [.ref l1, .ref l2]) Q' E { s with heap := h', toks := tk' }) → wpAny (model prog w) A (eval iter env) Q' E s)
    (hm1 : (l1, listOf xs.toArray n1) ∈ news) (hm2 : (l2, listOf ys.toArray n2) ∈ news)
    (hstep : ∀ (i : Nat) x y full C oC m₂ h tk (Q' : Bool → Shared → Prop) (E' : Value → Shared → Prop), xs[i]? = some x → ys[i]? = some y → NsObj oC m₂ → m₂ x1 = some x → m₂ x2 = some y → Fr h₀ L h m → News h₀ L h full → (C, oC) ∈ full → (∀ q ∈ news, q ∈ full) →
      (∀ h' tk', Fr h₀ L h' m → News h₀ L h' full → Q' false { s with heap := h', toks := tk' }) →
      wpAny (model prog w) A (isTrue ct (compEnvC scope cl C env) (eval ct (compEnvC scope cl C env))) Q' E' { s with heap := h, toks := tk })
    (hret : ∀ D h' tk', Fr h₀ L h' m → News h₀ L h' ((D, lst []) :: news) → (∀ q ∈ news, q.1 ≠ D) → Q (.ref D) { s with heap := h', toks := tk' })
    (hs : ∀ x, foldedSetIterable iter env x = pure x := by intro _; rfl) :
    wpAny (model prog w) A (eval (.ListComp elt [⟨.Tuple [.Name x1 p1, .Name x2 p2] kk tp, iter, [ct], 0⟩] scope pos) env) Q E s := by
  rw [eval_ListComp]
  refine wpAny_comprehension_free (use := none) rfl hs hclos hkind hnames (hiter _ fun g tk0 F N => ?_)
  have hax1 := N _ hm1
  have hax2 := N _ hm2
  have hl1 : g.IsList l1 xs.toArray := ⟨_, hax1.1, rfl, n1, rfl⟩
  have hl2 : g.IsList l2 ys.toArray := ⟨_, hax2.1, rfl, n2, rfl⟩
  have hlt1 : l1 < g.objs.size := Heap.lt_size hax1.1
  have hlt2 : l2 < g.objs.size := Heap.lt_size hax2.1
  have hLs : L < g.objs.size := F.ns.lt
  have D : ZipApart (g.objs.size + 4) (g.objs.size + 2) (g.objs.size + 3) g.objs.size (g.objs.size + 1) l1 l2 := ktu_apart _ _ _ hlt1 hlt2
  refine call_zip_2 (s := { s with heap := g, toks := tk0 }) hl1 hl2 fun h' hz hTI hTO hi1 hi2 hsz hk => ?_
  dsimp only at hz hTI hTO hi1 hi2 hsz hk ⊢
  refine wpAny_pyIter_zip hz ?_
  refine block_G (news := news) (s₂ := { s with heap := h', toks := tk0 })
    (Rel := fun (i : Nat) m₂ => ∃ x y, xs[i]? = some x ∧ ys[i]? = some y ∧ m₂ x1 = some x ∧ m₂ x2 = some y) (fun i zs news' => news' = news ∧ zs = []) loop_test (KTurns.ofWalksU (WalksT.zip2 hh _ _ _ _ _ _ _ D xs.toArray ys.toArray).toU) (fun s' Q' E' st q => ?_) hcell hkind
    ?_ ?_ ?_ ?_ (F.keeps hk) (N.grown hk) ?_ ⟨rfl, rfl⟩ ?_ ?_ ?_
  · exact wpAny_pyIter_zip st.1 q
  · intro hI'
    have hb' : L = g.objs.size + 4 ∨ L = g.objs.size + 2 ∨ L = g.objs.size + 3 ∨ L = g.objs.size ∨ L = g.objs.size + 1 ∨ L = l1 ∨ L = l2 := by simpa using hI'
    have n1 := hax1.2.1
    have n2 := hax2.2.1
    rcases hb' with e | e | e | e | e | e | e
    · exact ktu_ne 4 hLs e
    · exact ktu_ne 2 hLs e
    · exact ktu_ne 3 hLs e
    · exact Nat.ne_of_lt hLs e
    · exact ktu_ne 1 hLs e
    · exact n1 e.symm
    · exact n2 e.symm
  · intro b hb
    have hb' : b = g.objs.size + 4 ∨ b = g.objs.size + 3 ∨ b = g.objs.size ∨ b = g.objs.size + 1 := by simpa using hb
    rcases hb' with rfl | rfl | rfl | rfl
    · exact ktu_new F (Nat.le_add_right _ _)
    · exact ktu_new F (Nat.le_add_right _ _)
    · exact ktu_new F (Nat.le_refl _)
    · exact ktu_new F (Nat.le_add_right _ _)
  · exact ⟨hz, hTI, ⟨_, _, hTO⟩, hi1, hi2, hl1.at fun o e => hk l1 o e, hl2.at fun o e => hk l2 o e⟩
  · intro b hb
    show b < h'.objs.size
    have hb' : b = g.objs.size + 4 ∨ b = g.objs.size + 2 ∨ b = g.objs.size + 3 ∨ b = g.objs.size ∨ b = g.objs.size + 1 ∨ b = l1 ∨ b = l2 := by simpa using hb
    rw [hsz]
    rcases hb' with rfl | rfl | rfl | rfl | rfl | rfl | rfl
    · exact Nat.lt_succ_self _
    · exact Nat.add_lt_add_left (by decide) _
    · exact Nat.add_lt_add_left (by decide) _
    · exact Nat.lt_add_of_pos_right (by decide)
    · exact Nat.add_lt_add_left (by decide) _
    · exact Nat.lt_of_lt_of_le hlt1 (Nat.le_add_right _ _)
    · exact Nat.lt_of_lt_of_le hlt2 (Nat.le_add_right _ _)
  · intro p hp hI'
    have hb' : p.1 = g.objs.size + 4 ∨ p.1 = g.objs.size + 3 ∨ p.1 = g.objs.size ∨ p.1 = g.objs.size + 1 := by simpa using hI'
    have hlp := Heap.lt_size (N p hp).1
    rcases hb' with e | e | e | e
    · exact ktu_ne 4 hlp e
    · exact ktu_ne 3 hlp e
    · exact Nat.ne_of_lt hlp e
    · exact ktu_ne 1 hlp e
  · rintro i v C m' zs news' s' Q' E' hi ⟨T, vals, rfl, ⟨x, y, hx, hy, rfl⟩, hT⟩ ⟨rfl, hJ⟩ N' hn' hQ
    have hx' : xs[i]? = some x := by simpa using hx
    have hy' : ys[i]? = some y := by simpa using hy
    refine kcp_assign (env := compEnvC scope cl C env) hh hT (lookup_relabel_local hx1) (lookup_relabel_local hx2) (by simp [compEnvC, relabel, hkind]) hn' fun h₂ tk₂ hn₂ hs₂ => ?_
    exact hQ h₂ tk₂ _ hn₂ ⟨x, y, hx', hy', by simp [h12], by simp⟩ hs₂
  · rintro i C oC m₂ D ys news' own h tk R K hi hC ⟨x, y, hx, hy, e1, e2⟩ ⟨rfl, rfl⟩ hown hownCD F' N' off' hDC _ _ hK
    unfold BodyT
    refine hstep i x y _ C oC m₂ h tk _ _ hx hy hC e1 e2 F' N' (List.mem_append_right _ (.head _)) (fun q hq => List.mem_append_right _ (.tail _ (.tail _ hq))) fun h₄ tk₄ F₄ N₄ => ?_
    rw [if_neg (by simp)]
    exact hK h₄ tk₄ [] news' F₄ N₄ off' ⟨rfl, rfl⟩
  · rintro D C h tk m' ys news' F' N' off' hn hC₀ hD₀ hCL hDL hCD ⟨rfl, rfl⟩
    refine ⟨m', hn, fun h'' hs'' => hret D h'' tk (F'.change hs'' hCL hC₀) (fun p hp => ?_) fun q hq => (off' q hq).2⟩
    refine ⟨hs''.extBut _ _ ?_ (N' p hp).1, (N' p hp).2⟩
    rcases List.mem_cons.mp hp with rfl | hp
    · exact Ne.symm hCD
    · exact (off' p hp).1
end
end

section
open PySem PySem.Calls PySem.W PyProof.Rows PyProof.Rows.LCg
section
variable {prog : Program} {w : World} {A : Around} {E : Value → Shared → Prop} {s : Shared} {h₀ : Heap} {env : Env} {iter : Expr} {body : List Stmt} {pos px : Pos} {Q : Flow → Shared → Prop} {m : Str → Option Value} {news : List (Addr × Obj)} {x : Str}

theorem range_rest {I : Addr} {n : Nat} {s₂ : Shared} (J : Nat → (Str → Option Value) → List (Addr × Obj) → Prop)
    (hstep : ∀ i t m₁ news₁ it h tk (P : Flow → Shared → Prop), i < n → J i m₁ news₁ → Fr h₀ env.locals h (fun y => if y = x then some (.int (i : Int) t) else m₁ y) → News h₀ env.locals h ((I, it) :: news₁) → (∀ p ∈ news₁, p.1 ≠ I) →
      (∀ h' tk' m₂ news₂, Fr h₀ env.locals h' m₂ → News h₀ env.locals h' ((I, it) :: news₂) → (∀ p ∈ news₂, p.1 ≠ I) → J (i + 1) m₂ news₂ → P .next { s₂ with heap := h', toks := tk' }) → (∀ v s', Q (.ret v) s' → P (.ret v) s') →
      wpAny (model prog w) A (execs body env) P E { s₂ with heap := h, toks := tk })
    (hfin : ∀ m' news' h' tk', J n m' news' → Fr h₀ env.locals h' m' → News h₀ env.locals h' news' → Q .next { s₂ with heap := h', toks := tk' }) :
    ∀ k i m₁ news₁, i + k = n → J i m₁ news₁ → (∀ p ∈ news₁, p.1 ≠ I) → RangeRest prog w A E h₀ env x body Q s₂ I 0 n k i m₁ news₁
  | 0, i, m₁, news₁, hk, hJ, _ => by
    have e2 : i = n := hk
    exact RangeRest.zero fun h tk F N => hfin _ _ _ _ (e2 ▸ hJ) F N
  | k + 1, i, m₁, news₁, hk, hJ, hne => by
    refine RangeRest.succ fun t h tk F N => ?_
    rw [Int.zero_add] at F
    refine hstep i t m₁ news₁ _ h tk _ (by omega) hJ F N hne (fun h' tk' m₂ news₂ F' N' hne' hJ' => ?_) fun v s' hq => hq
    exact ⟨h', tk', m₂, news₂, rfl, F', N', hne', range_rest J hstep hfin k (i + 1) m₂ news₂ (by omega) hJ' hne'⟩

/-- a for over range(n), n a letter -/
theorem for_range {n : Nat} (J : Nat → (Str → Option Value) → List (Addr × Obj) → Prop)
    (hx : env.kindOf x = some .local) (hp : (env.scope.kind == .class || (env.scope.kind == .module && env.locals != env.globals)) = false) (hh : A.handled = none)
    (hiter : wpAny (model prog w) A (eval iter env) (fun xv s₁ => ∃ r t u v h' tk', xv = .ref r ∧ s₁ = { s with heap := h', toks := tk' } ∧ Fr h₀ env.locals h' m ∧ News h₀ env.locals h' news ∧ IsRange h' r 0 (n : Int) 1 t u v) E s)
    (hsm : Builtin.Range.small 0 (n : Int) 1 = true) (hn : Builtin.Range.rangeSize 0 (n : Int) 1 = (n : Int)) (h0 : J 0 m news)
    (hstep : ∀ I i t m₁ news₁ it h tk (P : Flow → Shared → Prop), i < n → J i m₁ news₁ → Fr h₀ env.locals h (fun y => if y = x then some (.int (i : Int) t) else m₁ y) → News h₀ env.locals h ((I, it) :: news₁) → (∀ p ∈ news₁, p.1 ≠ I) →
      (∀ h' tk' m₂ news₂, Fr h₀ env.locals h' m₂ → News h₀ env.locals h' ((I, it) :: news₂) → (∀ p ∈ news₂, p.1 ≠ I) → J (i + 1) m₂ news₂ → P .next { s with heap := h', toks := tk' }) → (∀ v s', Q (.ret v) s' → P (.ret v) s') →
      wpAny (model prog w) A (execs body env) P E { s with heap := h, toks := tk })
    (hfin : ∀ m' news' h' tk', J n m' news' → Fr h₀ env.locals h' m' → News h₀ env.locals h' news' → Q .next { s with heap := h', toks := tk' })
    (hs : ∀ x, foldedSetIterable iter env x = pure x := by intro _; rfl)
    (hE : PassesOwn (model prog w) A env E := by passes_own) :
    wpAny (model prog w) A (exec (.For (.Name x px) iter body [] pos) env) Q E s := by
  refine For_invV h₀ hx hp (wpAny_mono hiter (fun xv s₁ h₁ => ?_) fun _ _ e => e) hs hE
  obtain ⟨r, t, u, v, h', tk', rfl, rfl, F, N, hr⟩ := h₁
  refine iter_rangeUnr (n := n) hh hr hsm hn F N fun I hI => ?_
  exact range_rest (s₂ := { s with heap := h', toks := tk' }) J (hstep I) hfin n 0 m news (by omega) h0 fun p hp => Nat.ne_of_lt (hI p hp)
end
end

section
section
def KOut {α : Type} (n : Nat) (key : Nat → Int) (P : α → Prop) : KasT α → Prop
  | .ret a => P a
  | .ask i j k => i < n ∧ j < n ∧ KOut n key P (k (decide (key i < key j)))
theorem KOut.mono {α : Type} {n : Nat} {key : Nat → Int} {P P' : α → Prop} (hp : ∀ a, P a → P' a) : ∀ (t : KasT α), KOut n key P t → KOut n key P' t
  | .ret _, h => hp _ h
  | .ask _ _ k, h => ⟨h.1, h.2.1, KOut.mono hp (k _) h.2.2⟩
theorem KOut.bind {α β : Type} {n : Nat} {key : Nat → Int} {P : β → Prop} {f : α → KasT β} : ∀ (t : KasT α), KOut n key (fun a => KOut n key P (f a)) t → KOut n key P (t.bind f)
  | .ret _, h => h
  | .ask _ _ k, h => ⟨h.1, h.2.1, KOut.bind (k _) h.2.2⟩
/-- from the tree to the questions asked of the program -/
theorem KOut.wp {α : Type} {n : Nat} {key : Nat → Int} {P : α → Prop} {cmp : Nat → Nat → (Bool → Shared → Prop) → Shared → Prop} {G : Shared → Prop} {Q : α → Shared → Prop}
    (hc : ∀ i j C s, i < n → j < n → G s → (∀ s', G s' → C (decide (key i < key j)) s') → cmp i j C s) (hq : ∀ a s', P a → G s' → Q a s') : ∀ (t : KasT α) (s : Shared), KOut n key P t → G s → t.kasWp cmp Q s
  | .ret _, _, h, g => hq _ _ h g
  | .ask _ _ k, _, h, g => hc _ _ _ _ h.1 h.2.1 g fun s' g' => KOut.wp hc hq (k _) s' h.2.2 g'

variable {n : Nat} {key : Nat → Int} {p : Array Nat}
def Rk (key : Nat → Int) (i j : Nat) : Prop := key i < key j ∨ (key i = key j ∧ i < j)
def Pm (n : Nat) (p : Array Nat) : Prop := p.toList.Perm (List.range n)
theorem Pm.size (h : Pm n p) : p.size = n := by have := h.length_eq; simpa using this
theorem Pm.get (h : Pm n p) {i : Nat} (hi : i < n) : p.getD i 0 < n := by
  have hs := h.size
  have : p.getD i 0 ∈ p.toList := by
    have e : p.getD i 0 = p[i]'(by omega) := by simp [Array.getD, hs, hi]
    rw [e]
    simp
  exact List.mem_range.mp (h.mem_iff.mp this)
theorem Pm.rev (h : Pm n p) (i j : Nat) : Pm n (kas_rev p i j) := (Array.perm_iff_toList_perm.mp (mirror_perm p i j _)).trans h
theorem Pm.bub (h : Pm n p) (i j : Nat) : Pm n (bubble p i j) := (Array.perm_iff_toList_perm.mp (bubble_perm p i j)).trans h
theorem getD_rev {a b : Nat} (hb : b ≤ p.size) (i : Nat) : (kas_rev p a b).getD i 0 = if a ≤ i ∧ i < b then p.getD (a + b - 1 - i) 0 else p.getD i 0 := by
  have := getElem?_mirror_all (i := a) hb i
  simp only [Array.getD_eq_getD_getElem?]
  unfold kas_rev
  rw [this]
  split <;> rfl
theorem getD_bub {k l : Nat} (hk : k < p.size) (hl : l ≤ k) (i : Nat) : (bubble p k (k - l)).getD i 0 = if i = l then p.getD k 0 else if l < i ∧ i ≤ k then p.getD (i - 1) 0 else p.getD i 0 := by
  have := getElem?_bubble hk (k - l) (by omega) i
  simp only [Array.getD_eq_getD_getElem?]
  rw [this]
  have e : k - (k - l) = l := by omega
  rw [e]
  split
  · rfl
  · split <;> rfl
def Srt (key : Nat → Int) (p : Array Nat) (k : Nat) : Prop := ∀ i j, i < j → j < k → Rk key (p.getD i 0) (p.getD j 0)
def Suf (n : Nat) (p : Array Nat) (k : Nat) : Prop := ∀ i, k ≤ i → i < n → p.getD i 0 = i
def Pre (p : Array Nat) (k : Nat) : Prop := ∀ i, i < k → p.getD i 0 < k
def Base (n : Nat) (p : Array Nat) (k : Nat) : Prop := Pm n p ∧ Suf n p k ∧ Pre p k
theorem Base.succ {k : Nat} (h : Base n p k) (hk : k < n) : Base n p (k + 1) := by
  refine ⟨h.1, fun i h1 h2 => h.2.1 i (by omega) h2, fun i hi => ?_⟩
  rcases Nat.lt_or_ge i k with h1 | h1
  · have := h.2.2 i h1; omega
  · have := h.2.1 i h1 (by omega); omega
theorem Base.rev {k a b : Nat} (h : Base n p k) (hb : b ≤ k) (hk : k ≤ n) : Base n (kas_rev p a b) k := by
  have hs := h.1.size
  refine ⟨h.1.rev _ _, fun i h1 h2 => ?_, fun i hi => ?_⟩
  · rw [getD_rev (by omega), if_neg (by omega)]; exact h.2.1 i h1 h2
  · rw [getD_rev (by omega)]
    split
    · exact h.2.2 _ (by omega)
    · exact h.2.2 _ hi
theorem Base.bub {k l : Nat} (h : Base n p (k + 1)) (hl : l ≤ k) (hk : k < n) : Base n (bubble p k (k - l)) (k + 1) := by
  have hs := h.1.size
  refine ⟨h.1.bub _ _, fun i h1 h2 => ?_, fun i hi => ?_⟩
  · rw [getD_bub (by omega) hl, if_neg (by omega), if_neg (by omega)]; exact h.2.1 i h1 h2
  · rw [getD_bub (by omega) hl]
    split
    · exact h.2.2 _ (by omega)
    · split
      · exact h.2.2 _ (by omega)
      · exact h.2.2 _ hi

theorem out_asc : ∀ (f a : Nat), Base n p a → Srt key p a → 1 ≤ a → a + f ≤ n →
    KOut n key (fun m => a ≤ m ∧ m ≤ a + f ∧ Base n p m ∧ Srt key p m ∧ (m < a + f → key (p.getD m 0) < key (p.getD (m - 1) 0))) (kas_asc p f a)
  | 0, a, hb, hs, h1, hn => ⟨by omega, by omega, hb, hs, by omega⟩
  | f + 1, a, hb, hs, h1, hn => by
    refine ⟨hb.1.get (by omega), hb.1.get (by omega), ?_⟩
    by_cases h : key (p.getD a 0) < key (p.getD (a - 1) 0)
    · rw [decide_eq_true h]
      exact ⟨by omega, by omega, hb, hs, fun _ => h⟩
    · rw [decide_eq_false h]
      have hs2 : Srt key p (a + 1) := by
        intro i j hij hj
        rcases Nat.lt_or_ge j a with hja | hja
        · exact hs i j hij hja
        · have ej : j = a := by omega
          subst ej
          have e1 := hb.2.1 j (by omega) (by omega)
          have e2 := hb.2.2 i (by omega)
          rcases Nat.lt_or_ge i (j - 1) with hi | hi
          · have r := hs i (j - 1) hi (by omega)
            unfold Rk at r ⊢
            omega
          · have ei : i = j - 1 := by omega
            subst ei
            unfold Rk
            omega
      refine KOut.mono (fun m hm => ?_) _ (out_asc f (a + 1) (hb.succ (by omega)) hs2 (by omega) (by omega))
      obtain ⟨c1, c2, c3, c4, c5⟩ := hm
      exact ⟨by omega, by omega, c3, c4, fun h => c5 (by omega)⟩

def Dsc (key : Nat → Int) (p : Array Nat) (m q : Nat) : Prop :=
  q + 1 ≤ m ∧ (∀ i j, i < j → j < m - (q + 1) → Rk key (p.getD j 0) (p.getD i 0)) ∧ (∀ i j, i < m - (q + 1) → m - (q + 1) ≤ j → j < m → key (p.getD j 0) < key (p.getD i 0)) ∧
  (∀ i j, m - (q + 1) ≤ i → i < j → j < m → key (p.getD i 0) = key (p.getD j 0) ∧ p.getD i 0 < p.getD j 0)
def Rev (key : Nat → Int) (p : Array Nat) (k : Nat) : Prop := ∀ i j, i < j → j < k → Rk key (p.getD j 0) (p.getD i 0)

theorem Dsc.toRev {m q : Nat} (hD : Dsc key p m q) (hm : m ≤ p.size) : Rev key (if q > 0 then kas_rev p (m - (q + 1)) m else p) m := by
  obtain ⟨h0, ha, hb, hc⟩ := hD
  intro i j hij hj
  by_cases hq : q > 0
  · rw [if_pos hq, getD_rev hm, getD_rev hm]
    by_cases hi : m - (q + 1) ≤ i
    · rw [if_pos ⟨by omega, by omega⟩, if_pos ⟨by omega, by omega⟩]
      have r := hc (m - (q + 1) + m - 1 - j) (m - (q + 1) + m - 1 - i) (by omega) (by omega) (by omega)
      unfold Rk; omega
    · rw [if_neg (by omega) (c := m - (q + 1) ≤ i ∧ i < m)]
      by_cases hj2 : m - (q + 1) ≤ j
      · rw [if_pos ⟨by omega, by omega⟩]
        have r := hb i (m - (q + 1) + m - 1 - j) (by omega) (by omega) (by omega)
        unfold Rk; omega
      · rw [if_neg (by omega)]
        exact ha i j hij (by omega)
  · rw [if_neg hq]
    rcases Nat.lt_or_ge j (m - (q + 1)) with h | h
    · exact ha i j hij h
    · have r := hb i j (by omega) h hj
      unfold Rk; omega
theorem Rev.toSrt {m : Nat} (h : Rev key p m) (hm : m ≤ p.size) : Srt key (kas_rev p 0 m) m := by
  intro i j hij hj
  rw [getD_rev hm, getD_rev hm, if_pos ⟨by omega, by omega⟩, if_pos ⟨by omega, by omega⟩]
  exact h _ _ (by omega) (by omega)
theorem Srt.toRev {m : Nat} (h : Srt key p m) (he : m > 0 → key (p.getD 0 0) = key (p.getD (m - 1) 0)) (hm : m ≤ p.size) : Rev key (kas_rev p 0 m) m ∧ ∀ i j, i < m → j < m → key ((kas_rev p 0 m).getD i 0) = key ((kas_rev p 0 m).getD j 0) := by
  have all : ∀ i, i < m → key (p.getD i 0) = key (p.getD 0 0) := by
    intro i hi
    have e := he (by omega)
    have a1 : key (p.getD 0 0) ≤ key (p.getD i 0) := by
      rcases Nat.eq_zero_or_pos i with rfl | h0
      · exact Int.le_refl _
      · have := h 0 i h0 hi; unfold Rk at this; omega
    have a2 : key (p.getD i 0) ≤ key (p.getD (m - 1) 0) := by
      rcases Nat.lt_or_ge i (m - 1) with h0 | h0
      · have := h i (m - 1) h0 (by omega); unfold Rk at this; omega
      · have : i = m - 1 := by omega
        rw [this]; exact Int.le_refl _
    omega
  refine ⟨fun i j hij hj => ?_, fun i j hi hj => ?_⟩
  · rw [getD_rev hm, getD_rev hm, if_pos ⟨by omega, by omega⟩, if_pos ⟨by omega, by omega⟩]
    exact h _ _ (by omega) (by omega)
  · rw [getD_rev hm, getD_rev hm, if_pos ⟨by omega, by omega⟩, if_pos ⟨by omega, by omega⟩, all _ (by omega), all (0 + m - 1 - j) (by omega)]

theorem out_desc : ∀ (f m q : Nat) (p : Array Nat), Base n p m → Dsc key p m q → m + f ≤ n →
    KOut n key (fun r => m ≤ r.2.1 ∧ r.2.1 ≤ m + f ∧ Base n r.1 r.2.1 ∧ Dsc key r.1 r.2.1 r.2.2) (kas_desc f p m q)
  | 0, m, q, p, hb, hd, hn => ⟨Nat.le_refl _, by show m ≤ m + 0; omega, hb, hd⟩
  | f + 1, m, q, p, hb, hd, hn => by
    have hs := hb.1.size
    have hm1 : 1 ≤ m := by have := hd.1; omega
    refine ⟨hb.1.get (by omega), hb.1.get (by omega), ?_⟩
    have up : ∀ (q' : Nat) (p' : Array Nat), Base n p' (m + 1) → Dsc key p' (m + 1) q' → KOut n key (fun r => m ≤ r.2.1 ∧ r.2.1 ≤ m + (f + 1) ∧ Base n r.1 r.2.1 ∧ Dsc key r.1 r.2.1 r.2.2) (kas_desc f p' (m + 1) q') := fun q' p' hb' hd' =>
      KOut.mono (fun r hr => ⟨by omega, by omega, hr.2.2⟩) _ (out_desc f (m + 1) q' p' hb' hd' (by omega))
    by_cases h : key (p.getD m 0) < key (p.getD (m - 1) 0)
    · rw [decide_eq_true h]
      have hr := hd.toRev (by omega)
      have low : ∀ i, i < m → key (p.getD m 0) < key (p.getD i 0) := by
        intro i hi
        obtain ⟨h0, ha, hb', hc⟩ := hd
        rcases Nat.lt_or_ge i (m - (q + 1)) with h1 | h1
        · have := hb' i (m - 1) h1 (by omega) (by omega); omega
        · rcases Nat.lt_or_ge i (m - 1) with h2 | h2
          · have := hc i (m - 1) h1 h2 (by omega); omega
          · have : i = m - 1 := by omega
            rw [this]; exact h
      have fin : ∀ p' : Array Nat, Rev key p' m → (p'.getD m 0 = p.getD m 0) → (∀ i, i < m → ∃ j, j < m ∧ p'.getD i 0 = p.getD j 0) → Dsc key p' (m + 1) 0 := by
        intro p' hr' em hi'
        refine ⟨by omega, fun i j hij hj => hr' i j hij (by omega), fun i j hi hj1 hj2 => ?_, fun i j h1 h2 h3 => by omega⟩
        have ej : j = m := by omega
        subst ej
        obtain ⟨j', h1, h2⟩ := hi' i (by omega)
        rw [em, h2]
        exact low _ h1
      show KOut n key _ (if q > 0 then kas_desc f (kas_rev p (m - (q + 1)) m) (m + 1) 0 else kas_desc f p (m + 1) 0)
      by_cases hq : q > 0
      · rw [if_pos hq] at hr ⊢
        refine up _ _ ((hb.rev (Nat.le_refl _) (by omega)).succ (by omega)) (fin _ hr ?_ fun i hi => ?_)
        · rw [getD_rev (by omega), if_neg (by omega)]
        · rw [getD_rev (by omega)]
          by_cases h1 : m - (q + 1) ≤ i ∧ i < m
          · rw [if_pos h1]; exact ⟨_, by omega, rfl⟩
          · rw [if_neg h1]; exact ⟨_, hi, rfl⟩
      · rw [if_neg hq] at hr ⊢
        exact up _ _ (hb.succ (by omega)) (fin _ hr rfl fun i hi => ⟨i, hi, rfl⟩)
    · rw [decide_eq_false h]
      refine ⟨hb.1.get (by omega), hb.1.get (by omega), ?_⟩
      by_cases h2 : key (p.getD (m - 1) 0) < key (p.getD m 0)
      · rw [decide_eq_true h2]
        exact ⟨Nat.le_refl _, by show m ≤ m + (f + 1); omega, hb, hd⟩
      · rw [decide_eq_false h2]
        refine up _ _ (hb.succ (by omega)) ?_
        have e1 := hb.2.1 m (by omega) (by omega)
        obtain ⟨h0, ha, hb', hc⟩ := hd
        have e0 : m + 1 - (q + 1 + 1) = m - (q + 1) := by omega
        refine ⟨by omega, ?_, ?_, ?_⟩
        · rw [e0]; exact ha
        · rw [e0]
          intro i j h1 h3 h4
          rcases Nat.lt_or_ge j m with h5 | h5
          · exact hb' i j h1 h3 h5
          · have ej : j = m := by omega
            subst ej
            have := hb' i (j - 1) h1 (by omega) (by omega)
            omega
        · rw [e0]
          intro i j h1 h3 h4
          rcases Nat.lt_or_ge j m with h5 | h5
          · exact hc i j h1 h3 h5
          · have ej : j = m := by omega
            subst ej
            have e2 := hb.2.2 i (by omega)
            rcases Nat.lt_or_ge i (j - 1) with h6 | h6
            · have := hc i (j - 1) h1 h6 (by omega)
              omega
            · have ei : i = j - 1 := by omega
              subst ei
              omega

def Done (n : Nat) (key : Nat → Int) (r : Nat × Array Nat) : Prop := 1 ≤ r.1 ∧ r.1 ≤ n ∧ Base n r.2 r.1 ∧ Srt key r.2 r.1
theorem out_tail3 {m : Nat} (hb : Base n p m) (hr : Rev key p m) (h1 : 1 ≤ m) (hn : m ≤ n) : KOut n key (Done n key) (kas_tail3 m n p) := by
  have hs := hb.1.size
  unfold kas_tail3
  refine KOut.bind _ (KOut.mono (fun r hr => ?_) _ (out_asc (n - m) m (hb.rev (Nat.le_refl _) hn) (hr.toSrt (by omega)) h1 (by omega)))
  exact ⟨by show 1 ≤ r; omega, by show r ≤ n; omega, hr.2.2.1, hr.2.2.2.1⟩
theorem out_descPart {m : Nat} (hb : Base n p m) (hr : Rev key p m) (he : ∀ i j, i < m → j < m → key (p.getD i 0) = key (p.getD j 0)) (h1 : 1 ≤ m) (hn : m < n) (hl : key (p.getD m 0) < key (p.getD (m - 1) 0)) :
    KOut n key (Done n key) (kas_descPart m n p) := by
  unfold kas_descPart
  have hd : Dsc key p (m + 1) 0 := by
    refine ⟨by omega, fun i j hij hj => hr i j hij (by omega), fun i j hi hj1 hj2 => ?_, fun i j h1 h2 h3 => by omega⟩
    have ej : j = m := by omega
    subst ej
    rw [he i (j - 1) (by omega) (by omega)]
    exact hl
  refine KOut.bind _ (KOut.mono (fun r hr => ?_) _ (out_desc (n - (m + 1)) (m + 1) 0 p (hb.succ hn) hd (by omega)))
  obtain ⟨p', m', q'⟩ := r
  obtain ⟨c1, c2, c3, c4⟩ := hr
  dsimp only at c1 c2 c3 c4 ⊢
  have hs' := c3.1.size
  have hv := c4.toRev (by omega)
  by_cases hq : q' > 0
  · rw [if_pos hq] at hv ⊢
    exact out_tail3 (c3.rev (Nat.le_refl _) (by omega)) hv (by omega) (by omega)
  · rw [if_neg hq] at hv ⊢
    exact out_tail3 c3 hv (by omega) (by omega)
theorem out_count (hb : Base n p 1) (h2 : 2 ≤ n) : KOut n key (Done n key) (kas_count n p) := by
  unfold kas_count
  refine KOut.bind _ (KOut.mono (fun m hm => ?_) _ (out_asc (n - 1) 1 hb (fun i j h1 h2 => by omega) (Nat.le_refl _) (by omega)))
  obtain ⟨c1, c2, c3, c4, c5⟩ := hm
  have hs := c3.1.size
  by_cases e : m = n
  · subst e
    simp only [beq_self_eq_true, if_true]
    exact ⟨c1, Nat.le_refl _, c3, c4⟩
  · have e' : (m == n) = false := by simp [e]
    rw [e', if_neg (by simp)]
    have hl := c5 (by omega)
    by_cases h1 : m > 1
    · rw [if_pos h1]
      refine ⟨c3.1.get (by omega), c3.1.get (by omega), ?_⟩
      by_cases h : key (p.getD 0 0) < key (p.getD (m - 1) 0)
      · rw [decide_eq_true h]
        exact ⟨c1, by show m ≤ n; omega, c3, c4⟩
      · rw [decide_eq_false h]
        have q0 := c4 0 (m - 1) (by omega) (by omega)
        have eq0 : key (p.getD 0 0) = key (p.getD (m - 1) 0) := by unfold Rk at q0; omega
        have hv := c4.toRev (fun _ => eq0) (by omega)
        refine out_descPart (c3.rev (Nat.le_refl _) (by omega)) hv.1 hv.2 c1 (by omega) ?_
        rw [getD_rev (by omega), getD_rev (by omega), if_neg (by omega), if_pos ⟨by omega, by omega⟩]
        have e3 : 0 + m - 1 - (m - 1) = 0 := by omega
        rw [e3, eq0]
        exact hl
    · rw [if_neg h1]
      exact out_descPart c3 (fun i j h3 h4 => by omega) (fun i j h3 h4 => by
        have : i = j := by omega
        rw [this]) c1 (by omega) hl
theorem out_place {k : Nat} (hb : Base n p k) (hs : Srt key p k) (hk : k < n) : ∀ (f l r : Nat), l ≤ r → r ≤ k → r ≤ l + f → (∀ i, i < l → key (p.getD i 0) ≤ key (p.getD k 0)) → (∀ i, r ≤ i → i < k → key (p.getD k 0) < key (p.getD i 0)) →
    KOut n key (fun l => l ≤ k ∧ (∀ i, i < l → key (p.getD i 0) ≤ key (p.getD k 0)) ∧ (∀ i, l ≤ i → i < k → key (p.getD k 0) < key (p.getD i 0))) (kas_place p k f l r)
  | 0, l, r, h1, h2, h3, h4, h5 => by
    have e : r = l := by omega
    subst e
    exact ⟨h2, h4, h5⟩
  | f + 1, l, r, h1, h2, h3, h4, h5 => by
    unfold kas_place
    by_cases h : l ≥ r
    · rw [if_pos h]
      have e : r = l := by omega
      subst e
      exact ⟨h2, h4, h5⟩
    · rw [if_neg h]
      refine ⟨hb.1.get (by omega), hb.1.get (by omega), ?_⟩
      by_cases c : key (p.getD k 0) < key (p.getD ((l + r) / 2) 0)
      · rw [decide_eq_true c]
        refine out_place hb hs hk f l _ (by omega) (by omega) (by omega) h4 fun i hi1 hi2 => ?_
        rcases Nat.lt_or_ge ((l + r) / 2) i with h6 | h6
        · have q := hs ((l + r) / 2) i h6 hi2
          unfold Rk at q
          omega
        · have e : i = (l + r) / 2 := by omega
          rw [e]; exact c
      · rw [decide_eq_false c]
        refine out_place hb hs hk f _ r (by omega) h2 (by omega) (fun i hi => ?_) h5
        rcases Nat.lt_or_ge i ((l + r) / 2) with h6 | h6
        · have q := hs i ((l + r) / 2) h6 (by omega)
          unfold Rk at q
          omega
        · have e : i = (l + r) / 2 := by omega
          rw [e]; omega
theorem out_bin : ∀ (f k : Nat) (p : Array Nat), Base n p k → Srt key p k → 1 ≤ k → k + f = n → KOut n key (fun p => Pm n p ∧ Srt key p n) (kas_bin f p k)
  | 0, k, p, hb, hs, h1, hn => by
    have e : k = n := by omega
    subst e
    exact ⟨hb.1, hs⟩
  | f + 1, k, p, hb, hs, h1, hn => by
    have hz := hb.1.size
    refine KOut.bind _ (KOut.mono (fun l hl => ?_) _ (out_place hb hs (by omega) k 0 k (by omega) (Nat.le_refl _) (by omega) (fun i hi => by omega) (fun i h1 h2 => by omega)))
    obtain ⟨c1, c2, c3⟩ := hl
    refine out_bin f (k + 1) _ ((hb.succ (by omega)).bub c1 (by omega)) (fun i j hij hj => ?_) (by omega) (by omega)
    rw [getD_bub (by omega) c1, getD_bub (by omega) c1]
    have ek := hb.2.1 k (by omega) (by omega)
    by_cases hi : i = l
    · rw [if_pos hi, if_neg (by omega), if_pos ⟨by omega, by omega⟩]
      have := c3 (j - 1) (by omega) (by omega)
      unfold Rk; omega
    · rw [if_neg hi]
      by_cases hj1 : j = l
      · rw [if_pos hj1, if_neg (by omega)]
        have := c2 i (by omega)
        have := hb.2.2 i (by omega)
        unfold Rk; omega
      · rw [if_neg hj1]
        by_cases hi2 : l < i ∧ i ≤ k
        · rw [if_pos hi2, if_pos ⟨by omega, by omega⟩]
          exact hs _ _ (by omega) (by omega)
        · rw [if_neg hi2]
          by_cases hj2 : l < j ∧ j ≤ k
          · rw [if_pos hj2]
            exact hs _ _ (by omega) (by omega)
          · rw [if_neg hj2]
            exact hs _ _ (by omega) (by omega)
theorem out_sort (h2 : 2 ≤ n) : KOut n key (fun p => Pm n p ∧ Srt key p n) (kas_sort n) := by
  unfold kas_sort
  have g0 : ∀ i, i < n → (List.toArray (List.range n)).getD i 0 = i := by
    intro i hi
    simp [Array.getD, hi]
  have hb : Base n (List.toArray (List.range n)) 1 := ⟨List.Perm.refl _, fun i _ h => g0 i h, fun i h => by rw [g0 i (by omega)]; omega⟩
  refine KOut.bind _ (KOut.mono (fun r hr => ?_) _ (out_count hb h2))
  obtain ⟨c1, c2, c3, c4⟩ := hr
  have hm : max r.1 1 = r.1 := by omega
  by_cases h : r.1 < n
  · rw [if_pos h, hm]
    exact out_bin _ _ _ c3 c4 c1 (by omega)
  · rw [if_neg h]
    have e : r.1 = n := by omega
    rw [e] at c3 c4
    exact ⟨c3.1, c4⟩
end
end

section
section
def lawIns {α : Type} (before : α → α → Bool) (found : List α) (r : α) : List α :=
  found.take (found.filter fun own => !before r own).length ++ [r] ++ found.drop (found.filter fun own => !before r own).length
def lawSort {α : Type} (before : α → α → Bool) (rs : List α) : List α := rs.foldl (lawIns before) []
theorem lawIns_length {α : Type} (before : α → α → Bool) (found : List α) (r : α) : (lawIns before found r).length = found.length + 1 := by
  have := List.length_filter_le (fun own => !before r own) found
  unfold lawIns
  simp only [List.length_append, List.length_take, List.length_drop, List.length_cons, List.length_nil]
  omega
theorem lawIns_map {α β : Type} (f : α → β) (before : β → β → Bool) (found : List α) (r : α) : lawIns before (found.map f) (f r) = (lawIns (fun a b => before (f a) (f b)) found r).map f := by
  unfold lawIns
  have e : ((found.map f).filter fun own => !before (f r) own).length = (found.filter fun own => !before (f r) (f own)).length := by
    rw [List.filter_map, List.length_map]; rfl
  rw [e]
  simp only [List.map_append, List.map_take, List.map_drop, List.map_cons, List.map_nil]
theorem lawFold_map {α β : Type} (f : α → β) (before : β → β → Bool) : ∀ (rs found : List α), (rs.map f).foldl (lawIns before) (found.map f) = (rs.foldl (lawIns fun a b => before (f a) (f b)) found).map f
  | [], _ => rfl
  | r :: rs, found => by
    show (rs.map f).foldl (lawIns before) (lawIns before (found.map f) (f r)) = _
    rw [lawIns_map]
    exact lawFold_map f before rs _
theorem lawSort_map {α β : Type} (f : α → β) (before : β → β → Bool) (rs : List α) : lawSort before (rs.map f) = (lawSort (fun a b => before (f a) (f b)) rs).map f := lawFold_map f before rs []

variable {n : Nat} {key : Nat → Int}
theorem lawIns_split {r : Nat} : ∀ (found : List Nat), found.Pairwise (Rk key) → ∃ A B, found = A ++ B ∧ lawIns (fun a b => decide (key a < key b)) found r = A ++ r :: B ∧ (∀ x ∈ A, key x ≤ key r) ∧ (∀ x ∈ B, key r < key x)
  | [], _ => ⟨[], [], rfl, rfl, by simp, by simp⟩
  | x :: xs, h => by
    obtain ⟨h1, h2⟩ := List.pairwise_cons.mp h
    by_cases c : key r < key x
    · have hall : ∀ y ∈ x :: xs, key r < key y := by
        intro y hy
        rcases List.mem_cons.mp hy with rfl | hy
        · exact c
        · have := h1 y hy; unfold Rk at this; omega
      have e : ((x :: xs).filter fun own => !decide (key r < key own)) = [] := by
        rw [List.filter_eq_nil_iff]
        intro y hy
        simp [hall y hy]
      refine ⟨[], x :: xs, rfl, ?_, by simp, hall⟩
      unfold lawIns
      rw [e]
      rfl
    · obtain ⟨A, B, e1, e2, e3, e4⟩ := lawIns_split xs h2
      refine ⟨x :: A, B, by rw [e1]; rfl, ?_, fun y hy => ?_, e4⟩
      · unfold lawIns at e2 ⊢
        have e : ((x :: xs).filter fun own => !decide (key r < key own)) = x :: (xs.filter fun own => !decide (key r < key own)) := by
          rw [List.filter_cons_of_pos]; simp only [decide_eq_false c]; rfl
        rw [e]
        show x :: _ = x :: _
        congr 1
      · rcases List.mem_cons.mp hy with rfl | hy
        · omega
        · exact e3 y hy
theorem lawFold_idx : ∀ (k m : Nat) (found : List Nat), found.Perm (List.range m) → found.Pairwise (Rk key) →
    ((List.range' m k).foldl (lawIns fun a b => decide (key a < key b)) found).Perm (List.range (m + k)) ∧ ((List.range' m k).foldl (lawIns fun a b => decide (key a < key b)) found).Pairwise (Rk key)
  | 0, m, found, hp, hs => ⟨hp, hs⟩
  | k + 1, m, found, hp, hs => by
    obtain ⟨A, B, e1, e2, e3, e4⟩ := lawIns_split (r := m) found hs
    have lt : ∀ x ∈ found, x < m := fun x hx => List.mem_range.mp (hp.mem_iff.mp hx)
    rw [List.range'_succ, List.foldl_cons, e2]
    have hp2 : (A ++ m :: B).Perm (List.range (m + 1)) := by
      refine List.perm_middle.trans ?_
      rw [List.range_succ]
      refine List.Perm.trans ?_ (List.perm_append_singleton m _).symm
      exact (e1 ▸ hp).cons m
    have hs2 : (A ++ m :: B).Pairwise (Rk key) := by
      rw [e1, List.pairwise_append] at hs
      refine List.pairwise_append.mpr ⟨hs.1, List.pairwise_cons.mpr ⟨fun x hx => .inl (e4 x hx), hs.2.1⟩, fun x hx y hy => ?_⟩
      rcases List.mem_cons.mp hy with rfl | hy
      · have a1 := e3 x hx
        have a2 := lt x (by rw [e1]; exact List.mem_append_left _ hx)
        unfold Rk; omega
      · exact hs.2.2 x hx y hy
    have := lawFold_idx k (m + 1) _ hp2 hs2
    have e : m + (k + 1) = m + 1 + k := by omega
    rw [e]
    exact this
theorem Srt.pairwise {p : Array Nat} (h : Srt key p n) (hz : p.size = n) : p.toList.Pairwise (Rk key) := by
  rw [List.pairwise_iff_getElem]
  intro i j hi hj hij
  have hi' : i < p.size := by simpa using hi
  have hj' : j < p.size := by simpa using hj
  have := h i j hij (by omega)
  simpa [Array.getD, hi', hj'] using this
theorem sort_idx {p : Array Nat} (hp : Pm n p) (hs : Srt key p n) : p.toList = lawSort (fun a b => decide (key a < key b)) (List.range n) := by
  have hI := lawFold_idx (key := key) n 0 [] (List.Perm.refl _) List.Pairwise.nil
  rw [Nat.zero_add] at hI
  have e : List.range n = List.range' 0 n := List.range_eq_range'
  have hl : lawSort (fun a b => decide (key a < key b)) (List.range n) = (List.range' 0 n).foldl (lawIns fun a b => decide (key a < key b)) [] := by rw [e]; rfl
  rw [hl]
  refine List.Perm.eq_of_pairwise (le := Rk key) (fun a b _ _ h1 h2 => ?_) (hs.pairwise hp.size) hI.2 (hp.trans hI.1.symm)
  unfold Rk at h1 h2
  omega
/-- what the sort leaves, told of the items themselves -/
theorem sort_law {α : Type} (rs : List α) (d : α) (before : α → α → Bool) (kk : α → Int) (hk : ∀ a ∈ rs, ∀ b ∈ rs, before a b = decide (kk a < kk b)) {p : Array Nat}
    (hp : Pm rs.length p) (hs : Srt (fun i => kk (rs.getD i d)) p rs.length) : p.toList.map (fun i => rs.getD i d) = lawSort before rs := by
  have e : (List.range rs.length).map (fun i => rs.getD i d) = rs := by
    apply List.ext_getElem (by simp)
    intro i h1 h2
    simp [h2]
  have key : ∀ (l found : List α), (∀ a ∈ l, a ∈ rs) → (∀ a ∈ found, a ∈ rs) → l.foldl (lawIns before) found = l.foldl (lawIns fun a b => decide (kk a < kk b)) found := by
    intro l
    induction l with
    | nil => intro _ _ _; rfl
    | cons r l ih =>
      intro found h1 h2
      have e1 : found.filter (fun own => !before r own) = found.filter (fun own => !decide (kk r < kk own)) := List.filter_congr fun x hx => by rw [hk r (h1 r (.head _)) x (h2 x hx)]
      have e2 : lawIns before found r = lawIns (fun a b => decide (kk a < kk b)) found r := by unfold lawIns; rw [e1]
      rw [List.foldl_cons, List.foldl_cons, e2]
      refine ih _ (fun a ha => h1 a (.tail _ ha)) fun a ha => ?_
      unfold lawIns at ha
      rcases List.mem_append.mp ha with ha | ha
      · rcases List.mem_append.mp ha with ha | ha
        · exact h2 a (List.mem_of_mem_take ha)
        · rw [List.mem_singleton.mp ha]; exact h1 r (.head _)
      · exact h2 a (List.mem_of_mem_drop ha)
  have e2 : lawSort before rs = lawSort (fun a b => decide (kk a < kk b)) rs := key rs [] (fun _ h => h) (by simp)
  rw [e2, sort_idx hp hs]
  conv => rhs; rw [← e]
  exact (lawSort_map (fun i => rs.getD i d) (fun a b => decide (kk a < kk b)) (List.range rs.length)).symm
end
end

section
section
variable {w : World} {mean : ExcName → Option Value} {mg mb : Str → Option Value} {dp un : Nat} {gd : Option (List Code)} {cn : Str} {cs : Scope} {a : Addr} {ccd : Value} {cl : List (Str × Addr)} {outer : List Env}
  {A₀ : Around} {base h₀ : Heap} {L : Addr} {m : Str → Option Value} {news : List (Addr × Obj)} {s : Shared} {Q E : Value → Shared → Prop}
structure Row where
  t : Str
  d : Int
  c : Int
def TpV (news : List (Addr × Obj)) (v : Value) (r : Row) : Prop := ∃ q, v = .ref q ∧ IsTp news q r.t r.d r.c
theorem TpV.sub {news news' : List (Addr × Obj)} {v : Value} {r : Row} (h : TpV news v r) (hs : ∀ p ∈ news, p ∈ news') : TpV news' v r := let ⟨q, e, t⟩ := h; ⟨q, e, t.sub hs⟩
def befR (a b : Row) : Bool := itLt a.d a.c b.d b.c
theorem off_cons {p : Addr × Obj} {l : List (Addr × Obj)} {I : Addr} (h1 : p.1 ≠ I) (h2 : ∀ q ∈ l, q.1 ≠ I) : ∀ q ∈ p :: l, q.1 ≠ I := fun q hq => by
  rcases List.mem_cons.mp hq with rfl | hq
  · exact h1
  · exact h2 q hq
theorem lawIns_mem {α : Type} {b : α → α → Bool} {found : List α} {r u : α} (h : u ∈ lawIns b found r) : u ∈ found ∨ u = r := by
  unfold lawIns at h
  rcases List.mem_append.mp h with h | h
  · rcases List.mem_append.mp h with h | h
    · exact .inl (List.mem_of_mem_take h)
    · exact .inr (List.mem_singleton.mp h)
  · exact .inl (List.mem_of_mem_drop h)
theorem lawFold_mem {α : Type} {b : α → α → Bool} {u : α} : ∀ (xs found : List α), u ∈ xs.foldl (lawIns b) found → u ∈ found ∨ u ∈ xs
  | [], _, h => .inl h
  | x :: xs, found, h => by
    rcases lawFold_mem xs _ h with h | h
    · rcases lawIns_mem h with h | rfl
      · exact .inl h
      · exact .inr (.head _)
    · exact .inr (.tail _ h)
theorem lawFold_length {α : Type} {b : α → α → Bool} : ∀ (xs found : List α), (xs.foldl (lawIns b) found).length = found.length + xs.length
  | [], _ => rfl
  | x :: xs, found => by
    show (xs.foldl (lawIns b) (lawIns b found x)).length = _
    rw [lawFold_length xs, lawIns_length, List.length_cons]; omega
theorem pick_take (vs : List Value) (k : Nat) : kms_pick (vs.toArray).toList none (some (k : Int)) = vs.take k := by
  show (vs.drop 0).take ((if (k : Int) < 0 then vs.length - (-(k : Int)).toNat else min (k : Int).toNat vs.length) - 0) = _
  rw [if_neg (by omega), List.drop_zero, Nat.sub_zero]
  have e : (k : Int).toNat = k := by omega
  rw [e]
  exact (List.take_eq_take_min).symm
theorem pick_drop (vs : List Value) (k : Nat) : kms_pick (vs.toArray).toList (some (k : Int)) none = vs.drop k := by
  show (vs.drop (if (k : Int) < 0 then vs.length - (-(k : Int)).toNat else min (k : Int).toNat vs.length)).take (vs.length - (if (k : Int) < 0 then vs.length - (-(k : Int)).toNat else min (k : Int).toNat vs.length)) = _
  rw [if_neg (by omega)]
  have e : (k : Int).toNat = k := by omega
  rw [e]
  by_cases h : k ≤ vs.length
  · rw [Nat.min_eq_left h]
    exact List.take_of_length_le (by simp)
  · rw [Nat.min_eq_right (by omega), Nat.sub_self, List.take_zero, List.drop_of_length_le (by omega)]
def Stop (p : Prop) : Prop := p
theorem Stop.out {p : Prop} (h : Stop p) : p := h
theorem Stop.mk {p : Prop} (h : p) : Stop p := h
theorem upd_ne {m : Str → Option Value} {x y : Str} {v r : Option Value} (h : y ≠ x) (e : m y = r) : (if y = x then v else m y) = r := by rw [if_neg h]; exact e
local macro_rules | `(tactic| k_mem) => `(tactic| first | (with_reducible assumption) | exact List.mem_cons_self | (refine List.mem_cons_of_mem _ ?_; k_mem))
local macro_rules | `(tactic| k_all) => `(tactic| with_reducible assumption)
local macro_rules | `(tactic| walk_at "call ref") => `(tactic| (k_here; (with_reducible show wpAny _ _ (call (Value.ref 138) [Value.ref _, Value.ref _]) _ _ _); k_dflt (refine' before_call ?k1 ?k2 ?k3 ?k4 ?k5 ?k6 ?k7 ?k8 ?k9 ?k10 ?_; (case k1 => k_asm); (case k2 => k_asm); (case k3 => k_asm); (case k4 => k_asm); (case k5 => k_asm); (case k6 => first | exact rfl | assumption); (case k7 => ktr_room); (case k8 => ktr_units); (case k9 => assumption); (case k10 => assumption); k_whole); intro h9 tk9 F9 N9; (try dsimp only); (try k_fold)))
local macro_rules | `(tactic| walk_at "eval Name") => `(tactic| (k_here; k_dflt (refine' nameX_L ?F ?v ?_ ?a ?b; (case F => k_asm); (case a => rfl); (case b => rfl); (case v => first | assumption | exact upd_ne (by decide) (by assumption) | exact upd_ne (by decide) (upd_ne (by decide) (by assumption))); k_whole)))

local macro_rules | `(tactic| walk_at "call builtin:len") => `(tactic| (k_here; (with_reducible show wpAny _ _ (call (Value.builtin "len") [Value.ref _]) _ _ _); k_dflt (refine' kst_len ?k1 ?k2 ?k3 ?k4 ?_; (case k1 => k_asm); (case k2 => k_mem); (case k3 => exact rfl); (case k4 => omega); k_whole)))
local macro_rules | `(tactic| walk_at "subscriptTail Name Slice ref ref") => `(tactic| (k_here; (with_reducible show wpAny _ _ (subscriptTail _ (PySem.Expr.Slice _ _ none _) (Value.ref _) (Value.ref _)) _ _ _); k_dflt (refine' kms_slice_lit ?F ?N ?l ?p ?q ?e ?_ ?s ?t ?z; (case F => k_asm); (case N => k_asm); (case l => kmk_list); (case p => kmk_part); (case q => kmk_part); (case e => first | exact pick_take _ _ | exact pick_drop _ _); (case s => with_unfolding_all rfl); (case t => kmk_pure); (case z => (rw [List.size_toArray, sizeLine_eq]; omega))); intro D' h' F' N' l1; (try k_sweep)))
local macro_rules | `(tactic| walk_at "binaryOp Add ref ref") => `(tactic| (k_here; (with_reducible show wpAny _ _ (binaryOp _ (Value.ref _) (Value.ref _)) _ _ _); k_dflt (refine' kmk_add_lit ?F ?N ?a ?b ?e ?_ ?z; (case F => k_asm); (case N => k_asm); (case a => kmk_list); (case b => kmk_list); (case e => exact rfl); (case z => (rw [sizeLine_eq]; (simp only [List.length_append, List.length_cons, List.length_nil, List.length_take, List.length_drop]); omega))); intro D' h' F' N' l1; (try k_sweep)))
local macro_rules | `(tactic| walk_at "eval ListComp") => `(tactic| (refine Stop.out ?_))
theorem sorted_call (B : Below A₀ base outer h₀) (F : Fr h₀ L s.heap m) (X : (hd.heap_39 w.params).In h₀) (N : News h₀ L s.heap news)
    (T : Top hd.view_39 (looseW hd.view_39 [Str.ofString "SuggestItem"]) mean mg mb h₀)
    (hk : cs.kind = .function) (hdp : dp + 30 < recursionLimit) (hun : un + 240 < cLine)
    {ra : Addr} {vs : List Value} {n : Nat} {ρ : Value → Row} (hl : (ra, listOf vs.toArray n) ∈ news) (hn : vs.length < 100) (hr : ∀ v ∈ vs, TpV news v (ρ v))
    (hret : ∀ q k h' tk', Fr h₀ L h' m → News h₀ L h' ((q, listOf (lawSort (fun a b => befR (ρ a) (ρ b)) vs).toArray k) :: news) → Q (.ref q) { s with heap := h', toks := tk' }) :
    wpAny (model Challenge.rw_fe0310_01.row.prog w) (ktrTop dp un gd cn cs L a ccd cl outer) (call (.ref 143) [.ref ra]) Q E s := by
  revert X
  k_fill
  intro X
  refine wpAny_call ?_
  k_dflt (refine' code_defC ?k1 ?k2 ?k3 ?k4 ?k5 ?kA ?kF ?kK ?k6 ?k7 ?k8 ?k9 ?kB ?kD ?_ ?c2 ?c3 ?c4; (case kA => exact rfl); (case kF => exact rfl); (case kK => assumption); (case k1 => k_asm); (case k2 => k_asm); (case k3 => k_asm); (case k4 => k_asm); (case k5 => k_asm); (case k6 => k_is); (case k7 => k_is); (case k8 => ktr_room); (case k9 => exact BindsTo.of_eq rfl); (case kB => exact rfl); (case kD => decide +kernel); (case c2 => exact rfl); (case c3 => exact rfl); (case c4 => exact rfl); k_whole)
  intro g' L' h' tk' cells' FG' F' N' Y' B' X' T' l1
  (k_cells Y'; (try simp only [List.cons_append, List.nil_append] at N'))
  (try dsimp only)
  (try k_fold)
  k_steps
  rename Obj => oc
  rename _ ∧ AllLt _ _ => ll
  rename News _ _ _ _ => N2
  rename Fr _ _ _ _ => F2
  rename oc.data = _ => hoc
  rename_i D0 _ _
  have hne0 : ∀ p ∈ (D0, listOf #[] 0) :: news, p.1 ≠ L' + 1 := off_cons (Nat.ne_of_gt ll.1) fun p hp => Nat.ne_of_lt (Nat.lt_succ_of_lt (l1 p hp))
  have N3 : News g' L' _ ((L' + 1, oc) :: (D0, listOf #[] 0) :: news) := News.perm N2 (fun p hp => (List.Perm.swap _ _ _).mem_iff.mp hp)
  refine for_list (news := (L' + 1, oc) :: (D0, listOf #[] 0) :: news) (ax := ra) (xs := vs) (n := n)
    (fun i m₁ news₁ => ∃ D cD oc vc rest, m₁ (Str.ofString "found") = some (.ref D) ∧ m₁ (Str.ofString "rows") = some (.ref ra) ∧ news₁ = (L' + 1, oc) :: rest ∧ oc.data = .cell vc ∧ (∀ p ∈ rest, p.1 ≠ L' + 1) ∧ (D, listOf ((vs.take i).foldl (lawIns fun a b => befR (ρ a) (ρ b)) []).toArray cD) ∈ rest ∧ (∀ p ∈ news, p ∈ rest))
    F2 rfl ?hiter (.tail _ (.tail _ hl)) ⟨D0, 0, oc, _, (D0, listOf #[] 0) :: news, rfl, rfl, rfl, hoc, hne0, .head _, fun p hp => .tail _ hp⟩ ?hstep ?hfin
  case hiter =>
    k_steps
    · assumption
    · exact N3
  case hfin =>
    intro m' news' h5 tk5 hJ F5 N5
    obtain ⟨D, cD, oc1, vc, rest, hm1, hm2, rfl, hoc1, hne1, hD, hsub⟩ := hJ
    rw [List.take_length] at hD
    clear F2 N2 N3 hne0
    replace F5 : Fr g' L' h5 m' := F5
    replace N5 : News g' L' h5 ((L' + 1, oc1) :: rest) := N5
    dsimp only
    k_steps
    rename Fr _ _ _ _ => F7
    rename News _ _ _ _ => N7
    exact hret _ _ _ _ F7 (News.perm N7 fun p hp => by
      rcases List.mem_cons.mp hp with rfl | hp
      · exact .tail _ hD
      · exact .tail _ (hsub p hp))
  intro I i v m₁ news₁ o h tk P hv hJ hra F4 N4 hneI hnext hretP
  obtain ⟨D, cD, oc1, vc, rest, hm1, hm2, rfl, hoc1, hne1, hD, hsub⟩ := hJ
  have hIL : @Ne Nat (L' + 1) I := hneI _ (.head _)
  replace F4 : Fr g' L' h m₁ := F4
  replace N4 : News g' L' h ((I, o) :: (L' + 1, oc1) :: rest) := N4
  have hvm : v ∈ vs := List.mem_of_getElem? hv
  clear F2 N2 N3 hne0
  obtain ⟨rq, rfl, hrq⟩ := hr v hvm
  generalize hpre : (vs.take i).foldl (lawIns fun a b => befR (ρ a) (ρ b)) [] = pre at hD
  have hprem : ∀ u ∈ pre, u ∈ vs := fun u hu => by
    rw [← hpre] at hu
    rcases lawFold_mem _ _ hu with h | h
    · cases h
    · exact List.mem_of_mem_take h
  have hprel : pre.length ≤ 100 := by
    rw [← hpre, lawFold_length, List.length_take, List.length_nil]; omega
  k_steps
  refine Stop.mk ?_
  rename News _ _ _ _ => N5
  rename Fr _ _ _ _ => F5
  rename Obj => oc5
  rename oc5.data = _ => d5
  refine comp_pick (news := (I, o) :: (L' + 1, oc5) :: rest) (xs := pre) (k := cD) (fun u => !befR (ρ (.ref rq)) (ρ u)) F5 (by with_unfolding_all rfl) (by decide) rfl (by decide) rfl rfl ?hiter (.tail _ (.tail _ hD)) (by rw [sizeLine_eq]; omega) ?htest ?helt ?hret
  case hiter =>
    k_steps
    · assumption
    · assumption
  case htest =>
    intro u hu full C oC m₂ h6 tk6 Q' E' hC hx F6 N6 hCin hsub6 hret6
    obtain ⟨uq, rfl, huq⟩ := hr u (hprem u hu)
    have hrq6 := hrq.sub fun p hp => hsub6 p (.tail _ (.tail _ (hsub p hp)))
    have huq6 := huq.sub fun p hp => hsub6 p (.tail _ (.tail _ (hsub p hp)))
    have hcell := hsub6 _ (.tail _ (.head _))
    k_steps
    exact hret6 _ _ (by assumption) (by assumption)
  case helt =>
    intro u hu full C oC m₂ h6 tk6 Q' E' hC hx F6 N6 hCin hret6
    k_steps
    exact hret6 _ _ F6 N6
  intro D5 h6 tk6 F6 N6 hD5
  have hfl := List.length_filter_le (fun u => !befR (ρ (.ref rq)) (ρ u)) pre
  dsimp only
  clear F5 N5
  k_steps
  rename Fr _ _ _ _ => F7
  rename News _ _ _ _ => N7
  rename ∀ (p : Addr × Obj), p ∈ _ → p.1 < _ => l7
  rename_i D7 _ _
  have hD7a : D7 ≠ L' + 1 := Nat.ne_of_gt (l7 (L' + 1, oc5) (by k_mem))
  have hD7b : D7 ≠ I := Nat.ne_of_gt (l7 (I, o) (by k_mem))
  have epre : (vs.take (i + 1)).foldl (lawIns fun a b => befR (ρ a) (ρ b)) [] = lawIns (fun a b => befR (ρ a) (ρ b)) pre (.ref rq) := by
    rw [List.take_add_one, hv, ← hpre, List.foldl_append]; rfl
  refine hnext _ _ _ ((L' + 1, oc5) :: (D7, listOf (lawIns (fun a b => befR (ρ a) (ρ b)) pre (.ref rq)).toArray 0) :: rest) F7 (News.perm N7 fun p hp => ?_) (off_cons hIL (off_cons hD7b fun q hq => hneI q (.tail _ hq))) (.tail _ (.tail _ (hsub _ hl))) ?_
  · rcases List.mem_cons.mp hp with rfl | hp
    · k_mem
    rcases List.mem_cons.mp hp with rfl | hp
    · k_mem
    rcases List.mem_cons.mp hp with rfl | hp
    · exact List.mem_cons_self
    · k_mem
  · exact ⟨D7, 0, oc5, _, _, rfl, hm2, rfl, d5, off_cons hD7a hne1, by rw [epre]; exact .head _, fun p hp => .tail _ (hsub p hp)⟩
end
end

section
section
variable {w : World} {mean : ExcName → Option Value} {mg mb : Str → Option Value} {dp un : Nat} {gd : Option (List Code)} {cn : Str} {cs : Scope} {a : Addr} {ccd : Value} {cl : List (Str × Addr)} {outer : List Env}
  {A₀ : Around} {base h₀ : Heap} {L : Addr} {m : Str → Option Value} {news : List (Addr × Obj)} {s : Shared} {Q E : Value → Shared → Prop}
local macro_rules | `(tactic| k_mem) => `(tactic| first | (with_reducible assumption) | exact List.mem_cons_self | (refine List.mem_cons_of_mem _ ?_; k_mem))
local macro_rules | `(tactic| k_all) => `(tactic| with_reducible assumption)
def ItV (w : World) (news : List (Addr × Obj)) (v : Value) (r : Row) : Prop := ∃ q, v = .ref q ∧ IsIt w news q r.t r.d r.c
theorem ItV.sub {news news' : List (Addr × Obj)} {v : Value} {r : Row} (h : ItV w news v r) (hs : ∀ p ∈ news, p ∈ news') : ItV w news' v r := let ⟨q, e, t⟩ := h; ⟨q, e, t.sub hs⟩
def kkR (r : Row) : Int := r.d * 10 ^ 21 - r.c
theorem befR_kk {a b : Row} (ha : 0 ≤ a.c ∧ a.c < 10 ^ 20) (hb : 0 ≤ b.c ∧ b.c < 10 ^ 20) : befR a b = decide (kkR a < kkR b) := by
  unfold befR itLt kkR
  rw [Bool.eq_iff_iff]
  simp only [Bool.or_eq_true, Bool.and_eq_true, decide_eq_true_eq, beq_iff_eq]
  omega

theorem pysort_call (B : Below A₀ base outer h₀) (F : Fr h₀ L s.heap m) (X : (hd.heap_39 w.params).In h₀) (N : News h₀ L s.heap news)
    (T : Top hd.view_39 (looseW hd.view_39 [Str.ofString "SuggestItem"]) mean mg mb h₀)
    (hk : cs.kind = .function) (hdp : dp + 30 < recursionLimit) (hun : un + 240 < cLine)
    {ia : Addr} {vs : List Value} {n : Nat} {ρ : Value → Row} (hl : (ia, listOf vs.toArray n) ∈ news) (h2 : 2 ≤ vs.length) (hn : vs.length < 64) (hr : ∀ v ∈ vs, ItV w news v (ρ v)) (hc : ∀ v ∈ vs, 0 ≤ (ρ v).c ∧ (ρ v).c < 10 ^ 20)
    (hret : ∀ q k h' tk', Fr h₀ L h' m → News h₀ L h' ((q, listOf (lawSort (fun a b => befR (ρ a) (ρ b)) vs).toArray k) :: news) → (∀ p ∈ news, p.1 < q) → Q (.ref q) { s with heap := h', toks := tk' }) :
    wpAny (model Challenge.rw_fe0310_01.row.prog w) (ktrTop dp un gd cn cs L a ccd cl outer) (call (.builtin "sorted") [.ref ia]) Q E s := by
  revert X
  k_fill
  intro X
  refine kas_sorted (T := .ref 113) F N (News.isList N hl) h2 hn (fun h' F' N' v hv => ?_) (by rfl) fun D e1 h' F' N' hlt => ?_
  · obtain ⟨q, rfl, dq, k1, k2, k3, x, y, z, hq1, hq2⟩ := hr v hv
    exact InstAt.type (by k_inst)
  refine KOut.wp (n := vs.length) (key := fun i => kkR (ρ (vs.getD i .none))) (G := fun s' => ∃ h' tk', s' = { s with heap := h', toks := tk' } ∧ Fr h₀ L h' m ∧ News h₀ L h' ((D, seqObj "list" #[] e1) :: news)) ?_ ?_ _ _ (out_sort h2) ⟨h', s.toks, rfl, F', N'⟩
  · rintro i j C s' hi hj ⟨h6, tk6, rfl, F6, N6⟩ hC
    have hvi : vs.getD i .none ∈ vs := (by simp [hi] : vs.getD i .none = vs[i]) ▸ List.getElem_mem hi
    have hvj : vs.getD j .none ∈ vs := (by simp [hj] : vs.getD j .none = vs[j]) ▸ List.getElem_mem hj
    unfold kas_ask
    have hb := befR_kk (hc _ hvi) (hc _ hvj)
    obtain ⟨qi, ei, hqi⟩ := hr _ hvi
    obtain ⟨qj, ej, hqj⟩ := hr _ hvj
    rw [ei, ej]
    have hqi' := hqi.sub fun p hp => List.mem_cons_of_mem (D, seqObj "list" #[] e1) hp
    have hqj' := hqj.sub fun p hp => List.mem_cons_of_mem (D, seqObj "list" #[] e1) hp
    have hqi2 := hqi'
    have hqj2 := hqj'
    obtain ⟨dq, k1, k2, k3, x, y, z, hq1, hq2⟩ := hqi2
    obtain ⟨dr, r1, r2, r3, x', y', z', hr1, hr2⟩ := hqj2
    refine' kas_lt_inst (f := 42) ?k1 ?k2 ?k3 ?k4 ?k5 ?k6 ?_
    case k1 => show un + 2 < cLine; omega
    case k2 => exact F6
    case k3 => exact X
    case k4 => k_inst
    case k5 => k_is
    case k6 => k_is
    show wpAny _ (ktrTop dp (un + 2) gd cn cs L a ccd cl outer) _ _ _ _
    refine lt_call (s := { s with heap := h6, toks := tk6 }) (dp := dp) (un := un + 2) B F6 X N6 T hk (by omega) (by omega) hqi' hqj' fun h7 tk7 F7 N7 => ?_
    have fin := hC _ ⟨h7, tk7, rfl, F7, N7⟩
    rw [← hb] at fin
    exact fin
  · rintro p s' ⟨hp, hs⟩ ⟨h6, tk6, rfl, F6, N6⟩
    have e := sort_law vs .none (fun a b => befR (ρ a) (ρ b)) (fun v => kkR (ρ v)) (fun a ha b hb => befR_kk (hc a ha) (hc b hb)) hp hs
    refine KasFin.intro F6 N6 (UpdF.head fun p hp => ?_) fun h7 c F7 N7 => ?_
    · exact Nat.ne_of_lt (hlt p hp)
    · rw [e] at N7
      exact hret _ _ _ _ F7 N7 hlt
end
end

section
section
variable {w : World} {mean : ExcName → Option Value} {mg mb : Str → Option Value} {dp un : Nat} {gd : Option (List Code)} {a : Addr} {ccd : Value}
  {A₀ : Around} {base h₀ : Heap} {L : Addr} {m : Str → Option Value} {news : List (Addr × Obj)} {s : Shared} {Q : Flow → Shared → Prop} {E : Value → Shared → Prop}
local macro_rules | `(tactic| k_mem) => `(tactic| first | (with_reducible assumption) | exact List.mem_cons_self | (refine List.mem_cons_of_mem _ ?_; k_mem))
local macro_rules | `(tactic| k_all) => `(tactic| with_reducible assumption)
def lawPair : List Stmt × Scope := match Challenge.pw_fe0310_01.main.body.getLast? with
  | some (.FunctionDef _ _ b _ _ _ sc _ _ _) => (b, sc)
  | _ => ([], { kind := .function, names := [], isGenerator := false, isCoroutine := false })
abbrev lawBody : List Stmt := lawPair.1
abbrev lawScope : Scope := lawPair.2
abbrev lawEnv (L a : Addr) (ccd : Value) : Env := envOfC (Str.ofString "law") lawScope L a ccd
abbrev lawA (dp un : Nat) (gd : Option (List Code)) (L a : Addr) (ccd : Value) : Around := ktrTop dp un gd (Str.ofString "law") lawScope L a ccd (cellsFrom (L + 1) lawScope.names []) []
local macro_rules | `(tactic| walk_at "exec Assign cons ListComp") => `(tactic| (refine Stop.out ?_))
local macro_rules | `(tactic| walk_at "eval ListComp") => `(tactic| (refine Stop.out ?_))

structure CellsIn (news : List (Addr × Obj)) (L da : Addr) (ws : List Value) (kd : Nat) : Prop where
  s : (da, listOf ws.toArray kd) ∈ news
  c1 : ∃ o, (L + 1, o) ∈ news ∧ o.data = .cell (some (.ref da))
  c2 : ∃ o v, (L + 1 + 1, o) ∈ news ∧ o.data = .cell v
  c3 : ∃ o v, (L + 1 + 1 + 1, o) ∈ news ∧ o.data = .cell v
theorem CellsIn.sub {news news' : List (Addr × Obj)} {L da : Addr} {ws : List Value} {kd : Nat} (h : CellsIn news L da ws kd) (hs : ∀ p ∈ news, p ∈ news') : CellsIn news' L da ws kd :=
  ⟨hs _ h.s, let ⟨o, a, b⟩ := h.c1; ⟨o, hs _ a, b⟩, let ⟨o, v, a, b⟩ := h.c2; ⟨o, v, hs _ a, b⟩, let ⟨o, v, a, b⟩ := h.c3; ⟨o, v, hs _ a, b⟩⟩
def rowAt (ns : List Int) (i : Nat) : Row := ⟨rowT ns (1 + 3 * (i : Int)), rowD ns (1 + 3 * (i : Int)), rowC ns (1 + 3 * (i : Int))⟩
def rowsN (ns : List Int) : Nat := (2 + (numAt ns 0).fmod 5).toNat
def rows0 (ns : List Int) : List Row := (List.range (rowsN ns)).map (rowAt ns)
theorem rowsN_bounds (ns : List Int) : 2 ≤ rowsN ns ∧ rowsN ns ≤ 6 := by
  have h1 := Int.fmod_nonneg_of_pos (numAt ns 0) (b := 5) (by decide)
  have h2 := Int.fmod_lt_of_pos (numAt ns 0) (b := 5) (by decide)
  unfold rowsN; omega
local macro_rules | `(tactic| walk_at "call ref") => `(tactic| (k_here; (with_reducible show wpAny _ _ (call (Value.ref 124) [Value.ref _, Value.int _ _]) _ _ _); k_dflt (refine' num_call ?k1 ?k2 ?k3 ?k4 ?k5 ?k6 ?k7 ?k8 ?k9 ?k10 ?k11 ?k12 ?k13 ?_; (case k1 => k_asm); (case k2 => k_asm); (case k3 => k_asm); (case k4 => k_asm); (case k5 => k_asm); (case k6 => first | exact rfl | assumption); (case k7 => ktr_room); (case k8 => ktr_units); (case k9 => k_mem); (case k10 => assumption); (case k11 => (try simp only [List.length_take]); omega); (case k12 => omega); (case k13 => omega); k_whole); intro t9 h9 tk9 F9 N9; (try dsimp only); (try k_fold)))
theorem rowsN_eq (ns : List Int) : 2 + (numAt ns 0).fmod 5 = ((rowsN ns : Nat) : Int) := by
  have h1 := Int.fmod_nonneg_of_pos (numAt ns 0) (b := 5) (by decide)
  unfold rowsN; omega
theorem range_ok {n : Nat} (h : n ≤ 6) : Builtin.Range.small 0 (n : Int) 1 = true ∧ Builtin.Range.rangeSize 0 (n : Int) 1 = ((n : Nat) : Int) := by
  have : n = 0 ∨ n = 1 ∨ n = 2 ∨ n = 3 ∨ n = 4 ∨ n = 5 ∨ n = 6 := by omega
  rcases this with rfl | rfl | rfl | rfl | rfl | rfl | rfl <;> decide
def upρ (ρ : Value → Row) (u : Value) (r : Row) : Value → Row := fun v => if v = u then r else ρ v
theorem upρ_self (ρ : Value → Row) (u : Value) (r : Row) : upρ ρ u r u = r := if_pos rfl
theorem upρ_ne {ρ : Value → Row} {u v : Value} {r : Row} (h : v ≠ u) : upρ ρ u r v = ρ v := if_neg h
theorem upρ_map {ρ : Value → Row} {u : Value} {r : Row} {ys : List Value} (h : u ∉ ys) : ys.map (upρ ρ u r) = ys.map ρ := List.map_congr_left fun v hv => upρ_ne fun e => h (e ▸ hv)
theorem stA (B : Below A₀ base [] h₀) (F : Fr h₀ L s.heap m) (X : (hd.heap_39 w.params).In h₀)
    (T : Top hd.view_39 (looseW hd.view_39 [Str.ofString "SuggestItem"]) mean mg mb h₀)
    (hdp : dp + 100 < recursionLimit) (hun : un + 1000 < cLine)
    {o1 o2 o3 : Obj} {sa : Addr} {vs : List Value} {ns : List Int} (N : News h₀ L s.heap [(L + 1 + 1 + 1, o3), (L + 1 + 1, o2), (L + 1, o1)]) {v2 v3 : Option Value} (c1 : o1.data = .cell (some (.ref sa))) (c2 : o2.data = .cell v2) (c3 : o3.data = .cell v3)
    (hl : h₀.IsList sa vs.toArray) (hi : IntsAre vs ns) (hn : ns.length ≤ 63)
    (hnext : ∀ (m' : Str → Option Value) (news' : List (Addr × Obj)) (ra : Addr) (vsR : List Value) (kr : Nat) (ρ : Value → Row) (da : Addr) (ws : List Value) (h' : Heap) (tk' : Nat), Fr h₀ L h' m' → News h₀ L h' news' → m' (Str.ofString "rows") = some (.ref ra) → (ra, listOf vsR.toArray kr) ∈ news' → (∀ v ∈ vsR, TpV news' v (ρ v)) → vsR.map ρ = rows0 (ns.take 24) → CellsIn news' L da ws 0 → IntsAre ws (ns.take 24) → da ≠ ra →
      wpAny (model Challenge.rw_fe0310_01.row.prog w) (lawA dp un gd L a ccd) (execs (lawBody.drop 2) (lawEnv L a ccd)) Q E { s with heap := h', toks := tk' }) :
    wpAny (model Challenge.rw_fe0310_01.row.prog w) (lawA dp un gd L a ccd) (execs lawBody (lawEnv L a ccd)) Q E s := by
  revert X
  k_fill
  intro X
  show wpAny _ _ (execs (_ :: _) _) _ _ _
  k_steps
  refine Stop.mk ?_
  rename IntsAre _ (List.take 24 ns) => hI
  rename News _ _ _ _ => N1
  rename Fr _ _ _ _ => F1
  rename Obj => os
  rename os.data = _ => ds
  rename_i da ws _ _ _ _ _
  have hlt : (ns.take 24).length ≤ 24 := by rw [List.length_take]; omega
  generalize ns.take 24 = ms at *
  have hb := rowsN_bounds ms
  refine comp_range_to (n := rowsN ms) (a := 0) (b := 2 + (numAt ms 0).fmod 5) (news := [(da, listOf ws.toArray 0), (L + 1 + 1 + 1, o3), (L + 1 + 1, o2), (L + 1, os)])
    (fun i ys news' => ∃ ρ : Value → Row, (∀ v ∈ ys, TpV news' v (ρ v)) ∧ ys.map ρ = (List.range i).map (rowAt ms) ∧ (∀ p ∈ [(da, listOf ws.toArray 0), (L + 1 + 1 + 1, o3), (L + 1 + 1, o2), (L + 1, os)], p ∈ news'))
    F1 rfl (by rfl) (by with_unfolding_all rfl) (by decide) rfl (by decide) rfl rfl rfl rfl ?hiter ?hsm ?hn ?hsz ⟨fun _ => ⟨Str.empty, 0, 0⟩, by simp, rfl, fun _ h => h⟩ ?hstep ?hret
  case hiter =>
    k_steps
    · assumption
    · assumption
  case hsm => rw [rowsN_eq]; exact (range_ok hb.2).1
  case hn => rw [rowsN_eq]; exact (range_ok hb.2).2
  case hsz => rw [sizeLine_eq]; omega
  case hstep =>
    intro h' tk' i v ys news' full C oC m₂ h tk Q' E' hP hi' hC hx F2 N2 hCin hsub hJ hret
    obtain ⟨ρ, hρ1, hρ2, hρ3⟩ := hJ
    obtain ⟨t, rfl⟩ := hP
    rw [Int.zero_add] at hx
    have hda := hsub _ (hρ3 _ (.head _))
    have hos := hsub _ (hρ3 _ (.tail _ (.tail _ (.tail _ (.head _)))))
    k_steps
    refine row_call (outer := []) (s := { s with heap := h, toks := _ }) B F2 X N2 T rfl (by omega) (by omega) hda hI (by omega) (by omega) (by omega) fun q x y z h3 tk3 F3 N3 l3 => ?_
    refine hret (.ref q) [(q, tupObj (rowT ms (1 + 3 * (i : Int))) x (rowD ms (1 + 3 * (i : Int))) y (rowC ms (1 + 3 * (i : Int))) z)] _ _ F3 N3 (fun p hp r hr => by rw [List.mem_singleton.mp hp]; exact l3 r hr) ?_
    have hnot : (Value.ref q) ∉ ys := fun hm => by
      obtain ⟨q', e, x', y', z', hm'⟩ := hρ1 _ hm
      rw [← Value.ref.inj e] at hm'
      exact absurd (l3 _ (hsub _ hm')) (Nat.lt_irrefl _)
    refine ⟨upρ ρ (.ref q) (rowAt ms i), fun u hu => ?_, ?_, fun p hp => List.mem_append_right _ (hρ3 p hp)⟩
    · rcases List.mem_append.mp hu with hu | hu
      · have hne : u ≠ .ref q := fun e => hnot (e ▸ hu)
        rw [upρ_ne hne]
        exact (hρ1 u hu).sub fun p hp => List.mem_append_right _ hp
      · rw [List.mem_singleton.mp hu, upρ_self]
        exact ⟨q, rfl, x, y, z, List.mem_append_left _ (.head _)⟩
    · rw [List.map_append, upρ_map hnot, hρ2, List.range_succ, List.map_append, List.map_singleton, List.map_singleton, upρ_self]
  case hret =>
    intro ys news' D h' tk' F2 N2 hlen hJ hsub hD
    obtain ⟨ρ, hρ1, hρ2, hρ3⟩ := hJ
    have up : ∀ p ∈ [(da, listOf ws.toArray 0), (L + 1 + 1 + 1, o3), (L + 1 + 1, o2), (L + 1, os)], p ∈ (D, LCg.lst ys) :: news' := fun p hp => .tail _ (hρ3 p hp)
    exact hnext _ _ D ys _ ρ da ws _ _ F2 N2 (if_pos rfl) (.head _) (fun v hv => (hρ1 v hv).sub fun p hp => .tail _ hp) hρ2 ⟨up _ (.head _), ⟨os, up _ (.tail _ (.tail _ (.tail _ (.head _)))), ds⟩, ⟨o2, v2, up _ (.tail _ (.tail _ (.head _))), c2⟩, ⟨o3, v3, up _ (.tail _ (.head _)), c3⟩⟩ hI (hD _ (hρ3 _ (.head _)))
end
end

section
section
variable {w : World} {mean : ExcName → Option Value} {mg mb : Str → Option Value} {dp un : Nat} {gd : Option (List Code)} {a : Addr} {ccd : Value}
  {A₀ : Around} {base h₀ : Heap} {L : Addr} {m : Str → Option Value} {news : List (Addr × Obj)} {s : Shared} {Q : Flow → Shared → Prop} {E : Value → Shared → Prop}
local macro_rules | `(tactic| k_mem) => `(tactic| first | (with_reducible assumption) | exact List.mem_cons_self | (refine List.mem_cons_of_mem _ ?_; k_mem))
local macro_rules | `(tactic| k_all) => `(tactic| with_reducible assumption)
local macro_rules | `(tactic| walk_at "exec Assign cons ListComp") => `(tactic| (refine Stop.out ?_))
local macro_rules | `(tactic| walk_at "eval ListComp") => `(tactic| (refine Stop.out ?_))
local macro_rules | `(tactic| walk_at "exec For") => `(tactic| (refine Stop.out ?_))
local macro_rules | `(tactic| walk_at "eval Name") => `(tactic| (k_here; k_dflt (refine' nameX_L ?F ?v ?_ ?a ?b; (case F => k_asm); (case a => rfl); (case b => rfl); (case v => assumption); k_whole)))
def ItD (w : World) (news : List (Addr × Obj)) (v : Value) (dq : Addr) (r : Row) : Prop := ∃ q k1 k2 k3 x y z, v = .ref q ∧ (q, instObj 113 dq) ∈ news ∧ (dq, itDict w k1 k2 k3 r.t x r.d y r.c z) ∈ news
theorem ItD.sub {news news' : List (Addr × Obj)} {v : Value} {dq : Addr} {r : Row} (h : ItD w news v dq r) (hs : ∀ p ∈ news, p ∈ news') : ItD w news' v dq r :=
  let ⟨q, k1, k2, k3, x, y, z, e, h1, h2⟩ := h; ⟨q, k1, k2, k3, x, y, z, e, hs _ h1, hs _ h2⟩
theorem ItD.it {news : List (Addr × Obj)} {v : Value} {dq : Addr} {r : Row} (h : ItD w news v dq r) : ItV w news v r :=
  let ⟨q, k1, k2, k3, x, y, z, e, h1, h2⟩ := h; ⟨q, e, dq, k1, k2, k3, x, y, z, h1, h2⟩
def upδ (δ : Value → Addr) (u : Value) (r : Addr) : Value → Addr := fun v => if v = u then r else δ v
theorem upδ_self (δ : Value → Addr) (u : Value) (r : Addr) : upδ δ u r u = r := if_pos rfl
theorem upδ_ne {δ : Value → Addr} {u v : Value} {r : Addr} (h : v ≠ u) : upδ δ u r v = δ v := if_neg h
/-- the items and the rows, as the ledger holds them -/
structure LawSt (w : World) (m : Str → Option Value) (news : List (Addr × Obj)) (ra ia : Addr) (vsR vsI : List Value) (kr ki : Nat) (ρR ρI : Value → Row) (δ : Value → Addr) (rs : List Row) : Prop where
  mR : m (Str.ofString "rows") = some (.ref ra)
  mI : m (Str.ofString "items") = some (.ref ia)
  lR : (ra, listOf vsR.toArray kr) ∈ news
  lI : (ia, listOf vsI.toArray ki) ∈ news
  tR : ∀ v ∈ vsR, TpV news v (ρR v)
  tI : ∀ v ∈ vsI, ItD w news v (δ v) (ρI v)
  eR : vsR.map ρR = rs
  eI : vsI.map ρI = rs
  inj : ∀ u ∈ vsI, ∀ v ∈ vsI, δ u = δ v → u = v
  nd : vsI.Nodup
  ne : ra ≠ ia

theorem stB (B : Below A₀ base [] h₀) (F : Fr h₀ L s.heap m) (X : (hd.heap_39 w.params).In h₀) (N : News h₀ L s.heap news)
    (T : Top hd.view_39 (looseW hd.view_39 [Str.ofString "SuggestItem"]) mean mg mb h₀)
    (hdp : dp + 100 < recursionLimit) (hun : un + 1000 < cLine)
    {ra da : Addr} {vsR ws : List Value} {kr : Nat} {ρR : Value → Row} {rs : List Row} (hm : m (Str.ofString "rows") = some (.ref ra)) (hl : (ra, listOf vsR.toArray kr) ∈ news) (hr : ∀ v ∈ vsR, TpV news v (ρR v)) (he : vsR.map ρR = rs) (hn : rs.length ≤ 6)
    (hnext : ∀ (m' : Str → Option Value) (news' : List (Addr × Obj)) (ia : Addr) (vsI : List Value) (ki : Nat) (ρI : Value → Row) (δ : Value → Addr) (h' : Heap) (tk' : Nat), Fr h₀ L h' m' → News h₀ L h' news' → LawSt w m' news' ra ia vsR vsI kr ki ρR ρI δ rs → (∀ p ∈ news, p ∈ news') →
      wpAny (model Challenge.rw_fe0310_01.row.prog w) (lawA dp un gd L a ccd) (execs (lawBody.drop 3) (lawEnv L a ccd)) Q E { s with heap := h', toks := tk' }) :
    wpAny (model Challenge.rw_fe0310_01.row.prog w) (lawA dp un gd L a ccd) (execs (lawBody.drop 2) (lawEnv L a ccd)) Q E s := by
  revert X
  k_fill
  intro X
  have hlen : vsR.length ≤ 6 := by rw [← List.length_map (f := ρR), he]; exact hn
  show wpAny _ _ (execs (_ :: _) _) _ _ _
  k_steps
  refine Stop.mk ?_
  refine comp_list_to (news := news) (ax := ra) (xs := vsR) (k := kr)
    (fun i ys news' => ∃ (ρ : Value → Row) (δ : Value → Addr), (∀ v ∈ ys, ItD w news' v (δ v) (ρ v)) ∧ ys.map ρ = (vsR.take i).map ρR ∧ (∀ u ∈ ys, ∀ v ∈ ys, δ u = δ v → u = v) ∧ ys.Nodup ∧ (∀ p ∈ news, p ∈ news'))
    F rfl (by rfl) (by with_unfolding_all rfl) (by decide) rfl (by decide) rfl rfl rfl rfl ?hiter hl (by rw [sizeLine_eq]; omega) ⟨fun _ => ⟨Str.empty, 0, 0⟩, fun _ => 0, by simp, rfl, by simp, List.nodup_nil, fun _ h => h⟩ ?hstep ?hret
  case hiter =>
    k_steps
    · assumption
    · assumption
  case hstep =>
    intro h' tk' i v ys news' full C oC m₂ h tk Q' E' hP hi' hC hx F2 N2 hCin hsub hJ hret
    obtain ⟨ρ, δ, hρ1, hρ2, hρ3, hρ4, hρ5⟩ := hJ
    obtain ⟨q, rfl, x, y, z, hq⟩ := hr v (List.mem_of_getElem? hP)
    have hq' := hsub _ (hρ5 _ hq)
    k_steps
    refine make_call (outer := []) (s := { s with heap := h, toks := _ }) B F2 X N2 T rfl (by omega) (by omega) fun p dp' k1 k2 k3 h3 tk3 F3 N3 l3 l4 => ?_
    refine hret (.ref p) [(p, instObj 113 dp'), (dp', itDict w k1 k2 k3 (ρR (.ref q)).t x (ρR (.ref q)).d y (ρR (.ref q)).c z)] _ _ F3 N3 (fun r hr u hu => ?_) ?_
    · rcases List.mem_cons.mp hr with rfl | hr
      · exact Nat.lt_trans (l3 u hu) l4
      · rw [List.mem_singleton.mp hr]; exact l3 u hu
    have hnot : (Value.ref p) ∉ ys := fun hm => by
      obtain ⟨q', _, _, _, _, _, _, e, hm', _⟩ := hρ1 _ hm
      rw [← Value.ref.inj e] at hm'
      exact absurd (Nat.lt_trans (l3 _ (hsub _ hm')) l4) (Nat.lt_irrefl _)
    have hδ : ∀ u ∈ ys, δ u ≠ dp' := fun u hu e => by
      obtain ⟨q', _, _, _, _, _, _, _, _, hm'⟩ := hρ1 _ hu
      rw [e] at hm'
      exact absurd (l3 _ (hsub _ hm')) (Nat.lt_irrefl _)
    have hne : ∀ u ∈ ys, u ≠ .ref p := fun u hu e => hnot (e ▸ hu)
    refine ⟨upρ ρ (.ref p) (ρR (.ref q)), upδ δ (.ref p) dp', fun u hu => ?_, ?_, fun u hu v hv e => ?_, ?_, fun p hp => List.mem_append_right _ (hρ5 p hp)⟩
    · rcases List.mem_append.mp hu with hu | hu
      · rw [upρ_ne (hne u hu), upδ_ne (hne u hu)]
        exact (hρ1 u hu).sub fun p hp => List.mem_append_right _ hp
      · rw [List.mem_singleton.mp hu, upρ_self, upδ_self]
        exact ⟨p, k1, k2, k3, x, y, z, rfl, List.mem_append_left _ (.head _), List.mem_append_left _ (.tail _ (.head _))⟩
    · rw [List.map_append, upρ_map hnot, hρ2, List.take_add_one, hP, List.map_append, List.map_singleton, upρ_self]; rfl
    · rcases List.mem_append.mp hu with hu | hu
      · rcases List.mem_append.mp hv with hv | hv
        · rw [upδ_ne (hne u hu), upδ_ne (hne v hv)] at e
          exact hρ3 u hu v hv e
        · rw [List.mem_singleton.mp hv, upδ_ne (hne u hu), upδ_self] at e
          exact absurd e (hδ u hu)
      · rcases List.mem_append.mp hv with hv | hv
        · rw [List.mem_singleton.mp hu, upδ_ne (hne v hv), upδ_self] at e
          exact absurd e.symm (hδ v hv)
        · rw [List.mem_singleton.mp hu, List.mem_singleton.mp hv]
    · refine List.nodup_append.mpr ⟨hρ4, List.nodup_cons.mpr ⟨by simp, List.nodup_nil⟩, fun u hu v hv e => ?_⟩
      rw [List.mem_singleton.mp hv] at e
      exact hnot (e ▸ hu)
  case hret =>
    intro ys news' D h' tk' F2 N2 hlen' hJ hsub hD
    obtain ⟨ρ, δ, hρ1, hρ2, hρ3, hρ4, hρ5⟩ := hJ
    rw [List.take_length, he] at hρ2
    have up : ∀ p ∈ news', p ∈ (D, LCg.lst ys) :: news' := fun p hp => .tail _ hp
    exact hnext _ _ D ys _ ρ δ _ _ F2 N2 ⟨hm, if_pos rfl, up _ (hρ5 _ hl), .head _, fun v hv => (hr v hv).sub fun p hp => up _ (hρ5 p hp), fun v hv => (hρ1 v hv).sub up, he, hρ2, hρ3, hρ4, hD _ (hρ5 _ hl)⟩ fun p hp => up _ (hρ5 p hp)
end
end

section
section
variable {w : World} {mean : ExcName → Option Value} {mg mb : Str → Option Value} {dp un : Nat} {gd : Option (List Code)} {a : Addr} {ccd : Value}
  {A₀ : Around} {base h₀ : Heap} {L : Addr} {m : Str → Option Value} {news : List (Addr × Obj)} {s : Shared} {Q : Flow → Shared → Prop} {E : Value → Shared → Prop}
local macro_rules | `(tactic| k_mem) => `(tactic| first | (with_reducible assumption) | exact List.mem_cons_self | (refine List.mem_cons_of_mem _ ?_; k_mem))
local macro_rules | `(tactic| k_all) => `(tactic| with_reducible assumption)
local macro_rules | `(tactic| walk_at "exec Assign cons ListComp") => `(tactic| (refine Stop.out ?_))
local macro_rules | `(tactic| walk_at "eval ListComp") => `(tactic| (refine Stop.out ?_))
local macro_rules | `(tactic| walk_at "exec For") => `(tactic| (refine Stop.out ?_))
local macro_rules | `(tactic| walk_at "exec For Name Call cons nil") => `(tactic| (refine Stop.out ?_))
local macro_rules | `(tactic| walk_at "eval Name") => `(tactic| (k_here; k_dflt (refine' nameX_L ?F ?v ?_ ?a ?b; (case F => k_asm); (case a => rfl); (case b => rfl); (case v => assumption); k_whole)))
local macro_rules | `(tactic| walk_at "call ref") => `(tactic| (k_here; (with_reducible show wpAny _ _ (call (Value.ref 124) [Value.ref _, Value.int _ _]) _ _ _); k_dflt (refine' num_call ?k1 ?k2 ?k3 ?k4 ?k5 ?k6 ?k7 ?k8 ?k9 ?k10 ?k11 ?k12 ?k13 ?_; (case k1 => k_asm); (case k2 => k_asm); (case k3 => k_asm); (case k4 => k_asm); (case k5 => k_asm); (case k6 => first | exact rfl | assumption); (case k7 => ktr_room); (case k8 => ktr_units); (case k9 => k_mem); (case k10 => assumption); (case k11 => (try simp only [List.length_take]); omega); (case k12 => omega); (case k13 => omega); k_whole); intro t9 h9 tk9 F9 N9; (try dsimp only); (try k_fold)))
local macro_rules | `(tactic| walk_at "call builtin:len") => `(tactic| (k_here; (with_reducible show wpAny _ _ (call (Value.builtin "len") [Value.ref _]) _ _ _); k_dflt (refine' kst_len ?k1 ?k2 ?k3 ?k4 ?_; (case k1 => k_asm); (case k2 => k_mem); (case k3 => exact rfl); (case k4 => omega); k_whole)))

section
variable {o o' : Obj} {D b : Addr} {h : Heap}
theorem ne_obj (N : News h₀ L h news) (h1 : (D, o) ∈ news) (h2 : (b, o') ∈ news) (hne : o ≠ o') : D ≠ b := fun e => by
  have a := (N _ h1).1
  have c := (N _ h2).1
  dsimp only at a c
  rw [e, c] at a
  exact hne (Option.some.inj a).symm
theorem cls_ne {a b : String} (h1 : o.cls = .type a) (h2 : o'.cls = .type b) (h : a ≠ b) : o ≠ o' := fun e => h (Value.type.inj (h1.symm.trans ((congrArg Obj.cls e).trans h2)))
abbrev dropA (D : Addr) (news : List (Addr × Obj)) : List (Addr × Obj) := news.filter fun p => decide (p.1 ≠ D)
theorem dropA_mem {p : Addr × Obj} (hp : p ∈ news) (hne : p.1 ≠ D) : p ∈ dropA D news := List.mem_filter.mpr ⟨hp, decide_eq_true hne⟩
theorem dropA_ne {p : Addr × Obj} (hp : p ∈ dropA D news) : p.1 ≠ D := of_decide_eq_true (List.mem_filter.mp hp).2
theorem dropA_sub {p : Addr × Obj} (hp : p ∈ dropA D news) : p ∈ news := (List.mem_filter.mp hp).1
theorem dropA_news (N : News h₀ L h news) (hm : (D, o) ∈ news) : News h₀ L h ((D, o) :: dropA D news) := fun p hp => by
  rcases List.mem_cons.mp hp with rfl | hp
  · exact N _ hm
  · exact N _ (dropA_sub hp)
end
theorem set_ref {A : Around} {prog : Program} {D : Addr} {vs : List Value} {n : Nat} {k : Int} {t : Tok} {v : Value} {Qu : Unit → Shared → Prop} (F : Fr h₀ L s.heap m) (N : News h₀ L s.heap news) (hm : (D, listOf vs.toArray n) ∈ news) (h0 : 0 ≤ k) (h1 : k < vs.length) (hz : vs.length < 1000)
    (h : ∀ h', Fr h₀ L h' m → News h₀ L h' ((D, listOf (vs.set k.toNat v).toArray n) :: dropA D news) → Qu () { s with heap := h' }) : wpAny (model prog w) A (setItem (.ref D) (.int k t) v) Qu E s := by
  have N' := dropA_news N hm
  have z := N _ hm
  refine ki_setAt z.1 h0 (by omega) (by rw [List.size_toArray]; exact h1) (h _ (F.change (Heap.SameBut.update ..) z.2.1 z.2.2) (ki_turn (pre := []) _ N' (by simp) (fun p hp => dropA_ne hp) ?_ ?_))
  · show vs.toArray.setIfInBounds k.toNat v = (vs.set k.toNat v).toArray
    apply Array.toList_inj.mp
    simp
  · simp
theorem LawSt.step {m₂ : Str → Option Value} {h : Heap} {news₂ : List (Addr × Obj)} {ra ia T : Addr} {u : Value} {vsR vsI : List Value} {kr ki k : Nat} {ρR ρI : Value → Row} {δ : Value → Addr} {rs : List Row} {r : Row} {k1 k2 k3 xi yi zi x y z : Tok}
    (S : LawSt w m news ra ia vsR vsI kr ki ρR ρI δ rs) (N : News h₀ L h news) (mR : m₂ (Str.ofString "rows") = some (.ref ra)) (mI : m₂ (Str.ofString "items") = some (.ref ia))
    (hk : k < rs.length) (hu : vsI[k]? = some u) (hT : (T, tupObj r.t x r.d y r.c z) ∈ news₂) (hD : (δ u, itDict w k1 k2 k3 r.t xi r.d yi r.c zi) ∈ news₂) (hR : (ra, listOf (vsR.set k (.ref T)).toArray kr) ∈ news₂)
    (hkeep : ∀ p ∈ news, p.1 ≠ ra → p.1 ≠ δ u → p ∈ news₂) (hfresh : ∀ p ∈ news, p.1 ≠ T) :
    LawSt w m₂ news₂ ra ia (vsR.set k (.ref T)) vsI kr ki (upρ ρR (.ref T) r) (upρ ρI u r) δ (rs.set k r) := by
  have hum : u ∈ vsI := List.mem_of_getElem? hu
  obtain ⟨qu, _, _, _, _, _, _, eu, hqu1, hqu2⟩ := S.tI u hum
  have hTn : (Value.ref T) ∉ vsR := fun hm => by
    obtain ⟨q, e, _, _, _, hq⟩ := S.tR _ hm
    rw [← Value.ref.inj e] at hq
    exact hfresh _ hq rfl
  have hTn' : ∀ v ∈ vsR, v ≠ .ref T := fun v hv e => hTn (e ▸ hv)
  refine ⟨mR, mI, hR, hkeep _ S.lI (Ne.symm S.ne) (ne_obj N S.lI hqu2 (cls_ne rfl rfl (by decide))), fun v hv => ?_, fun v hv => ?_, ?_, ?_, S.inj, S.nd, S.ne⟩
  · rcases List.mem_or_eq_of_mem_set hv with hv | rfl
    · rw [upρ_ne (hTn' v hv)]
      obtain ⟨q, e, x, y, z, hq⟩ := S.tR v hv
      exact ⟨q, e, x, y, z, hkeep _ hq (ne_obj N hq S.lR (cls_ne rfl rfl (by decide))) (ne_obj N hq hqu2 (cls_ne rfl rfl (by decide)))⟩
    · rw [upρ_self]
      exact ⟨T, rfl, x, y, z, hT⟩
  · by_cases hvu : v = u
    · subst hvu
      rw [upρ_self]
      exact ⟨qu, k1, k2, k3, xi, yi, zi, eu, hkeep _ hqu1 (ne_obj N hqu1 S.lR fun e => by cases e) (ne_obj N hqu1 hqu2 fun e => by cases e), hD⟩
    · rw [upρ_ne hvu]
      obtain ⟨q, a1, a2, a3, x, y, z, e, hq1, hq2⟩ := S.tI v hv
      exact ⟨q, a1, a2, a3, x, y, z, e, hkeep _ hq1 (ne_obj N hq1 S.lR fun e => by cases e) (ne_obj N hq1 hqu2 fun e => by cases e), hkeep _ hq2 (ne_obj N hq2 S.lR (cls_ne rfl rfl (by decide))) fun e => hvu (S.inj v hv u hum e)⟩
  · rw [List.map_set, upρ_self, upρ_map hTn, S.eR]
  · rw [← S.eI]
    apply List.ext_getElem (by simp)
    intro j h1 h2
    have hj : j < vsI.length := by simpa using h1
    have hkI : k < vsI.length := (List.getElem?_eq_some_iff.mp hu).1
    have hke : vsI[k] = u := (List.getElem?_eq_some_iff.mp hu).2
    rw [List.getElem_map, List.getElem_set]
    by_cases e : k = j
    · subst e
      rw [if_pos rfl, hke, upρ_self]
    · rw [if_neg e, List.getElem_map, upρ_ne]
      intro e2
      have pw := List.pairwise_iff_getElem.mp S.nd
      rcases Nat.lt_or_gt_of_ne e with hlt | hlt
      · exact pw k j hkI hj hlt (hke.trans e2.symm)
      · exact pw j k hj hkI hlt (e2.trans hke.symm)
theorem CellsIn.step {news₂ : List (Addr × Obj)} {ra dq da : Addr} {ws vsR : List Value} {kd kr : Nat} {h : Heap} {k1 k2 k3 xi yi zi : Tok} {r : Row} (C : CellsIn news L da ws kd) (N : News h₀ L h news) (hR : (ra, listOf vsR.toArray kr) ∈ news) (hD : (dq, itDict w k1 k2 k3 r.t xi r.d yi r.c zi) ∈ news) (hda : da ≠ ra)
    (hkeep : ∀ p ∈ news, p.1 ≠ ra → p.1 ≠ dq → p ∈ news₂) : CellsIn news₂ L da ws kd := by
  have cell : ∀ {a : Addr} {o : Obj} {v : Option Value}, (a, o) ∈ news → o.data = .cell v → (a, o) ∈ news₂ := fun {a o v} hm hd =>
    hkeep _ hm (ne_obj N hm hR fun e => by rw [e] at hd; cases hd) (ne_obj N hm hD fun e => by rw [e] at hd; cases hd)
  obtain ⟨o1, a1, b1⟩ := C.c1
  obtain ⟨o2, v2, a2, b2⟩ := C.c2
  obtain ⟨o3, v3, a3, b3⟩ := C.c3
  exact ⟨hkeep _ C.s hda (ne_obj N C.s hD (cls_ne rfl rfl (by decide))), ⟨o1, cell a1 b1, b1⟩, ⟨o2, v2, cell a2 b2, b2⟩, ⟨o3, v3, cell a3 b3, b3⟩⟩
theorem step_fin {m₂ : Str → Option Value} {h : Heap} {I ra ia T da : Addr} {it : Obj} {u : Value} {vsR vsI ws : List Value} {kr ki kd k : Nat} {ρR ρI : Value → Row} {δ : Value → Addr} {rs : List Row} {r : Row} {k1 k2 k3 xi yi zi x y z : Tok}
    (S : LawSt w m news ra ia vsR vsI kr ki ρR ρI δ rs) (C : CellsIn news L da ws kd) (N : News h₀ L h news) (hI : ∀ p ∈ news, p.1 ≠ I) (mR : m₂ (Str.ofString "rows") = some (.ref ra)) (mI : m₂ (Str.ofString "items") = some (.ref ia)) (hda : da ≠ ra)
    (hk : k < rs.length) (hu : vsI[k]? = some u) (hlt : ∀ p ∈ (δ u, itDict w k1 k2 k3 r.t xi r.d yi r.c zi) :: dropA (δ u) ((I, it) :: news), p.1 < T)
    {L8 : List (Addr × Obj)} (h8 : L8 = (ra, listOf (vsR.set k (.ref T)).toArray kr) :: dropA ra ((T, tupObj r.t x r.d y r.c z) :: (δ u, itDict w k1 k2 k3 r.t xi r.d yi r.c zi) :: dropA (δ u) ((I, it) :: news))) :
    (I, it) ∈ L8 ∧ LawSt w m₂ (dropA I L8) ra ia (vsR.set k (.ref T)) vsI kr ki (upρ ρR (.ref T) r) (upρ ρI u r) δ (rs.set k r) ∧ CellsIn (dropA I L8) L da ws kd := by
  subst h8
  have hum : u ∈ vsI := List.mem_of_getElem? hu
  obtain ⟨qu, _, _, _, _, _, _, eu, hqu1, hqu2⟩ := S.tI u hum
  have hIra : I ≠ ra := Ne.symm (hI _ S.lR)
  have hIδ : I ≠ δ u := Ne.symm (hI _ hqu2)
  have hfresh : ∀ p ∈ (I, it) :: news, p.1 ≠ T := fun p hp => by
    by_cases e : p.1 = δ u
    · rw [e]; exact Nat.ne_of_lt (hlt _ (.head _))
    · exact Nat.ne_of_lt (hlt p (.tail _ (dropA_mem hp e)))
  have hTI : T ≠ I := Ne.symm (hfresh _ (.head _))
  have hTra : T ≠ ra := Ne.symm (hfresh _ (.tail _ S.lR))
  have hδra : δ u ≠ ra := ne_obj N hqu2 S.lR (cls_ne rfl rfl (by decide))
  have hkeep : ∀ p ∈ news, p.1 ≠ ra → p.1 ≠ δ u → p ∈ dropA I ((ra, listOf (vsR.set k (.ref T)).toArray kr) :: dropA ra ((T, tupObj r.t x r.d y r.c z) :: (δ u, itDict w k1 k2 k3 r.t xi r.d yi r.c zi) :: dropA (δ u) ((I, it) :: news))) := fun p hp h1 h2 =>
    dropA_mem (.tail _ (dropA_mem (.tail _ (.tail _ (dropA_mem (.tail _ hp) h2))) h1)) (hI p hp)
  refine ⟨.tail _ (dropA_mem (.tail _ (.tail _ (dropA_mem (.head _) hIδ))) hIra), ?_, C.step N S.lR hqu2 hda hkeep⟩
  refine S.step N mR mI hk hu (k1 := k1) (k2 := k2) (k3 := k3) (xi := xi) (yi := yi) (zi := zi) (x := x) (y := y) (z := z) ?_ ?_ ?_ hkeep fun p hp => hfresh p (.tail _ hp)
  · exact dropA_mem (.tail _ (dropA_mem (.head _) hTra)) hTI
  · exact dropA_mem (.tail _ (dropA_mem (.tail _ (.head _)) hδra)) (Ne.symm hIδ)
  · exact dropA_mem (.head _) (Ne.symm hIra)
theorem step_fin2 {m₂ : Str → Option Value} {h h9 : Heap} {I ra ia T da : Addr} {it : Obj} {u : Value} {vsR vsI ws : List Value} {kr ki kd k : Nat} {ρR ρI : Value → Row} {δ : Value → Addr} {rs : List Row} {r : Row} {k1 k2 k3 xi yi zi x y z : Tok}
    (N9 : News h₀ L h9 ((ra, listOf (vsR.set k (.ref T)).toArray kr) :: dropA ra ((T, tupObj r.t x r.d y r.c z) :: (δ u, itDict w k1 k2 k3 r.t xi r.d yi r.c zi) :: dropA (δ u) ((I, it) :: news)))) (F9 : Fr h₀ L h9 m₂)
    (S : LawSt w m news ra ia vsR vsI kr ki ρR ρI δ rs) (C : CellsIn news L da ws kd) (N : News h₀ L h news) (hI : ∀ p ∈ news, p.1 ≠ I) (mR : m₂ (Str.ofString "rows") = some (.ref ra)) (mI : m₂ (Str.ofString "items") = some (.ref ia)) (hda : da ≠ ra)
    (hk : k < rs.length) (hu : vsI[k]? = some u) (hlt : δ u < T ∧ AllLt T (dropA (δ u) ((I, it) :: news))) :
    ∃ news₂, News h₀ L h9 ((I, it) :: news₂) ∧ (∀ p ∈ news₂, p.1 ≠ I) ∧ LawSt w m₂ news₂ ra ia (vsR.set k (.ref T)) vsI kr ki (upρ ρR (.ref T) r) (upρ ρI u r) δ (rs.set k r) ∧ CellsIn news₂ L da ws kd := by
  have fin := step_fin (r := r) (T := T) (x := x) (y := y) (z := z) (k1 := k1) (k2 := k2) (k3 := k3) (xi := xi) (yi := yi) (zi := zi) S C N hI mR mI hda hk hu (fun p hp => by
        rcases List.mem_cons.mp hp with rfl | hp
        · exact hlt.1
        · exact kst_ltOf hlt.2 p hp) rfl
  exact ⟨_, dropA_news N9 fin.1, fun p hp => dropA_ne hp, fin.2.1, fin.2.2⟩
local macro_rules | `(tactic| walk_at "binaryOp Add str str") => `(tactic| ((refine PyProof.SBL.add (hsz := ?hsz) ?_); (case hsz => ((have hx1 : (Str.ofString "x").length = 1 := by decide); rw [sizeLine_eq]; omega)); intro _ _))
local macro_rules | `(tactic| walk_at "subscriptTail Name Name ref int") => `(tactic| (k_here; (with_reducible show wpAny _ _ (subscriptTail _ _ (Value.ref _) (Value.int _ _)) _ _ _); k_dflt (refine' item_litK ?k1 ?k2 ?k3 ?k4 ?_ ?k6; (case k1 => exact News.isList (by k_asm) (by k_mem)); (case k2 => omega); (case k3 => omega); (case k4 => assumption); (case k6 => with_unfolding_all rfl); k_whole)))
local macro_rules | `(tactic| walk_at "setAttr ref") => `(tactic| (refine Stop.out ?_))
local macro_rules | `(tactic| walk_at "setItem ref int") => `(tactic| (refine Stop.out ?_))
theorem strOk_append {a b : Str} (ha : PyData.strOk a = true) (hb : PyData.strOk b = true) : PyData.strOk (a ++ b) = true := by
  unfold PyData.strOk at *
  rw [Str.cps_append, Array.all_append, ha, hb]; rfl
theorem strOk_ofString (x : String) : PyData.strOk (Str.ofString x) = true := by
  unfold PyData.strOk
  rw [Str.ofString_eq_toList]
  simp only [List.all_toArray, List.all_map, List.all_eq_true, Function.comp, decide_eq_true_eq]
  intro c _
  rcases c.valid with h | h
  · exact Nat.lt_trans h (by decide)
  · exact h.2
def BndN (i : Nat) (r : Row) : Prop := r.t.length ≤ 3 + i ∧ -1 ≤ r.d ∧ r.d ≤ 2 + i ∧ 0 ≤ r.c ∧ r.c < 10 ^ 20
def Bnd (i : Nat) (r : Row) : Prop := BndN i r ∧ PyData.strOk r.t = true
theorem Bnd.up {i j : Nat} {r : Row} (h : Bnd i r) (hij : i ≤ j) : Bnd j r := ⟨by have := h.1; unfold BndN at *; omega, h.2⟩

theorem stC (B : Below A₀ base [] h₀) (F : Fr h₀ L s.heap m) (X : (hd.heap_39 w.params).In h₀) (N : News h₀ L s.heap news)
    (T : Top hd.view_39 (looseW hd.view_39 [Str.ofString "SuggestItem"]) mean mg mb h₀)
    (hdp : dp + 100 < recursionLimit) (hun : un + 1000 < cLine)
    {ra ia da : Addr} {vsR vsI ws : List Value} {kr ki kd : Nat} {ρR ρI : Value → Row} {δ : Value → Addr} {rs : List Row} {ms : List Int} (S : LawSt w m news ra ia vsR vsI kr ki ρR ρI δ rs) (hn1 : 2 ≤ rs.length) (hn2 : rs.length ≤ 6) (hb : ∀ r ∈ rs, Bnd 0 r)
    (C : CellsIn news L da ws kd) (hda : da ≠ ra) (hI : IntsAre ws ms) (hms : ms.length ≤ 24) (hE : PassesOwn (model Challenge.rw_fe0310_01.row.prog w) (lawA dp un gd L a ccd) (lawEnv L a ccd) E)
    (hnext : ∀ (m' : Str → Option Value) (news' : List (Addr × Obj)) (vsR vsI : List Value) (kr ki : Nat) (ρR ρI : Value → Row) (δ : Value → Addr) (rs' : List Row) (h' : Heap) (tk' : Nat), Fr h₀ L h' m' → News h₀ L h' news' → LawSt w m' news' ra ia vsR vsI kr ki ρR ρI δ rs' → rs'.length = rs.length → (∀ r ∈ rs', Bnd 3 r) → CellsIn news' L da ws kd →
      wpAny (model Challenge.rw_fe0310_01.row.prog w) (lawA dp un gd L a ccd) (execs (lawBody.drop 4) (lawEnv L a ccd)) Q E { s with heap := h', toks := tk' }) :
    wpAny (model Challenge.rw_fe0310_01.row.prog w) (lawA dp un gd L a ccd) (execs (lawBody.drop 3) (lawEnv L a ccd)) Q E s := by
  revert X
  k_fill
  intro X
  show wpAny _ _ (execs (_ :: _) _) _ _ _
  k_steps
  refine Stop.mk ?_
  obtain ⟨⟨oc, hoc, hdc⟩, hC2⟩ : (∃ o, (L + 1, o) ∈ news ∧ o.data = .cell (some (.ref da))) ∧ (da, listOf ws.toArray kd) ∈ news := ⟨C.c1, C.s⟩
  have hf1 := Int.fmod_nonneg_of_pos (numAt ms 19) (b := 4) (by decide)
  have hf2 := Int.fmod_lt_of_pos (numAt ms 19) (b := 4) (by decide)
  obtain ⟨n, hn⟩ : ∃ n : Nat, (numAt ms 19).fmod 4 = (n : Int) := ⟨((numAt ms 19).fmod 4).toNat, by omega⟩
  have hn3 : n ≤ 3 := by omega
  refine for_range (h₀ := h₀) (m := m) (n := n) (news := news) (fun i m₁ news₁ => ∃ vsR vsI kr ki ρR ρI δ rs', LawSt w m₁ news₁ ra ia vsR vsI kr ki ρR ρI δ rs' ∧ rs'.length = rs.length ∧ (∀ r ∈ rs', Bnd i r) ∧ CellsIn news₁ L da ws kd)
    rfl rfl rfl ?hiter (range_ok (by omega)).1 (range_ok (by omega)).2 ⟨vsR, vsI, kr, ki, ρR, ρI, δ, rs, S, rfl, hb, C⟩ ?hstep ?hfin (hE := hE)
  case hiter =>
    rw [← hn]
    k_steps
    · assumption
    · assumption
  case hfin =>
    intro m' news' h' tk' hJ F' N'
    obtain ⟨vsR, vsI, kr, ki, ρR, ρI, δ, rs', S', hl', hb', C'⟩ := hJ
    exact hnext _ _ _ _ _ _ _ _ _ _ _ _ F' N' S' hl' (fun r hr => (hb' r hr).up hn3) C'
  case hstep =>
    intro I i t m₁ news₁ it h tk P hi hJ F1 N1 hneI hP hPr
    obtain ⟨vsR, vsI, kr, ki, ρR, ρI, δ, rs', S', hl', hb', C'⟩ := hJ
    obtain ⟨⟨oc1, hoc1, hdc1⟩, hC3⟩ : (∃ o, (L + 1, o) ∈ news₁ ∧ o.data = .cell (some (.ref da))) ∧ (da, listOf ws.toArray kd) ∈ news₁ := ⟨C'.c1, C'.s⟩
    have hmR := S'.mR
    have hmI := S'.mI
    have hlR := S'.lR
    have hlI := S'.lI
    have hlenR : vsR.length = rs.length := by rw [← hl', ← S'.eR, List.length_map]
    have hlenI : vsI.length = rs.length := by rw [← hl', ← S'.eI, List.length_map]
    replace F1 : Fr h₀ L h _ := F1
    replace N1 : News h₀ L h ((I, it) :: news₁) := N1
    clear F N hoc hdc hC2 hn S C
    have Nn : Stop (News h₀ L h news₁) := Stop.mk fun p hp => N1 p (.tail _ hp)
    k_steps
    have hk0 := Int.fmod_nonneg_of_pos (numAt ms (20 + ↑i)) (b := (vsR.length : Int)) (by omega)
    have hk1 := Int.fmod_lt_of_pos (numAt ms (20 + ↑i)) (b := (vsR.length : Int)) (by omega)
    rename News _ _ _ _ => N5
    replace N5 : News h₀ L _ ((I, it) :: news₁) := News.perm N5 fun p hp => List.mem_cons_of_mem _ hp
    generalize (numAt ms (20 + ↑i)).fmod (vsR.length : Int) = k at *
    obtain ⟨v, hv⟩ : ∃ v, vsR[k.toNat]? = some v := ⟨_, List.getElem?_eq_getElem (by omega)⟩
    obtain ⟨u, hu⟩ : ∃ u, vsI[k.toNat]? = some u := ⟨_, List.getElem?_eq_getElem (by omega)⟩
    have hvm := List.mem_of_getElem? hv
    have hum := List.mem_of_getElem? hu
    have eρ : ρI u = ρR v := by
      have e1 : (vsR.map ρR)[k.toNat]? = some (ρR v) := by rw [List.getElem?_map, hv]; rfl
      have e2 : (vsI.map ρI)[k.toNat]? = some (ρI u) := by rw [List.getElem?_map, hu]; rfl
      rw [S'.eR] at e1
      rw [S'.eI, e1] at e2
      exact (Option.some.inj e2).symm
    have hrm : ρR v ∈ rs' := by rw [← S'.eR]; exact List.mem_map_of_mem hvm
    have hbr := (hb' _ hrm).1
    have hok := (hb' _ hrm).2
    unfold BndN at hbr
    obtain ⟨q, eq, x, y, z, hq⟩ := S'.tR v hvm
    obtain ⟨qi, k1, k2, k3, xi, yi, zi, eqi, hqi1, hqi2⟩ := S'.tI u hum
    rw [eρ] at hqi2
    generalize ρR v = r at *
    subst eq
    subst eqi
    have hne1 : qi ≠ δ (.ref qi) := ne_obj Nn.out hqi1 hqi2 fun e => by cases e
    have hmR7 : (ra, listOf vsR.toArray kr) ∈ dropA (δ (.ref qi)) ((I, it) :: news₁) := dropA_mem (List.mem_cons_of_mem _ hlR) (ne_obj Nn.out hlR hqi2 (cls_ne rfl rfl (by decide)))
    k_steps
    · refine Stop.mk ?_
      rename News _ _ _ _ => N6
      rename Fr _ _ _ _ => F6
      refine set_term (outer := []) B F6 X (dropA_news N6 (List.mem_cons_of_mem _ hqi2)) T rfl (by omega) (by omega) (dropA_mem (List.mem_cons_of_mem _ hqi1) hne1) (fun p hp => dropA_ne hp) fun h7 tk7 F7 N7 => ?_
      clear F6 N6
      k_steps
      refine Stop.mk ?_
      rename News _ _ _ _ => N8
      rename Fr _ _ _ _ => F8
      rename _ ∧ AllLt _ _ => l8
      refine set_ref F8 N8 (.tail _ (.tail _ hmR7)) hk0 hk1 (by omega) fun h9 F9 N9 => ?_
      clear F8 N8
      k_steps
      obtain ⟨news₂, N10, hne10, S10, C10⟩ := step_fin2 (r := ⟨r.t ++ Str.ofString "x", r.d, r.c⟩) N9 F9 S' C' Nn.out hneI hmR hmI hda (by omega) hu l8
      refine hP _ _ _ news₂ F9 N10 hne10 ⟨_, _, _, _, _, _, _, _, S10, by rw [List.length_set]; exact hl', fun r2 hr2 => ?_, C10⟩
      rcases List.mem_or_eq_of_mem_set hr2 with hr2 | rfl
      · exact (hb' _ hr2).up (Nat.le_succ i)
      · have hx1 : (Str.ofString "x").length = 1 := by decide
        have := Str.length_append r.t (Str.ofString "x")
        exact ⟨by unfold BndN; dsimp only; omega, strOk_append hok (strOk_ofString _)⟩
    · refine Stop.mk ?_
      rename News _ _ _ _ => N6
      rename Fr _ _ _ _ => F6
      refine set_distance (outer := []) B F6 X (dropA_news N6 (List.mem_cons_of_mem _ hqi2)) T rfl (by omega) (by omega) (dropA_mem (List.mem_cons_of_mem _ hqi1) hne1) (fun p hp => dropA_ne hp) fun h7 tk7 F7 N7 => ?_
      clear F6 N6
      k_steps
      refine Stop.mk ?_
      rename News _ _ _ _ => N8
      rename Fr _ _ _ _ => F8
      rename _ ∧ AllLt _ _ => l8
      refine set_ref F8 N8 (.tail _ (.tail _ hmR7)) hk0 hk1 (by omega) fun h9 F9 N9 => ?_
      clear F8 N8
      k_steps
      obtain ⟨news₂, N10, hne10, S10, C10⟩ := step_fin2 (r := ⟨r.t, r.d + 1, r.c⟩) N9 F9 S' C' Nn.out hneI hmR hmI hda (by omega) hu l8
      refine hP _ _ _ news₂ F9 N10 hne10 ⟨_, _, _, _, _, _, _, _, S10, by rw [List.length_set]; exact hl', fun r2 hr2 => ?_, C10⟩
      rcases List.mem_or_eq_of_mem_set hr2 with hr2 | rfl
      · exact (hb' _ hr2).up (Nat.le_succ i)
      · exact ⟨by unfold BndN; dsimp only; omega, hok⟩
    · refine Stop.mk ?_
      rename News _ _ _ _ => N6
      rename Fr _ _ _ _ => F6
      refine set_count (outer := []) B F6 X (dropA_news N6 (List.mem_cons_of_mem _ hqi2)) T rfl (by omega) (by omega) (dropA_mem (List.mem_cons_of_mem _ hqi1) hne1) (fun p hp => dropA_ne hp) fun h7 tk7 F7 N7 => ?_
      clear F6 N6
      k_steps
      refine Stop.mk ?_
      rename News _ _ _ _ => N8
      rename Fr _ _ _ _ => F8
      rename _ ∧ AllLt _ _ => l8
      refine set_ref F8 N8 (.tail _ (.tail _ hmR7)) hk0 hk1 (by omega) fun h9 F9 N9 => ?_
      clear F8 N8
      k_steps
      obtain ⟨news₂, N10, hne10, S10, C10⟩ := step_fin2 (r := ⟨r.t, r.d, 2⟩) N9 F9 S' C' Nn.out hneI hmR hmI hda (by omega) hu l8
      refine hP _ _ _ news₂ F9 N10 hne10 ⟨_, _, _, _, _, _, _, _, S10, by rw [List.length_set]; exact hl', fun r2 hr2 => ?_, C10⟩
      rcases List.mem_or_eq_of_mem_set hr2 with hr2 | rfl
      · exact (hb' _ hr2).up (Nat.le_succ i)
      · exact ⟨by unfold BndN; dsimp only; omega, hok⟩
end
end

section
local macro_rules | `(tactic| walk_at "no such key") => `(tactic| fail)
section
variable {w : World} {mean : ExcName → Option Value} {mg mb : Str → Option Value} {dp un : Nat} {gd : Option (List Code)} {a : Addr} {ccd : Value}
  {A₀ : Around} {base h₀ : Heap} {L : Addr} {m : Str → Option Value} {news : List (Addr × Obj)} {s : Shared} {Q : Flow → Shared → Prop} {E : Value → Shared → Prop}
local macro_rules | `(tactic| k_mem) => `(tactic| first | (with_reducible assumption) | exact List.mem_cons_self | (refine List.mem_cons_of_mem _ ?_; k_mem))
local macro_rules | `(tactic| k_all) => `(tactic| with_reducible assumption)
local macro_rules | `(tactic| walk_at "exec Assign cons ListComp") => `(tactic| (refine Stop.out ?_))
local macro_rules | `(tactic| walk_at "eval ListComp") => `(tactic| (refine Stop.out ?_))
local macro_rules | `(tactic| walk_at "exec For") => `(tactic| (refine Stop.out ?_))
local macro_rules | `(tactic| walk_at "exec For Name Call cons nil") => `(tactic| (refine Stop.out ?_))
local macro_rules | `(tactic| walk_at "eval Name") => `(tactic| (k_here; k_dflt (refine' nameX_L ?F ?v ?_ ?a ?b; (case F => k_asm); (case a => rfl); (case b => rfl); (case v => assumption); k_whole)))
local macro_rules | `(tactic| walk_at "call ref") => `(tactic| (k_here; (with_reducible show wpAny _ _ (call (Value.ref 124) [Value.ref _, Value.int _ _]) _ _ _); k_dflt (refine' num_call ?k1 ?k2 ?k3 ?k4 ?k5 ?k6 ?k7 ?k8 ?k9 ?k10 ?k11 ?k12 ?k13 ?_; (case k1 => k_asm); (case k2 => k_asm); (case k3 => k_asm); (case k4 => k_asm); (case k5 => k_asm); (case k6 => first | exact rfl | assumption); (case k7 => ktr_room); (case k8 => ktr_units); (case k9 => k_mem); (case k10 => assumption); (case k11 => (try simp only [List.length_take]); omega); (case k12 => omega); (case k13 => omega); k_whole); intro t9 h9 tk9 F9 N9; (try dsimp only); (try k_fold)))
local macro_rules | `(tactic| walk_at "call builtin:len") => `(tactic| (k_here; (with_reducible show wpAny _ _ (call (Value.builtin "len") [Value.ref _]) _ _ _); k_dflt (refine' kst_len ?k1 ?k2 ?k3 ?k4 ?_; (case k1 => k_asm); (case k2 => k_mem); (case k3 => exact rfl); (case k4 => omega); k_whole)))

local macro_rules | `(tactic| walk_at "compareOp NotEq ref ref") => `(tactic| (refine Stop.out ?_))
local macro_rules | `(tactic| walk_at "execs nil") => `(tactic| (refine Stop.out ?_))
local macro_rules | `(tactic| walk_at "call ref") => `(tactic| (k_here; (with_reducible show wpAny _ _ (call (Value.ref 150) [Value.ref _]) _ _ _); k_dflt (refine' told_call ?k1 ?k2 ?k3 ?k4 ?k5 ?k6 ?k7 ?k8 ?k9 ?_; (case k1 => k_asm); (case k2 => k_asm); (case k3 => k_asm); (case k4 => k_asm); (case k5 => k_asm); (case k6 => first | exact rfl | assumption); (case k7 => ktr_room); (case k8 => ktr_units); (case k9 => assumption); k_whole); intro r9 x9 y9 z9 h9 tk9 F9 N9 l9; (try dsimp only); (try k_fold)))
local macro_rules | `(tactic| walk_at "call ref") => `(tactic| (k_here; (with_reducible show wpAny _ _ (call (Value.ref 49) [Value.ref _]) _ _ _); k_dflt (refine' str_call ?k1 ?k2 ?k3 ?k4 ?k5 ?k6 ?k7 ?k8 ?k9 ?k10 ?k11 ?k12 ?_; (case k1 => k_asm); (case k2 => k_asm); (case k3 => k_asm); (case k4 => k_asm); (case k5 => k_asm); (case k6 => first | exact rfl | assumption); (case k7 => ktr_room); (case k8 => ktr_units); (case k9 => assumption); (case k10 => omega); (case k11 => omega); (case k12 => omega); k_whole); intro x9 h9 tk9 F9 N9; (try dsimp only); (try k_fold)))

theorem DatAll.snoc {news : List (Addr × Obj)} {v : Value} {d : Dat} (hd : DatIn news v d) : ∀ {vs : List Value} {ds : List Dat}, DatAll news vs ds → DatAll news (vs ++ [v]) (ds ++ [d])
  | _, _, .nil => .cons hd .nil
  | _, _, .cons h r => .cons h (DatAll.snoc hd r)
def datR (r : Row) : Dat := .tuple [.str r.t, .int r.d, .int r.c]
def datS (r : Row) : Dat := .str (itStr r.t r.d r.c)
theorem TpV.dat {news : List (Addr × Obj)} {v : Value} {r : Row} (h : TpV news v r) : DatIn news v (datR r) := by
  obtain ⟨q, rfl, x, y, z, hq⟩ := h
  exact .tuple (vs := [.str r.t x, .int r.d y, .int r.c z]) hq (.cons (.str _ _) (.cons (.int _ _) (.cons (.int _ _) .nil)))
theorem TpV.dats {news : List (Addr × Obj)} {ρ : Value → Row} : ∀ {vs : List Value}, (∀ v ∈ vs, TpV news v (ρ v)) → DatAll news vs ((vs.map ρ).map datR)
  | [], _ => .nil
  | v :: vs, h => .cons (h v (.head _)).dat (TpV.dats fun u hu => h u (.tail _ hu))
theorem strOk_itStr {r : Row} (h : PyData.strOk r.t = true) : PyData.strOk (itStr r.t r.d r.c) = true := by
  unfold itStr
  exact strOk_append (strOk_append (strOk_append (strOk_append h (strOk_ofString _)) (strOk_ofString _)) (strOk_ofString _)) (strOk_ofString _)
theorem kqd_datR {r : Row} (h : PyData.strOk r.t = true) : kqdOk 8 (datR r) = true := by
  unfold datR
  simp [kqdOk, h]
theorem kqd_datS {r : Row} (h : PyData.strOk r.t = true) : kqdOk 8 (datS r) = true := strOk_itStr h

theorem stD (B : Below A₀ base [] h₀) (F : Fr h₀ L s.heap m) (X : (hd.heap_39 w.params).In h₀) (N : News h₀ L s.heap news)
    (T : Top hd.view_39 (looseW hd.view_39 [Str.ofString "SuggestItem"]) mean mg mb h₀)
    (hdp : dp + 100 < recursionLimit) (hun : un + 1000 < cLine)
    {ra ia : Addr} {vsR vsI : List Value} {kr ki : Nat} {ρR ρI : Value → Row} {δ : Value → Addr} {rs : List Row} (S : LawSt w m news ra ia vsR vsI kr ki ρR ρI δ rs) (hn1 : 2 ≤ rs.length) (hn2 : rs.length ≤ 6) (hb : ∀ r ∈ rs, Bnd 3 r)
    (hnext : ∀ (news' : List (Addr × Obj)) (h' : Heap) (tk' : Nat), Fr h₀ L h' m → News h₀ L h' news' → (∀ p ∈ news, p ∈ news') →
      wpAny (model Challenge.rw_fe0310_01.row.prog w) (lawA dp un gd L a ccd) (execs (lawBody.drop 6) (lawEnv L a ccd)) Q E { s with heap := h', toks := tk' }) :
    wpAny (model Challenge.rw_fe0310_01.row.prog w) (lawA dp un gd L a ccd) (execs (lawBody.drop 4) (lawEnv L a ccd)) Q E s := by
  revert X
  k_fill
  intro X
  have hmR := S.mR
  have hmI := S.mI
  have hlR := S.lR
  have hlI := S.lI
  have hlenR : vsR.length = rs.length := by rw [← S.eR, List.length_map]
  have hlenI : vsI.length = rs.length := by rw [← S.eI, List.length_map]
  show wpAny _ _ (execs (_ :: _) _) _ _ _
  k_steps
  refine Stop.mk ?_
  refine comp_list (news := news) (ax := ia) (xs := vsI) (k := ki) (fun i ys news' => DatAll news' ys ((rs.take i).map datR) ∧ (∀ p ∈ news, p ∈ news'))
    F (by with_unfolding_all rfl) (by decide) rfl (by decide) rfl rfl ?hiter hlI (by rw [sizeLine_eq]; omega) ⟨by rw [List.take_zero]; exact .nil, fun _ h => h⟩ ?hstep ?hret
  case hiter =>
    k_steps
    · assumption
    · assumption
  case hstep =>
    intro h' tk' i v ys news' full C oC m₂ h tk Q' E' hP hi' hC hx F2 N2 hCin hsub hJ hret
    obtain ⟨hJ1, hJ2⟩ := hJ
    obtain ⟨q, rfl, hq⟩ := (S.tI v (List.mem_of_getElem? hP)).it
    have hq' := hq.sub fun p hp => hsub p (hJ2 p hp)
    have hri : rs[i]? = some (ρI (.ref q)) := by rw [← S.eI, List.getElem?_map, hP]; rfl
    k_steps
    rename News _ _ _ (_ :: full) => N3
    rename Fr _ _ _ _ => F3
    rename ∀ (p : Addr × Obj), p ∈ full → p.1 < _ => l3
    refine hret _ [_] _ _ F3 N3 (fun p hp q hq => by rw [List.mem_singleton.mp hp]; exact l3 q hq) ⟨?_, fun p hp => List.mem_append_right _ (hJ2 p hp)⟩
    rw [List.take_add_one, hri, List.map_append]
    exact DatAll.snoc (TpV.dat ⟨_, rfl, _, _, _, List.mem_append_left _ (.head _)⟩) (hJ1.mono fun p hp => List.mem_append_right _ hp)
  case hret =>
    intro ys news' D h' tk' F2 N2 hlen' hJ hsub hD
    obtain ⟨hJ1, hJ2⟩ := hJ
    clear F N
    k_steps
    refine Stop.mk ?_
    rw [show rs.take vsI.length = rs from List.take_of_length_le (by omega)] at hJ1
    have okR : ∀ d ∈ rs.map datR, kqdOk 8 d = true := fun d hd => by
      obtain ⟨r, hr, rfl⟩ := List.mem_map.mp hd
      exact kqd_datR (hb r hr).2
    have okS : ∀ d ∈ rs.map datS, kqdOk 8 d = true := fun d hd => by
      obtain ⟨r, hr, rfl⟩ := List.mem_map.mp hd
      exact kqd_datS (hb r hr).2
    have dR : DatAll news vsR (rs.map datR) := by rw [← S.eR]; exact TpV.dats S.tR
    refine kqd_ne N2 (.head _) rfl rfl hJ1 (fun p hp => .tail _ hp) (.tail _ (hJ2 _ hlR)) rfl rfl dR (fun p hp => .tail _ (hJ2 p hp)) okR okR (by show un + 64 < cLine; omega) ?_
    simp only [eq_self, decide_true, Bool.not_true]
    have N3 : News h₀ L h' news := fun p hp => N2 p (.tail _ (hJ2 p hp))
    have F3 : Fr h₀ L h' m := F2
    clear N2 F2 hJ1 hJ2 hsub hD
    show wpAny _ _ (truthy (.bool false)) _ _ _
    k_steps
    refine Stop.mk (wpAny_execs_nil ?_)
    k_steps
    refine Stop.mk ?_
    refine comp_list (news := news) (ax := ia) (xs := vsI) (k := ki) (fun i ys news' => DatAll [] ys ((rs.take i).map datS) ∧ news' = news)
      F3 (by with_unfolding_all rfl) (by decide) rfl (by decide) rfl rfl ?hiter2 hlI (by rw [sizeLine_eq]; omega) ⟨by rw [List.take_zero]; exact .nil, rfl⟩ ?hstep2 ?hret2
    case hiter2 =>
      k_steps
      · assumption
      · assumption
    case hstep2 =>
      intro h' tk' i v ys news' full C oC m₂ h tk Q' E' hP hi' hC hx F2 N2 hCin hsub hJ hret
      obtain ⟨hJ1, e2⟩ := hJ
      rw [e2] at hsub
      obtain ⟨q, rfl, hq⟩ := (S.tI v (List.mem_of_getElem? hP)).it
      have hq' := hq.sub hsub
      have hri : rs[i]? = some (ρI (.ref q)) := by rw [← S.eI, List.getElem?_map, hP]; rfl
      have hbi := (hb _ (List.mem_of_getElem? hri)).1
      unfold BndN at hbi
      have hq2 := hq'
      obtain ⟨dq, k1, k2, k3, x, y, z, hq3, hq4⟩ := hq2
      k_steps
      refine kso_call (f := 49) (by show un + 2 < cLine; omega) (Frag.In.keeps X (Fr.keep F2)) (by k_inst) (by k_is) (by k_is) ?_
      show wpAny _ (ktrTop dp (un + 2) gd _ _ L a ccd _ []) _ _ _ _
      refine str_call (s := { s with heap := h, toks := _ }) (outer := []) (dp := dp) (un := un + 2) B F2 X N2 T rfl (by omega) (by omega) hq' (by omega) (by omega) (by omega) fun z5 h5 tk5 F5 N5 => ?_
      refine hret _ [] _ _ F5 N5 (by simp) ⟨?_, e2⟩
      rw [List.take_add_one, hri, List.map_append]
      exact DatAll.snoc (.str _ _) hJ1
    case hret2 =>
      intro ys2 news2 D2 h2 tk2 F4 N4 hlen2 hJ2 hsub2 hD2
      obtain ⟨hJ3, e2⟩ := hJ2
      rw [e2] at N4
      rw [show rs.take vsI.length = rs from List.take_of_length_le (by omega)] at hJ3
      clear F3 N3
      k_steps
      refine Stop.mk ?_
      refine comp3 (news := (D2, LCg.lst ys2) :: news) (ax := ra) (xs := vsR) (k := kr) (fun i a b c => ∃ r x y z, rs[i]? = some r ∧ a = .str r.t x ∧ b = .int r.d y ∧ c = .int r.c z) (fun i ys => DatAll [] ys ((rs.take i).map datS) ∧ ys.length = i)
        F4 (by with_unfolding_all rfl) (by decide) rfl (by decide) rfl rfl rfl (by decide) (by decide) (by decide) rfl ?hiter3 (.tail _ hlR) (by rw [sizeLine_eq]; omega) ⟨by rw [List.take_zero]; exact .nil, rfl⟩ (fun i ys h => h.2) ?hitem3 ?hstep3 ?hret3
      case hiter3 =>
        k_steps
        · assumption
        · assumption
      case hitem3 =>
        intro i v hv
        obtain ⟨q, rfl, x, y, z, hq⟩ := S.tR v (List.mem_of_getElem? hv)
        have hri : rs[i]? = some (ρR (.ref q)) := by rw [← S.eR, List.getElem?_map, hv]; rfl
        exact ⟨q, _, _, _, 0, rfl, .tail _ hq, _, x, y, z, hri, rfl, rfl, rfl⟩
      case hstep3 =>
        rintro i a b c ys full C oC m₂ h tk Q' E' ⟨r, x, y, z, hri, rfl, rfl, rfl⟩ hi' hC hx1 hx2 hx3 F5 N5 hCin hsub ⟨hJ, hJl⟩ hret
        have hbi := (hb _ (List.mem_of_getElem? hri)).1
        unfold BndN at hbi
        k_steps
        refine hret _ _ _ F5 N5 ⟨?_, by rw [List.length_append, hJl]; rfl⟩
        rw [List.take_add_one, hri, List.map_append]
        exact DatAll.snoc (.str _ _) hJ
      case hret3 =>
        intro ys3 D3 h3 tk3 F5 N5 hJ5 hD5
        obtain ⟨hJ5, _⟩ := hJ5
        rw [show rs.take vsR.length = rs from List.take_of_length_le (by omega)] at hJ5
        k_steps
        refine Stop.mk ?_
        refine kqd_ne N5 (.tail _ (.head _)) rfl rfl hJ3 (by simp) (.head _) rfl rfl hJ5 (by simp) okS okS (by show un + 64 < cLine; omega) ?_
        simp only [eq_self, decide_true, Bool.not_true]
        clear F4 N4
        show wpAny _ _ (truthy (.bool false)) _ _ _
        k_steps
        refine Stop.mk (wpAny_execs_nil ?_)
        exact hnext ((D3, LCg.lst ys3) :: (D2, LCg.lst ys2) :: news) h3 _ F5 N5 fun p hp => .tail _ (.tail _ hp)
end
end

section
section
variable {w : World} {mean : ExcName → Option Value} {mg mb : Str → Option Value} {dp un : Nat} {gd : Option (List Code)} {a : Addr} {ccd : Value}
  {A₀ : Around} {base h₀ : Heap} {L : Addr} {m : Str → Option Value} {news : List (Addr × Obj)} {s : Shared} {Q : Flow → Shared → Prop} {E : Value → Shared → Prop}
local macro_rules | `(tactic| k_mem) => `(tactic| first | (with_reducible assumption) | exact List.mem_cons_self | (refine List.mem_cons_of_mem _ ?_; k_mem))
local macro_rules | `(tactic| k_all) => `(tactic| with_reducible assumption)
local macro_rules | `(tactic| walk_at "exec Assign cons ListComp") => `(tactic| (refine Stop.out ?_))
local macro_rules | `(tactic| walk_at "eval ListComp") => `(tactic| (refine Stop.out ?_))
local macro_rules | `(tactic| walk_at "exec For") => `(tactic| (refine Stop.out ?_))
local macro_rules | `(tactic| walk_at "exec For Name Call cons nil") => `(tactic| (refine Stop.out ?_))
local macro_rules | `(tactic| walk_at "eval Name") => `(tactic| (k_here; k_dflt (refine' nameX_L ?F ?v ?_ ?a ?b; (case F => k_asm); (case a => rfl); (case b => rfl); (case v => assumption); k_whole)))
local macro_rules | `(tactic| walk_at "execs nil") => `(tactic| (refine Stop.out ?_))
local macro_rules | `(tactic| walk_at "exec For Tuple Call cons nil") => `(tactic| (refine Stop.out ?_))
local macro_rules | `(tactic| walk_at "call type:zip") => `(tactic| (refine Stop.out ?_))
local macro_rules | `(tactic| walk_at "call ref") => `(tactic| (k_here; (with_reducible show wpAny _ _ (call (Value.ref 164) [Value.ref _, Value.ref _, Value.ref _, Value.ref _]) _ _ _); k_dflt (refine' two_call ?k1 ?k2 ?k3 ?k4 ?k5 ?k6 ?k7 ?k8 ?k9 ?k10 ?k11 ?k12 ?_; (case k1 => k_asm); (case k2 => k_asm); (case k3 => k_asm); (case k4 => k_asm); (case k5 => k_asm); (case k6 => first | exact rfl | assumption); (case k7 => ktr_room); (case k8 => ktr_units); (case k9 => assumption); (case k10 => assumption); (case k11 => assumption); (case k12 => assumption); k_whole); intro h9 tk9 F9 N9; (try dsimp only); (try k_fold)))
local macro_rules | `(tactic| walk_at "call ref") => `(tactic| (k_here; (with_reducible show wpAny _ _ (call (Value.ref 157) [Value.ref _, Value.int _ _]) _ _ _); k_dflt (refine' refused_int ?k1 ?k2 ?k3 ?k4 ?k5 ?k6 ?k7 ?k8 ?k9 ?_; (case k1 => k_asm); (case k2 => k_asm); (case k3 => k_asm); (case k4 => k_asm); (case k5 => k_asm); (case k6 => first | exact rfl | assumption); (case k7 => ktr_room); (case k8 => ktr_units); (case k9 => assumption); k_whole); intro h9 tk9 F9 N9; (try dsimp only); (try k_fold)))
local macro_rules | `(tactic| walk_at "call ref") => `(tactic| (k_here; (with_reducible show wpAny _ _ (call (Value.ref 157) [Value.ref _, Value.none]) _ _ _); k_dflt (refine' refused_none ?k1 ?k2 ?k3 ?k4 ?k5 ?k6 ?k7 ?k8 ?k9 ?_; (case k1 => k_asm); (case k2 => k_asm); (case k3 => k_asm); (case k4 => k_asm); (case k5 => k_asm); (case k6 => first | exact rfl | assumption); (case k7 => ktr_room); (case k8 => ktr_units); (case k9 => assumption); k_whole); intro h9 tk9 F9 N9; (try dsimp only); (try k_fold)))
local macro_rules | `(tactic| walk_at "compareOp Eq ref") => `(tactic| (k_here; (with_reducible show wpAny _ _ (compareOp CmpOp.Eq (Value.ref _) (Value.int _ _)) _ _ _); k_dflt (refine' cmp_eq_int ?k1 ?k2 ?k3 ?k4 ?k5 ?k6 ?k7 ?k8 ?k9 ?_; (case k1 => k_asm); (case k2 => k_asm); (case k3 => k_asm); (case k4 => k_asm); (case k5 => k_asm); (case k6 => first | exact rfl | assumption); (case k7 => ktr_room); (case k8 => ktr_units); (case k9 => assumption); k_whole); intro h9 tk9 F9 N9; (try dsimp only); (try k_fold)))
local macro_rules | `(tactic| walk_at "compareOp Eq ref") => `(tactic| (k_here; (with_reducible show wpAny _ _ (compareOp CmpOp.Eq (Value.ref _) (Value.ref _)) _ _ _); k_dflt (refine' cmp_eq_tup ?k1 ?k2 ?k3 ?k4 ?k5 ?k6 ?k7 ?k8 ?k9 ?k10 ?_; (case k1 => k_asm); (case k2 => k_asm); (case k3 => k_asm); (case k4 => k_asm); (case k5 => k_asm); (case k6 => first | exact rfl | assumption); (case k7 => ktr_room); (case k8 => ktr_units); (case k9 => assumption); (case k10 => assumption); k_whole); intro h9 tk9 F9 N9; (try dsimp only); (try k_fold)))
local macro_rules | `(tactic| walk_at "compareOp Eq ref ref") => `(tactic| (k_here; (with_reducible show wpAny _ _ (compareOp CmpOp.Eq (Value.ref _) (Value.ref _)) _ _ _); k_dflt (refine' cmp_eq_tup ?k1 ?k2 ?k3 ?k4 ?k5 ?k6 ?k7 ?k8 ?k9 ?k10 ?_; (case k1 => k_asm); (case k2 => k_asm); (case k3 => k_asm); (case k4 => k_asm); (case k5 => k_asm); (case k6 => first | exact rfl | assumption); (case k7 => ktr_room); (case k8 => ktr_units); (case k9 => assumption); (case k10 => assumption); k_whole); intro h9 tk9 F9 N9; (try dsimp only); (try k_fold)))

theorem LawSt.drop {h : Heap} {c : Addr} {o : Obj} {v : Option Value} {ra ia : Addr} {vsR vsI : List Value} {kr ki : Nat} {ρR ρI : Value → Row} {δ : Value → Addr} {rs : List Row} (S : LawSt w m news ra ia vsR vsI kr ki ρR ρI δ rs) (N : News h₀ L h news) (hc : (c, o) ∈ news) (hd : o.data = .cell v) :
    LawSt w m (dropA c news) ra ia vsR vsI kr ki ρR ρI δ rs := by
  have go : ∀ {a : Addr} {o' : Obj}, (a, o') ∈ news → o'.data ≠ .cell v → (a, o') ∈ dropA c news := fun {a o'} hm hne => dropA_mem hm (ne_obj N hm hc fun e => hne (e ▸ hd))
  refine ⟨S.mR, S.mI, go S.lR (by intro e; cases e), go S.lI (by intro e; cases e), fun u hu => ?_, fun u hu => ?_, S.eR, S.eI, S.inj, S.nd, S.ne⟩
  · obtain ⟨q, e, x, y, z, hq⟩ := S.tR u hu
    exact ⟨q, e, x, y, z, go hq (by intro e; cases e)⟩
  · obtain ⟨q, k1, k2, k3, x, y, z, e, h1, h2⟩ := S.tI u hu
    exact ⟨q, k1, k2, k3, x, y, z, e, go h1 (by intro e; cases e), go h2 (by intro e; cases e)⟩

theorem stE (B : Below A₀ base [] h₀) (F : Fr h₀ L s.heap m) (X : (hd.heap_39 w.params).In h₀) (N : News h₀ L s.heap news)
    (T : Top hd.view_39 (looseW hd.view_39 [Str.ofString "SuggestItem"]) mean mg mb h₀)
    (hdp : dp + 100 < recursionLimit) (hun : un + 1000 < cLine)
    {ra ia da : Addr} {vsR vsI ws : List Value} {kr ki kd : Nat} {ρR ρI : Value → Row} {δ : Value → Addr} {rs : List Row} (S : LawSt w m news ra ia vsR vsI kr ki ρR ρI δ rs) (C : CellsIn news L da ws kd)
    (hE : PassesOwn (model Challenge.rw_fe0310_01.row.prog w) (lawA dp un gd L a ccd) (lawEnv L a ccd) E)
    (hnext : ∀ (news' : List (Addr × Obj)) (h' : Heap) (tk' : Nat), Fr h₀ L h' m → News h₀ L h' news' → LawSt w m news' ra ia vsR vsI kr ki ρR ρI δ rs →
      wpAny (model Challenge.rw_fe0310_01.row.prog w) (lawA dp un gd L a ccd) (execs (lawBody.drop 7) (lawEnv L a ccd)) Q E { s with heap := h', toks := tk' }) :
    wpAny (model Challenge.rw_fe0310_01.row.prog w) (lawA dp un gd L a ccd) (execs (lawBody.drop 6) (lawEnv L a ccd)) Q E s := by
  revert X
  k_fill
  intro X
  have hlenR : vsR.length = rs.length := by rw [← S.eR, List.length_map]
  have hlenI : vsI.length = rs.length := by rw [← S.eI, List.length_map]
  obtain ⟨o2, v2, hc2, hd2⟩ := C.c2
  obtain ⟨o3, v3, hc3, hd3⟩ := C.c3
  have n32 : L + 1 + 1 + 1 ≠ L + 1 + 1 := Nat.succ_ne_self _
  have hc3' : (L + 1 + 1 + 1, o3) ∈ dropA (L + 1 + 1) news := dropA_mem hc3 n32
  have Nd : News h₀ L s.heap (dropA (L + 1 + 1) news) := fun p hp => N p (dropA_sub hp)
  have S2 := (S.drop N hc2 hd2).drop Nd hc3' hd3
  have hb3 : ∀ p ∈ dropA (L + 1 + 1 + 1) (dropA (L + 1 + 1) news), p.1 ≠ L + 1 + 1 + 1 := fun p hp => dropA_ne hp
  have hb2 : ∀ p ∈ dropA (L + 1 + 1 + 1) (dropA (L + 1 + 1) news), p.1 ≠ L + 1 + 1 := fun p hp => dropA_ne (dropA_sub hp)
  have N2 : News h₀ L s.heap ((L + 1 + 1 + 1, o3) :: (L + 1 + 1, o2) :: dropA (L + 1 + 1 + 1) (dropA (L + 1 + 1) news)) := fun p hp => by
    rcases List.mem_cons.mp hp with rfl | hp
    · exact N _ hc3
    rcases List.mem_cons.mp hp with rfl | hp
    · exact N _ hc2
    · exact N _ (dropA_sub (dropA_sub hp))
  generalize dropA (L + 1 + 1 + 1) (dropA (L + 1 + 1) news) = bs at *
  clear N Nd hc2 hc3 hc3' S C
  have hmR := S2.mR
  have hmI := S2.mI
  have hlR := S2.lR
  have hlI := S2.lI
  show wpAny _ _ (execs (_ :: _) _) _ _ _
  k_steps
  refine Stop.mk ?_
  refine for_zip (h₀ := h₀) (m := m) (news := (L + 1 + 1 + 1, o3) :: (L + 1 + 1, o2) :: bs) (l1 := ia) (l2 := ra) (xs := vsI) (ys := vsR) (n1 := ki) (n2 := kr)
    (fun i m₁ news₁ => m₁ = m ∧ ∃ oi vi oo vo, news₁ = (L + 1 + 1 + 1, oi) :: (L + 1 + 1, oo) :: bs ∧ oi.data = .cell vi ∧ oo.data = .cell vo) (by omega)
    F rfl ?hiter (.tail _ (.tail _ hlI)) (.tail _ (.tail _ hlR)) ⟨rfl, o3, v3, o2, v2, rfl, hd3, hd2⟩ ?hstep ?hfin (hE := hE)
  case hiter =>
    intro Q' hQ'
    k_steps
    refine Stop.mk ?_
    exact hQ' _ _ F N2
  case hfin =>
    rintro m' news' h' tk' ⟨rfl, oi, vi, oo, vo, rfl, _, _⟩ F' N'
    have N3 : News h₀ L h' bs := fun p hp => N' p (.tail _ (.tail _ hp))
    exact hnext _ _ _ F' N3 S2
  case hstep =>
    rintro i x y T' m₁ news₁ its h tk P hx hy ⟨rfl, oi, vi, oo, vo, rfl, hdi, hdo⟩ hl1 hl2 hT F1 N1 hne hP hPr
    have hxm := List.mem_of_getElem? hx
    have hym := List.mem_of_getElem? hy
    have eρ : ρI x = ρR y := by
      have e1 : (vsR.map ρR)[i]? = some (ρR y) := by rw [List.getElem?_map, hy]; rfl
      have e2 : (vsI.map ρI)[i]? = some (ρI x) := by rw [List.getElem?_map, hx]; rfl
      rw [S2.eR] at e1
      rw [S2.eI, e1] at e2
      exact (Option.some.inj e2).symm
    have hLi : ∀ p ∈ its ++ bs, p.1 ≠ L + 1 + 1 + 1 := fun p hp => by
      rcases List.mem_append.mp hp with hp | hp
      · exact Ne.symm (hne _ (.head _) p hp)
      · exact hb3 p hp
    have hLo : ∀ p ∈ its ++ bs, p.1 ≠ L + 1 + 1 := fun p hp => by
      rcases List.mem_append.mp hp with hp | hp
      · exact Ne.symm (hne _ (.tail _ (.head _)) p hp)
      · exact hb2 p hp
    have hsub : ∀ p ∈ bs, p ∈ its ++ bs := fun p hp => List.mem_append_right _ hp
    have N3 : News h₀ L h ((L + 1 + 1 + 1, oi) :: (L + 1 + 1, oo) :: (its ++ bs)) := fun p hp => by
      rcases List.mem_cons.mp hp with rfl | hp
      · exact N1 _ (List.mem_append_right _ (.head _))
      rcases List.mem_cons.mp hp with rfl | hp
      · exact N1 _ (List.mem_append_right _ (.tail _ (.head _)))
      rcases List.mem_append.mp hp with hp | hp
      · exact N1 _ (List.mem_append_left _ hp)
      · exact N1 _ (List.mem_append_right _ (.tail _ (.tail _ hp)))
    have back : ∀ h' oi' oo', News h₀ L h' ((L + 1 + 1 + 1, oi') :: (L + 1 + 1, oo') :: (its ++ bs)) → News h₀ L h' (its ++ (L + 1 + 1 + 1, oi') :: (L + 1 + 1, oo') :: bs) := fun h' oi' oo' N' p hp => by
      rcases List.mem_append.mp hp with hp | hp
      · exact N' _ (.tail _ (.tail _ (List.mem_append_left _ hp)))
      rcases List.mem_cons.mp hp with rfl | hp
      · exact N' _ (.head _)
      rcases List.mem_cons.mp hp with rfl | hp
      · exact N' _ (.tail _ (.head _))
      · exact N' _ (.tail _ (.tail _ (List.mem_append_right _ hp)))
    have hne' : ∀ oi' oo', ∀ p ∈ (L + 1 + 1 + 1, oi') :: (L + 1 + 1, oo') :: bs, ∀ q ∈ its, p.1 ≠ q.1 := fun oi' oo' p hp q hq => by
      rcases List.mem_cons.mp hp with rfl | hp
      · exact hne _ (.head _) q hq
      rcases List.mem_cons.mp hp with rfl | hp
      · exact hne _ (.tail _ (.head _)) q hq
      · exact hne p (.tail _ (.tail _ hp)) q hq
    obtain ⟨q, rfl, hq⟩ := S2.tR y hym
    obtain ⟨p, rfl, hp⟩ := (S2.tI x hxm).it
    rw [eρ] at hp
    generalize ρR (.ref q) = r at *
    replace F1 : Fr h₀ L h m₁ := F1
    clear F N1 N2 hne
    generalize its ++ bs = Lg at *
    have hqL := hq.sub hsub
    have hpL := hp.sub hsub
    have hRL := hsub _ hlR
    have hIL := hsub _ hlI
    k_steps
    refine Stop.mk ?_
    rename News _ _ _ _ => N5
    rename Fr _ _ _ _ => F5
    rename_i oi' d1' _ oo' d2'
    have cI : (L + 1 + 1 + 1, oi') ∈ (L + 1 + 1 + 1, oi') :: (L + 1 + 1, oo') :: Lg := .head _
    have cO : (L + 1 + 1, oo') ∈ (L + 1 + 1 + 1, oi') :: (L + 1 + 1, oo') :: Lg := .tail _ (.head _)
    refine comp_zip_none (h₀ := h₀) (L := L) (m := m₁) (news := (L + 1 + 1 + 1, oi') :: (L + 1 + 1, oo') :: Lg) (l1 := ia) (l2 := ra) (xs := vsI) (ys := vsR) (n1 := ki) (n2 := kr)
      (by with_unfolding_all rfl) (by decide) rfl (by decide) rfl rfl (by decide) rfl ?hiter2 (.tail _ (.tail _ hIL)) (.tail _ (.tail _ hRL)) ?hstep2 ?hret2
    case hiter2 =>
      intro Q' hQ'
      k_steps
      refine Stop.mk ?_
      exact hQ' _ _ F5 N5
    case hstep2 =>
      intro j x2 y2 full C2 oC m₂ h6 tk6 Q' E' hx2 hy2 hC hm1 hm2 F6 N6 hCin hsub6 hret6
      have hxm2 := List.mem_of_getElem? hx2
      have hym2 := List.mem_of_getElem? hy2
      have eρ2 : ρI x2 = ρR y2 := by
        have e1 : (vsR.map ρR)[j]? = some (ρR y2) := by rw [List.getElem?_map, hy2]; rfl
        have e2 : (vsI.map ρI)[j]? = some (ρI x2) := by rw [List.getElem?_map, hx2]; rfl
        rw [S2.eR] at e1
        rw [S2.eI, e1] at e2
        exact (Option.some.inj e2).symm
      obtain ⟨q2, rfl, hq2⟩ := S2.tR y2 hym2
      obtain ⟨p2, rfl, hp2⟩ := (S2.tI x2 hxm2).it
      rw [eρ2] at hp2
      have up : ∀ p ∈ bs, p ∈ full := fun p hp => hsub6 p (.tail _ (.tail _ (hsub p hp)))
      have a1 := hq2.sub up
      have a2 := hp2.sub up
      have a3 := hq.sub up
      have a4 := hp.sub up
      have a5 := hsub6 _ cI
      have a6 := hsub6 _ cO
      k_steps
      exact hret6 _ _ (by assumption) (by assumption)
    case hret2 =>
      intro D h6 tk6 F6 N6 hD
      clear F5 N5
      have up2 : ∀ p ∈ Lg, p ∈ (L + 1 + 1 + 1, oi') :: (L + 1 + 1, oo') :: Lg := fun p hp => .tail _ (.tail _ hp)
      have b1 := hqL.sub up2
      have b2 := hpL.sub up2
      have b3 := b1
      obtain ⟨xq, yq, zq, hqM⟩ := b3
      k_steps
      refine Stop.mk (wpAny_execs_nil ?_)
      rename News _ _ _ _ => N7
      rename Fr _ _ _ _ => F7
      replace N7 : News h₀ L _ ((L + 1 + 1 + 1, oi') :: (L + 1 + 1, oo') :: Lg) := News.perm N7 fun p hp => List.mem_cons_of_mem _ (List.mem_cons_of_mem _ hp)
      k_steps
      refine Stop.mk (wpAny_execs_nil ?_)
      refine wpAny_execs_nil ?_
      rename News _ _ _ _ => N8
      rename Fr _ _ _ _ => F8
      exact hP _ _ _ ((L + 1 + 1 + 1, oi') :: (L + 1 + 1, oo') :: bs) F8 (back _ _ _ N8) (hne' _ _) (.tail _ (.tail _ hlI)) (.tail _ (.tail _ hlR)) ⟨rfl, oi', _, oo', _, rfl, d1', d2'⟩
end
end

section
section
variable {w : World} {mean : ExcName → Option Value} {mg mb : Str → Option Value} {dp un : Nat} {gd : Option (List Code)} {a : Addr} {ccd : Value}
  {A₀ : Around} {base h₀ : Heap} {L : Addr} {m : Str → Option Value} {news : List (Addr × Obj)} {s : Shared} {Q : Flow → Shared → Prop} {E : Value → Shared → Prop}
local macro_rules | `(tactic| k_mem) => `(tactic| first | (with_reducible assumption) | exact List.mem_cons_self | (refine List.mem_cons_of_mem _ ?_; k_mem))
local macro_rules | `(tactic| k_all) => `(tactic| with_reducible assumption)
local macro_rules | `(tactic| walk_at "exec Assign cons ListComp") => `(tactic| (refine Stop.out ?_))
local macro_rules | `(tactic| walk_at "eval ListComp") => `(tactic| (refine Stop.out ?_))
local macro_rules | `(tactic| walk_at "exec For") => `(tactic| (refine Stop.out ?_))
local macro_rules | `(tactic| walk_at "exec For Name Call cons nil") => `(tactic| (refine Stop.out ?_))
local macro_rules | `(tactic| walk_at "eval Name") => `(tactic| (k_here; k_dflt (refine' nameX_L ?F ?v ?_ ?a ?b; (case F => k_asm); (case a => rfl); (case b => rfl); (case v => assumption); k_whole)))
local macro_rules | `(tactic| walk_at "call ref") => `(tactic| (k_here; (with_reducible show wpAny _ _ (call (Value.ref 150) [Value.ref _]) _ _ _); k_dflt (refine' told_call ?k1 ?k2 ?k3 ?k4 ?k5 ?k6 ?k7 ?k8 ?k9 ?_; (case k1 => k_asm); (case k2 => k_asm); (case k3 => k_asm); (case k4 => k_asm); (case k5 => k_asm); (case k6 => first | exact rfl | assumption); (case k7 => ktr_room); (case k8 => ktr_units); (case k9 => assumption); k_whole); intro r9 x9 y9 z9 h9 tk9 F9 N9 l9; (try dsimp only); (try k_fold)))
local macro_rules | `(tactic| walk_at "call ref") => `(tactic| ((with_reducible show wpAny _ _ (call (Value.ref 143) [Value.ref _]) _ _ _); refine Stop.out ?_))
local macro_rules | `(tactic| walk_at "compareOp NotEq ref ref") => `(tactic| (refine Stop.out ?_))
local macro_rules | `(tactic| walk_at "execs nil") => `(tactic| (refine Stop.out ?_))
local macro_rules | `(tactic| walk_at "call builtin:sorted") => `(tactic| (refine Stop.out ?_))

section
variable {prog : Program} {A : Around} {Q : Value → Shared → Prop} {env : Env} {elt : Expr} {x : Str} {scope : Scope} {cl : List (Str × Addr)}
theorem comp_list_src {iter : Expr} {px : Pos} {pos : Pos} {xs : List Value} (J : Nat → List Value → List (Addr × Obj) → Prop)
    (F₀ : Fr h₀ L s.heap m) (hclos : closureFor scope env = pure cl) (hcell : ∀ y ∈ scope.names, y.2 ≠ .cell) (hkind : scope.kind = .function)
    (hnames : ∀ y ∈ scope.names, y.2 = .local → scope.names.lookup y.1 = some .local) (hx : scope.names.lookup x = some .local) (hh : A.handled = none)
    (hiter : wpAny (model prog w) A (eval iter env) (fun xv s₁ => ∃ ax h' tk' news k, xv = .ref ax ∧ s₁ = { s with heap := h', toks := tk' } ∧ Fr h₀ L h' m ∧ News h₀ L h' news ∧ (ax, listOf xs.toArray k) ∈ news ∧ J 0 [] news) E s)
    (hsz : xs.length ≤ sizeLine)
    (hstep : ∀ h' tk', Step prog w A { s with heap := h', toks := tk' } h₀ L m env elt x scope cl (fun i v => xs[i]? = some v) xs.length J)
    (hret : ∀ ys news' D h' tk', Fr h₀ L h' m → News h₀ L h' ((D, LCg.lst ys) :: news') → ys.length = xs.length → J xs.length ys news' → (∀ q ∈ news', q.1 ≠ D) → Q (.ref D) { s with heap := h', toks := tk' })
    (hs : ∀ x, foldedSetIterable iter env x = pure x := by intro _; rfl) :
    wpAny (model prog w) A (eval (.ListComp elt [⟨.Name x px, iter, [], 0⟩] scope pos) env) Q E s := by
  refine LCg.ListComp_U F₀ hclos hcell hkind hnames hx (wpAny_mono hiter (fun xv s₁ h₁ => ?_) fun _ _ e => e) hs
  obtain ⟨ax, h', tk', news, k, rfl, rfl, F, N, hm, h0⟩ := h₁
  refine LCg.CompSrc.ledger hh F N hm (by simpa using hsz) fun g => ?_
  have e : xs.toArray.size = xs.length := by simp
  rw [e]
  have e2 : (fun (i : Nat) (v : Value) => xs.toArray[i]? = some v) = fun i v => xs[i]? = some v := by funext i v; simp
  rw [e2]
  refine compRest_of (news := news) (hstep g tk') (fun news' hs => .inr ⟨_, hs _ hm, rfl, _, rfl⟩) (fun ys news' hy hJ hs D h'' tk'' F'' N'' o1 => ?_) xs.length 0 [] news (by simp) rfl h0 fun p hp => hp
  exact hret ys news' D h'' tk'' F'' N'' hy hJ (off1 o1)
end

theorem stF (B : Below A₀ base [] h₀) (F : Fr h₀ L s.heap m) (X : (hd.heap_39 w.params).In h₀) (N : News h₀ L s.heap news)
    (T : Top hd.view_39 (looseW hd.view_39 [Str.ofString "SuggestItem"]) mean mg mb h₀)
    (hdp : dp + 100 < recursionLimit) (hun : un + 1000 < cLine)
    {ra ia : Addr} {vsR vsI : List Value} {kr ki : Nat} {ρR ρI : Value → Row} {δ : Value → Addr} {rs : List Row} (S : LawSt w m news ra ia vsR vsI kr ki ρR ρI δ rs) (hn1 : 2 ≤ rs.length) (hn2 : rs.length ≤ 6) (hb : ∀ r ∈ rs, Bnd 3 r)
    (hnext : ∀ (news' : List (Addr × Obj)) (h' : Heap) (tk' : Nat), Fr h₀ L h' m → News h₀ L h' news' → (∀ p ∈ news, p ∈ news') →
      wpAny (model Challenge.rw_fe0310_01.row.prog w) (lawA dp un gd L a ccd) (execs (lawBody.drop 8) (lawEnv L a ccd)) Q E { s with heap := h', toks := tk' }) :
    wpAny (model Challenge.rw_fe0310_01.row.prog w) (lawA dp un gd L a ccd) (execs (lawBody.drop 7) (lawEnv L a ccd)) Q E s := by
  revert X
  k_fill
  intro X
  have hmR := S.mR
  have hmI := S.mI
  have hlR := S.lR
  have hlI := S.lI
  have hlenR : vsR.length = rs.length := by rw [← S.eR, List.length_map]
  have hlenI : vsI.length = rs.length := by rw [← S.eI, List.length_map]
  show wpAny _ _ (execs (_ :: _) _) _ _ _
  k_steps
  refine Stop.mk ?_
  have hsI : ∀ v ∈ lawSort (fun a b => befR (ρI a) (ρI b)) vsI, v ∈ vsI := fun v hv => by
    rcases lawFold_mem _ _ hv with h | h
    · cases h
    · exact h
  have hsL : (lawSort (fun a b => befR (ρI a) (ρI b)) vsI).length = vsI.length := by
    have := lawFold_length (b := fun a b => befR (ρI a) (ρI b)) vsI []
    rw [List.length_nil, Nat.zero_add] at this
    exact this
  have esort : (lawSort (fun a b => befR (ρI a) (ρI b)) vsI).map (fun v => datR (ρI v)) = (lawSort (fun a b => befR (ρR a) (ρR b)) vsR).map (fun v => datR (ρR v)) := by
    have e1 := lawSort_map ρI befR vsI
    have e2 := lawSort_map ρR befR vsR
    rw [S.eI] at e1
    rw [S.eR, e1] at e2
    have e3 := congrArg (List.map datR) e2
    rw [List.map_map, List.map_map] at e3
    exact e3
  generalize hsv : lawSort (fun a b => befR (ρI a) (ρI b)) vsI = sv at *
  refine comp_list_src (h₀ := h₀) (L := L) (m := m) (xs := sv) (fun i ys news' => DatAll news' ys ((sv.take i).map fun v => datR (ρI v)) ∧ (∀ p ∈ news, p ∈ news'))
    F (by with_unfolding_all rfl) (by decide) rfl (by decide) rfl rfl ?hiter (by rw [sizeLine_eq]; omega) ?hstep ?hret
  case hiter =>
    k_steps
    refine Stop.mk ?_
    refine pysort_call (ρ := ρI) (outer := []) B F X N T rfl (by omega) (by omega) hlI (by omega) (by omega) (fun v hv => (S.tI v hv).it) (fun v hv => ?_) fun q k h2 tk2 F2 N2 l2 => ?_
    · have := (hb (ρI v) (by rw [← S.eI]; exact List.mem_map_of_mem hv)).1
      unfold BndN at this
      omega
    · rw [hsv] at N2
      exact ⟨q, h2, tk2, _, k, rfl, rfl, F2, N2, .head _, by rw [List.take_zero]; exact .nil, fun p hp => .tail _ hp⟩
  case hstep =>
    intro h' tk' i v ys news' full C oC m₂ h tk Q' E' hP hi' hC hx F2 N2 hCin hsub hJ hret
    obtain ⟨hJ1, hJ2⟩ := hJ
    obtain ⟨q, rfl, hq⟩ := (S.tI v (hsI v (List.mem_of_getElem? hP))).it
    have hq' := hq.sub fun p hp => hsub p (hJ2 p hp)
    k_steps
    rename News _ _ _ (_ :: full) => N3
    rename Fr _ _ _ _ => F3
    rename ∀ (p : Addr × Obj), p ∈ full → p.1 < _ => l3
    refine hret _ [_] _ _ F3 N3 (fun p hp q hq => by rw [List.mem_singleton.mp hp]; exact l3 q hq) ⟨?_, fun p hp => List.mem_append_right _ (hJ2 p hp)⟩
    rw [List.take_add_one, hP, List.map_append]
    exact DatAll.snoc (TpV.dat ⟨_, rfl, _, _, _, List.mem_append_left _ (.head _)⟩) (hJ1.mono fun p hp => List.mem_append_right _ hp)
  case hret =>
    intro ys news' D h' tk' F2 N2 hlen' hJ hD
    obtain ⟨hJ1, hJ2⟩ := hJ
    clear F N
    rw [List.take_length] at hJ1
    have okI : ∀ d ∈ sv.map (fun v => datR (ρI v)), kqdOk 8 d = true := fun d hd => by
      obtain ⟨v, hv, rfl⟩ := List.mem_map.mp hd
      exact kqd_datR (hb (ρI v) (by rw [← S.eI]; exact List.mem_map_of_mem (hsI v hv))).2
    have hlR2 : (ra, listOf vsR.toArray kr) ∈ (D, LCg.lst ys) :: news' := .tail _ (hJ2 _ hlR)
    k_steps
    refine Stop.mk ?_
    have hr2 : ∀ v ∈ vsR, TpV ((D, LCg.lst ys) :: news') v (ρR v) := fun v hv => (S.tR v hv).sub fun p hp => .tail _ (hJ2 p hp)
    k_dflt (refine' sorted_call (ρ := ρR) (outer := []) ?k1 ?k2 ?k3 ?k4 ?k5 ?k6 ?k7 ?k8 ?k9 ?k10 ?k11 ?_; (case k1 => exact B); (case k2 => exact F2); (case k3 => exact X); (case k4 => exact N2); (case k5 => exact T); (case k6 => exact rfl); (case k7 => omega); (case k8 => omega); (case k9 => exact hlR2); (case k10 => omega); (case k11 => exact hr2); k_whole)
    intro q k h3 tk3 F3 N3
    have dS : DatAll news ((lawSort (fun a b => befR (ρR a) (ρR b)) vsR)) ((lawSort (fun a b => befR (ρR a) (ρR b)) vsR).map (fun v => datR (ρR v))) := by
      have := TpV.dats (ρ := ρR) (vs := lawSort (fun a b => befR (ρR a) (ρR b)) vsR) fun v hv => S.tR v (by
        rcases lawFold_mem _ _ hv with h | h
        · cases h
        · exact h)
      rw [List.map_map] at this
      exact this
    have okR : ∀ d ∈ (lawSort (fun a b => befR (ρR a) (ρR b)) vsR).map (fun v => datR (ρR v)), kqdOk 8 d = true := by rw [← esort]; exact okI
    rw [← esort] at dS
    k_steps
    refine Stop.mk ?_
    refine kqd_ne N3 (.tail _ (.head _)) rfl rfl hJ1 (fun p hp => .tail _ (.tail _ hp)) (.head _) rfl rfl dS (fun p hp => .tail _ (.tail _ (hJ2 p hp))) okI okI (by show un + 64 < cLine; omega) ?_
    simp only [eq_self, decide_true, Bool.not_true]
    clear F2 N2
    show wpAny _ _ (truthy (.bool false)) _ _ _
    k_steps
    refine Stop.mk (wpAny_execs_nil ?_)
    exact hnext _ h3 _ F3 N3 fun p hp => .tail _ (.tail _ (hJ2 p hp))
end
end

section
theorem tup_eq_true {prog : Program} {w : World} {A : Around} {E : Value → Shared → Prop} {s : Shared} {h₀ : Heap} {L p q : Addr} {news : List (Addr × Obj)} {r : Row} {Q : Value → Shared → Prop} (N : News h₀ L s.heap news) (ha : TpV news (.ref p) r) (hb : TpV news (.ref q) r) (ok : PyData.strOk r.t = true) (hu : A.units + 64 < cLine) (h : Q (.bool true) s) :
    wpAny (model prog w) A (compareOp .Eq (.ref p) (.ref q)) Q E s := by
  obtain ⟨as, ra⟩ := kqd_in N 8 ha.dat (kqd_datR ok)
  obtain ⟨bs, rb⟩ := kqd_in N 8 hb.dat (kqd_datR ok)
  have la := kqd_lay 8 (datR r) (kqd_datR ok)
  have sh : SeqAt.shaped (kqdP (datR r)) = true := by
    unfold SeqAt.shaped; rw [la.1, Bool.true_and]; exact decide_eq_true (Nat.le_trans la.2 (by decide))
  refine PyProof.Rows.eq_dataH ra rb sh sh hu ?_
  rw [(kqd_eqv 8 _ _ 8 (kqd_datR ok) (kqd_datR ok)).mpr rfl]
  exact h
theorem fdiv_pick (n : Nat) (h : n ≤ 6) : ([10, 1, 0] : List Int).getD (if (n : Int) < 2 then (n : Int) else 2).toNat 0 = Int.fdiv 10 (10 ^ n) := by
  have : n = 0 ∨ n = 1 ∨ n = 2 ∨ n = 3 ∨ n = 4 ∨ n = 5 ∨ n = 6 := by omega
  rcases this with rfl | rfl | rfl | rfl | rfl | rfl | rfl <;> decide
end

section
section
variable {w : World} {mean : ExcName → Option Value} {mg mb : Str → Option Value} {dp un : Nat} {gd : Option (List Code)} {a : Addr} {ccd : Value}
  {A₀ : Around} {base h₀ : Heap} {L : Addr} {m : Str → Option Value} {news : List (Addr × Obj)} {s : Shared} {Q : Flow → Shared → Prop} {E : Value → Shared → Prop}
local macro_rules | `(tactic| k_mem) => `(tactic| first | (with_reducible assumption) | exact List.mem_cons_self | (refine List.mem_cons_of_mem _ ?_; k_mem))
local macro_rules | `(tactic| k_all) => `(tactic| with_reducible assumption)
local macro_rules | `(tactic| walk_at "call ref") => `(tactic| (k_here; (with_reducible show wpAny _ _ (call (Value.ref 113) [Value.str _ _, Value.int _ _, Value.int _ _]) _ _ _); k_dflt (refine' make_call ?k1 ?k2 ?k3 ?k4 ?k5 ?k6 ?k7 ?k8  ?_; (case k1 => k_asm); (case k2 => k_asm); (case k3 => k_asm); (case k4 => k_asm); (case k5 => k_asm); (case k6 => first | exact rfl | assumption); (case k7 => ktr_room); (case k8 => ktr_units);  k_whole); intro q9 dq9 a9 b9 c9 h9 tk9 F9 N9 l9 m9; (try dsimp only); (try k_fold)))
local macro_rules | `(tactic| walk_at "call builtin:len") => `(tactic| (k_here; (with_reducible show wpAny _ _ (call (Value.builtin "len") [Value.str _ _]) _ _ _); (refine len_writK _ rfl (by omega) ?_)))
local macro_rules | `(tactic| walk_at "binaryOp FloorDiv int int") => `(tactic| (k_here; (with_reducible show wpAny _ _ (binaryOp Operator.FloorDiv (Value.int 10 _) (Value.int (10 ^ _) _)) _ _ _); (refine floordiv_int (Int.ne_of_gt (Int.pow_pos (by decide))) ?_ (.inl (by assumption)))))
theorem create_code {outer : List Env} {cn : Str} {cs : Scope} {cl : List (Str × Addr)} (B : Below A₀ base outer h₀) (F : Fr h₀ L s.heap m) (X : (hd.heap_39 w.params).In h₀) (N : News h₀ L s.heap news)
    (T : Top hd.view_39 (looseW hd.view_39 [Str.ofString "SuggestItem"]) mean mg mb h₀)
    (hk : cs.kind = .function) (hdp : dp + 40 < recursionLimit) (hun : un + 300 < cLine)
    {t : Str} {x : Tok} {d : Int} {y : Tok} (hT : t.length ≤ 6)
    {R : Result → Shared → Prop} (hret : ∀ q dq k1 k2 k3 z h' tk', Fr h₀ L h' m → News h₀ L h' ((q, instObj 113 dq) :: (dq, itDict w k1 k2 k3 t x d y (Int.fdiv 10 (10 ^ t.length)) z) :: news) → (∀ p ∈ news, p.1 < dq) → dq < q → R (.ok (.ret (.ref q))) { s with heap := h', toks := tk' }) :
    codeAny (model Challenge.rw_fe0310_01.row.prog w) (ktrTop dp un gd cn cs L a ccd cl outer) (.call (.ref 107) ⟨[.ref 113, .str t x, .int d y], []⟩) R s := by
  revert X
  k_fill
  intro X
  have hpyl := pyl_pow _ hT
  k_dflt ktr_enter
  k_steps
  exact hret _ _ _ _ _ _ _ _ (by assumption) (by assumption) (by assumption) (by assumption)
theorem IsIt.mk {q dq : Addr} {k1 k2 k3 x y z : Tok} {t : Str} {d c : Int} (h1 : (q, instObj 113 dq) ∈ news) (h2 : (dq, itDict w k1 k2 k3 t x d y c z) ∈ news) : IsIt w news q t d c := ⟨dq, k1, k2, k3, x, y, z, h1, h2⟩
local macro_rules | `(tactic| walk_at "call ref") => `(tactic| (k_here; (with_reducible show wpAny _ _ (call (Value.ref 150) [Value.ref _]) _ _ _); k_dflt (refine' told_call ?k1 ?k2 ?k3 ?k4 ?k5 ?k6 ?k7 ?k8 ?k9 ?_; (case k1 => k_asm); (case k2 => k_asm); (case k3 => k_asm); (case k4 => k_asm); (case k5 => k_asm); (case k6 => first | exact rfl | assumption); (case k7 => ktr_room); (case k8 => ktr_units); (case k9 => exact IsIt.mk (by k_mem) (by k_mem)); k_whole); intro r9 x9 y9 z9 h9 tk9 F9 N9 l9; (try dsimp only); (try k_fold)))

local macro_rules | `(tactic| walk_at "eval Name") => `(tactic| (k_here; k_dflt (refine' nameX_L ?F ?v ?_ ?a ?b; (case F => k_asm); (case a => rfl); (case b => rfl); (case v => assumption); k_whole)))
theorem seqIndex_last {n : Nat} (h : 0 < n) : seqIndex? (-1) n = some (n - 1) := by
  unfold seqIndex?
  have h1 : (0 : Int) ≤ -1 + n := by omega
  have h2 : (-1 : Int) + n < n := by omega
  have h3 : ((-1 : Int) + n).toNat = n - 1 := by omega
  simp [h1, h2, h3]
local macro_rules | `(tactic| walk_at "call ref") => `(tactic| (k_here; k_dflt (refine' call_meth ?k1 ?k2 ?_; (case k1 => k_asm); (case k2 => k_mem); k_whole); refine Stop.out ?_))
local macro_rules | `(tactic| walk_at "compareOp Eq ref ref") => `(tactic| (refine Stop.out ?_))
local macro_rules | `(tactic| walk_at "subscriptTail Name Constant ref int") => `(tactic| (k_here; (with_reducible show wpAny _ _ (subscriptTail _ _ (Value.ref _) (Value.int _ _)) _ _ _); k_dflt (refine' item_litK ?k1 ?k2 ?k3 ?k4 ?_ ?k6; (case k1 => exact News.isList (by k_asm) (by k_mem)); (case k2 => omega); (case k3 => omega); (case k4 => assumption); (case k6 => with_unfolding_all rfl); k_whole)))
local macro_rules | `(tactic| walk_at "subscriptTail Name UnaryOp ref int") => `(tactic| (k_here; (with_reducible show wpAny _ _ (subscriptTail _ _ (Value.ref _) (Value.int _ _)) _ _ _); k_dflt (refine' kde_neg ?k1 ?k2 ?k3 ?k4 ?k5 ?_ ?k6; (case k1 => exact News.isList (by k_asm) (by k_mem)); (case k2 => decide); (case k3 => decide); (case k4 => assumption); (case k5 => assumption); (case k6 => with_unfolding_all rfl); k_whole)))

theorem stG (B : Below A₀ base [] h₀) (F : Fr h₀ L s.heap m) (X : (hd.heap_39 w.params).In h₀) (N : News h₀ L s.heap news)
    (T : Top hd.view_39 (looseW hd.view_39 [Str.ofString "SuggestItem"]) mean mg mb h₀)
    (hdp : dp + 100 < recursionLimit) (hun : un + 1000 < cLine)
    {ra ia : Addr} {vsR vsI : List Value} {kr ki : Nat} {ρR ρI : Value → Row} {δ : Value → Addr} {rs : List Row} (S : LawSt w m news ra ia vsR vsI kr ki ρR ρI δ rs) (hn1 : 2 ≤ rs.length) (hn2 : rs.length ≤ 6) (hb : ∀ r ∈ rs, Bnd 3 r)
    (hret : ∀ m' h' tk', Fr h₀ L h' m' → Q (.ret (.bool true)) { s with heap := h', toks := tk' }) :
    wpAny (model Challenge.rw_fe0310_01.row.prog w) (lawA dp un gd L a ccd) (execs (lawBody.drop 8) (lawEnv L a ccd)) Q E s := by
  revert X
  k_fill
  intro X
  have hmR := S.mR
  have hlR := S.lR
  have hlenR : vsR.length = rs.length := by rw [← S.eR, List.length_map]
  have hlast := seqIndex_last (n := vsR.length) (by omega)
  obtain ⟨v0, hv0⟩ : ∃ v, vsR[(0 : Int).toNat]? = some v := ⟨_, List.getElem?_eq_getElem (by show 0 < vsR.length; omega)⟩
  obtain ⟨v1, hv1⟩ : ∃ v, vsR[vsR.length - 1]? = some v := ⟨_, List.getElem?_eq_getElem (by omega)⟩
  obtain ⟨q0, rfl, x0, y0, z0, hq0⟩ := S.tR v0 (List.mem_of_getElem? hv0)
  obtain ⟨q1, rfl, x1, y1, z1, hq1⟩ := S.tR v1 (List.mem_of_getElem? hv1)
  have hbt := (hb (ρR (.ref q0)) (by rw [← S.eR]; exact List.mem_map_of_mem (List.mem_of_getElem? hv0))).1
  unfold BndN at hbt
  have hok := (hb (ρR (.ref q0)) (by rw [← S.eR]; exact List.mem_map_of_mem (List.mem_of_getElem? hv0))).2
  have htl : (ρR (.ref q0)).t.length ≤ 6 := by omega
  generalize (ρR (.ref q0)).t = t at *
  generalize (ρR (.ref q1)).d = d at *
  show wpAny _ _ (execs (_ :: _) _) _ _ _
  k_steps
  refine Stop.mk ?_
  rename News _ _ _ _ => N1
  rename Fr _ _ _ _ => F1
  k_dflt (refine' create_code (outer := []) ?k1 ?k2 ?k3 ?k4 ?k5 ?k6 ?k7 ?k8 ?k9 ?_; (case k1 => exact B); (case k2 => exact F1); (case k3 => exact X); (case k4 => exact N1); (case k5 => exact T); (case k6 => exact rfl); (case k7 => omega); (case k8 => omega); (case k9 => exact htl); k_whole)
  intro p dp' k1 k2 k3 z3 h3 tk3 F3 N3 l3 l4
  clear F1 N1
  dsimp only
  k_steps
  refine Stop.mk ?_
  rename News _ _ _ _ => N4
  rename Fr _ _ _ _ => F4
  rw [fdiv_pick _ htl] at N4
  refine tup_eq_true (r := ⟨t, d, Int.fdiv 10 (10 ^ t.length)⟩) N4 ⟨_, rfl, _, _, _, .tail _ (.tail _ (.head _))⟩ ⟨_, rfl, _, _, _, .head _⟩ hok (by show un + 64 < cLine; omega) ?_
  exact hret _ _ _ F4
end
end

section
section
variable {w : World} {mean : ExcName → Option Value} {mg mb : Str → Option Value} {dp un : Nat} {gd : Option (List Code)} {a : Addr} {ccd : Value}
  {A₀ : Around} {base h₀ : Heap} {L : Addr} {m : Str → Option Value} {news : List (Addr × Obj)} {s : Shared} {Q : Flow → Shared → Prop} {E : Value → Shared → Prop}
theorem rowT_ok (ns : List Int) (k : Int) : (rowT ns k).length ≤ 3 ∧ PyData.strOk (rowT ns k) = true := by
  have h1 := Int.fmod_nonneg_of_pos (numAt ns k) (b := 5) (by decide)
  have h2 := Int.fmod_lt_of_pos (numAt ns k) (b := 5) (by decide)
  unfold rowT
  generalize (numAt ns k).fmod 5 = j at *
  have : j = 0 ∨ j = 1 ∨ j = 2 ∨ j = 3 ∨ j = 4 := by omega
  rcases this with rfl | rfl | rfl | rfl | rfl
  · exact ⟨by decide, strOk_ofString _⟩
  · exact ⟨by decide, strOk_ofString _⟩
  · exact ⟨by decide, strOk_ofString _⟩
  · exact ⟨by decide, strOk_ofString _⟩
  · exact ⟨by decide, strOk_ofString _⟩
theorem rowAt_bnd (ns : List Int) (i : Nat) : Bnd 0 (rowAt ns i) := by
  have ht := rowT_ok ns (1 + 3 * (i : Int))
  refine ⟨?_, ht.2⟩
  have h1 := Int.fmod_nonneg_of_pos (numAt ns (1 + 3 * (i : Int) + 1)) (b := 4) (by decide)
  have h2 := Int.fmod_lt_of_pos (numAt ns (1 + 3 * (i : Int) + 1)) (b := 4) (by decide)
  have h3 := Int.fmod_nonneg_of_pos (numAt ns (1 + 3 * (i : Int) + 2)) (b := 7) (by decide)
  have h4 := Int.fmod_lt_of_pos (numAt ns (1 + 3 * (i : Int) + 2)) (b := 7) (by decide)
  have ht1 := ht.1
  unfold BndN rowAt
  dsimp only
  unfold rowD rowC
  refine ⟨by omega, by omega, by omega, ?_, ?_⟩
  · split <;> omega
  · split <;> omega

theorem law_walk (B : Below A₀ base [] h₀) (F : Fr h₀ L s.heap m) (X : (hd.heap_39 w.params).In h₀)
    (T : Top hd.view_39 (looseW hd.view_39 [Str.ofString "SuggestItem"]) mean mg mb h₀)
    (hdp : dp + 100 < recursionLimit) (hun : un + 1000 < cLine)
    {o1 o2 o3 : Obj} {sa : Addr} {vs : List Value} {ns : List Int} (N : News h₀ L s.heap [(L + 1 + 1 + 1, o3), (L + 1 + 1, o2), (L + 1, o1)]) {v2 v3 : Option Value} (c1 : o1.data = .cell (some (.ref sa))) (c2 : o2.data = .cell v2) (c3 : o3.data = .cell v3)
    (hl : h₀.IsList sa vs.toArray) (hi : IntsAre vs ns) (hn : ns.length ≤ 63)
    (hE : PassesOwn (model Challenge.rw_fe0310_01.row.prog w) (lawA dp un gd L a ccd) (lawEnv L a ccd) E)
    (hret : ∀ m' h' tk', Fr h₀ L h' m' → Q (.ret (.bool true)) { s with heap := h', toks := tk' }) :
    wpAny (model Challenge.rw_fe0310_01.row.prog w) (lawA dp un gd L a ccd) (execs lawBody (lawEnv L a ccd)) Q E s := by
  refine stA B F X T hdp hun N c1 c2 c3 hl hi hn fun m1 news1 ra vsR kr ρR da ws h1 tk1 F1 N1 e1 l1 t1 r1 C1 i1 d1 => ?_
  have hb := rowsN_bounds (ns.take 24)
  have hlen : (rows0 (ns.take 24)).length = rowsN (ns.take 24) := by unfold rows0; simp
  have hbnd : ∀ r ∈ rows0 (ns.take 24), Bnd 0 r := fun r hr => by
    obtain ⟨i, _, rfl⟩ := List.mem_map.mp hr
    exact rowAt_bnd _ i
  have hms : (ns.take 24).length ≤ 24 := by rw [List.length_take]; omega
  generalize rows0 (ns.take 24) = rs at *
  generalize ns.take 24 = ms at *
  refine stB (da := da) (ws := ws) (s := { s with heap := h1, toks := tk1 }) B F1 X N1 T hdp hun e1 l1 t1 r1 (by omega) fun m2 news2 ia vsI ki ρI δ h2 tk2 F2 N2 S2 sub2 => ?_
  refine stC (s := { s with heap := h2, toks := tk2 }) B F2 X N2 T hdp hun S2 (by omega) (by omega) hbnd (C1.sub sub2) d1 i1 hms hE fun m3 news3 vsR3 vsI3 kr3 ki3 ρR3 ρI3 δ3 rs3 h3 tk3 F3 N3 S3 len3 bnd3 C3 => ?_
  refine stD (s := { s with heap := h3, toks := tk3 }) B F3 X N3 T hdp hun S3 (by omega) (by omega) bnd3 fun news4 h4 tk4 F4 N4 sub4 => ?_
  have S4 : LawSt w m3 news4 ra ia vsR3 vsI3 kr3 ki3 ρR3 ρI3 δ3 rs3 := ⟨S3.mR, S3.mI, sub4 _ S3.lR, sub4 _ S3.lI, fun v hv => (S3.tR v hv).sub sub4, fun v hv => (S3.tI v hv).sub sub4, S3.eR, S3.eI, S3.inj, S3.nd, S3.ne⟩
  refine stE (s := { s with heap := h4, toks := tk4 }) B F4 X N4 T hdp hun S4 (C3.sub sub4) hE fun news5 h5 tk5 F5 N5 S5 => ?_
  refine stF (s := { s with heap := h5, toks := tk5 }) B F5 X N5 T hdp hun S5 (by omega) (by omega) bnd3 fun news6 h6 tk6 F6 N6 sub6 => ?_
  have S6 : LawSt w m3 news6 ra ia vsR3 vsI3 kr3 ki3 ρR3 ρI3 δ3 rs3 := ⟨S5.mR, S5.mI, sub6 _ S5.lR, sub6 _ S5.lI, fun v hv => (S5.tR v hv).sub sub6, fun v hv => (S5.tI v hv).sub sub6, S5.eR, S5.eI, S5.inj, S5.nd, S5.ne⟩
  exact stG (s := { s with heap := h6, toks := tk6 }) B F6 X N6 T hdp hun S6 (by omega) (by omega) bnd3 fun m' h' tk' F' => hret m' h' tk' F'
end
end

theorem fin : Challenge.rw_fe0310_01.Holds := hd (by
  k_go0
  (all_goals try k_fold)
  rename Below callerA _ [] _ => K0
  rename Fr _ _ _ _ => F0
  rename News _ _ _ _ => N0
  rename Top _ _ _ _ _ _ => T0
  rename IntsAre _ _ => hI0
  rename Heap.IsList _ _ _ => hL0
  rename Frag.In _ _ => X0
  k_dflt (refine' law_walk ?z1 ?z2 ?z3 ?z4 ?z5 ?z6 ?z7 ?z8 ?z9 ?z10 ?z11 ?z12 ?z13 ?z14 ?z15; (case z1 => exact K0); (case z2 => exact F0); (case z3 => exact X0); (case z4 => exact T0); (case z5 => decide); (case z6 => decide); (case z7 => exact N0); (case z11 => exact hL0); (case z12 => exact hI0); (case z8 => assumption); (case z9 => assumption); (case z10 => assumption); (case z13 => omega); (case z14 => passes_own))
  intro m' h' tk' F'
  k_unfold
  try dsimp only
  wrow_close)
end Mine

theorem PySem.Challenge.cw_fe0310_01_holds : PySem.Challenge.rw_fe0310_01.Holds := by
  exact Mine.fin
