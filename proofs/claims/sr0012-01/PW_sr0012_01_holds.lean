import PyProof.Rows.All
import Wide.All
import OpenK.AllK
import Wide.FinOn
import PySem.Challenge.RW_sr0012_01
open PySem PySem.W PyProof.Rows
set_option Elab.async false
set_option maxRecDepth 100000
set_option maxHeartbeats 8000000
set_option linter.unusedVariables false
open_top hd for PySem.Challenge.rw_sr0012_01
open PySem.Calls
namespace Mine
/-- the top arms of the walk, which open_top turns on for the whole process, are off in the texts built apart -/
example : True := by
  w_top off
  trivial
/-- one text before another, as the model compares them -/
abbrev slt (x y : Str) : Bool := decide (x.cps.toList < y.cps.toList)

/-- the binary look, from the right -/
def bisR (p : Int → Bool) (row : List Int) (lo hi : Nat) : Nat × List Int :=
  if h : lo < hi then
    let o := row.getD ((lo + hi) / 2) 0
    if p o then let r := bisR p row lo ((lo + hi) / 2); (r.1, o :: r.2)
    else let r := bisR p row ((lo + hi) / 2 + 1) hi; (r.1, o :: r.2)
  else (lo, [])
termination_by hi - lo
decreasing_by all_goals omega

/-- what a key function does when it is called: it says ky of the int, and turns the ledger from one that I holds of to another -/
def KeySpec (w : World) (f : Addr) (dm um lim : Nat) (I : List Int → List (Addr × Obj) → Prop) (ok : Int → Prop) (ky : Int → Str) : Prop :=
  ∀ (dp un : Nat) (gd : Option (List Code)) (cn : Str) (cs : Scope) (L a : Addr) (ccd : Value) (cl : List (Str × Addr)) (outer : List Env) (A₀ : Around) (base h₀ : Heap) (m : Str → Option Value) (p : Program) (loose : List Str) (mean : ExcName → Option Value) (mg mb : Str → Option Value)
    (news : List (Addr × Obj)) (as : List Int) (o : Int) (t : Tok) (s : Shared) (Q E : Value → Shared → Prop),
    Below A₀ base outer h₀ → Fr h₀ L s.heap m → (hd.heap_39 w.params).In h₀ → News h₀ L s.heap news → Top p loose mean mg mb h₀ → cs.kind = .function →
    dp + dm < recursionLimit → un + um < cLine → I as news → as.length < lim → ok o →
    (∀ t' h' tk' news', Fr h₀ L h' m → News h₀ L h' news' → I (as ++ [o]) news' → Q (.str (ky o) t') { s with heap := h', toks := tk' }) →
    wpAny (model PySem.Challenge.rw_sr0012_01.row.prog w) (ktrTop dp un gd cn cs L a ccd cl outer) (call (.ref f) [.int o t]) Q E s

/-- a place at which the walk stands still -/
structure Stop (P : Prop) : Prop where
  go : P
local macro_rules | `(tactic| walk_at "my_room") => `(tactic| first | ktr_room | (simp only [recursionLimit] at *; omega))
set_option hygiene false in
local macro_rules | `(tactic| walk_at "my_enter") => `(tactic| ((refine' code_def ?k1 ?k2 ?k3 ?k4 ?k5 ?kA ?kF ?kK ?k6 ?k7 ?k8 ?k9 ?kB ?_ ?c2 ?c3 ?c4 ?c5; (case kA => exact rfl); (case kF => exact rfl); (case kK => first | exact rfl | assumption); (case k1 => k_asm); (case k2 => k_asm); (case k3 => k_asm); (case k4 => k_asm); (case k5 => k_asm); (case k6 => k_is); (case k7 => k_is); (case k8 => walk_at "my_room"); (case k9 => first | exact BindsTo.of_eq rfl | exact binds_K (by k_in) rfl (by k_is) rfl rfl rfl | fail "k_enter: no rule for these arguments"); (case c5 => decide); (case kB => exact locs rfl); (case c2 => exact rfl); (case c3 => exact rfl); (case c4 => exact rfl); k_whole; intro gE LE hE FGE FE NE BE XE TE; (try dsimp only); (try k_lift BE); (try k_fold))))
local macro_rules | `(tactic| walk_at "my_val") => `(tactic| with_unfolding_all first | assumption | rfl)
set_option hygiene false in
local macro_rules | `(tactic| walk_at "my_enterC") => `(tactic| ((refine' code_defC ?k1 ?k2 ?k3 ?k4 ?k5 ?kA ?kF ?kK ?k6 ?k7 ?k8 ?k9 ?kB ?kD ?_ ?c2 ?c3 ?c4; (case kA => exact rfl); (case kF => exact rfl); (case kK => first | exact rfl | assumption); (case k1 => k_asm); (case k2 => k_asm); (case k3 => k_asm); (case k4 => k_asm); (case k5 => k_asm); (case k6 => k_is); (case k7 => k_is); (case k8 => walk_at "my_room"); (case k9 => first | exact BindsTo.of_eq rfl | exact binds_K (by k_in) rfl (by k_is) rfl rfl rfl | fail "k_enter: no rule for these arguments"); (case kB => exact rfl); (case kD => decide +kernel); (case c2 => exact rfl); (case c3 => exact rfl); (case c4 => exact rfl); k_whole; intro gE LE hE tkE cellsE FGE FE NE YE BE XE TE lE; k_cells YE; (try simp only [List.cons_append, List.nil_append] at NE); (try dsimp only); (try k_lift BE); (try k_fold))))
set_option hygiene false in
local macro_rules | `(tactic| walk_at "my_enterL") => `(tactic| (refine' kla_code ?k1 ?k2 ?k3 ?k4 ?k5 ?kA ?kF ?kK ?k6 ?k7 ?k8 ?k9 ?kB ?_ ?c2 ?c3 ?c4 ?c5; (case kA => exact rfl); (case kF => exact rfl); (case kK => first | exact rfl | assumption); (case k1 => k_asm); (case k2 => k_asm); (case k3 => k_asm); (case k4 => k_asm); (case k5 => k_asm); (case k6 => assumption); (case k7 => exact codeRec_news (by k_asm) (by assumption) (by assumption) (by assumption)); (case k8 => walk_at "my_room"); (case k9 => exact rfl); (case c5 => decide); (case kB => exact locs rfl); (case c2 => exact rfl); (case c3 => exact rfl); (case c4 => exact rfl); k_whole; intro gL LL hL FGL FL NL BL XL TL; (try dsimp only); (try k_lift BL); (try k_fold)))
local macro_rules | `(tactic| walk_at "my_steps") => `(tactic| repeat' ((fail_if_success refine Stop.mk ?_); first | (k_unfold; (try dsimp only)) | walk1 | (dsimp only; walk1) | (leave1; try dsimp only)))

section
example : PySem.Challenge.rw_sr0012_01 = PySem.Challenge.rw_sr0012_01 ∧ hd.heap_39 = hd.heap_39 := by
  k_fill
  exact ⟨rfl, rfl⟩
local macro_rules | `(tactic| walk_at "exec While Compare cons nil") => `(tactic| refine Stop.go ?_)
local macro_rules | `(tactic| walk_at "callWith ref") => `(tactic| refine Stop.go ?_)
local macro_rules | `(tactic| walk_at "And") => `(tactic| (refine And.intro (FnAt.of (by assumption) (by assumption)) ?_))
local macro_rules | `(tactic| walk_at "call ref") => `(tactic| fail)
local macro_rules | `(tactic| walk_at "Stop") => `(tactic| fail)

local macro_rules | `(tactic| walk_at "eval Name") => `(tactic| (k_here; k_dflt (refine' nameX_L ?F ?v ?_ ?a ?b; (case F => k_asm); (case a => rfl); (case b => rfl); (case v => walk_at "my_val"); k_whole)))
theorem bisR_step {p : Int → Bool} {row : List Int} {lo hi : Nat} (h : lo < hi) :
    bisR p row lo hi = (if p (row.getD ((lo + hi) / 2) 0) then ((bisR p row lo ((lo + hi) / 2)).1, row.getD ((lo + hi) / 2) 0 :: (bisR p row lo ((lo + hi) / 2)).2)
      else ((bisR p row ((lo + hi) / 2 + 1) hi).1, row.getD ((lo + hi) / 2) 0 :: (bisR p row ((lo + hi) / 2 + 1) hi).2)) := by
  rw [bisR, dif_pos h]
theorem bisR_end {p : Int → Bool} {row : List Int} {lo hi : Nat} (h : ¬ lo < hi) : bisR p row lo hi = (lo, []) := by
  rw [bisR, dif_neg h]

theorem bisR_ok {w : World} {f : Addr} {dm um lim : Nat} {I : List Int → List (Addr × Obj) → Prop} {ky : Int → Str} {ok : Int → Prop} (key : KeySpec w f dm um lim I ok ky)
  {dp un : Nat} {gd : Option (List Code)} {cn : Str} {cs : Scope} {L a : Addr} {ccd : Value} {cl : List (Str × Addr)} {outer : List Env} {A₀ : Around} {base h₀ : Heap} {m mg mb : Str → Option Value} {p : Program} {loose : List Str} {mean : ExcName → Option Value}
  {news : List (Addr × Obj)} {as : List Int} {s : Shared} {Q E : Value → Shared → Prop}
  {row : Addr} {rs : List Value} {ns : List Int} {nr : Nat} {x : Str} {hi : Nat} {tx t0 t1 : Tok} 
  (B : Below A₀ base outer h₀) (F : Fr h₀ L s.heap m) (X : (hd.heap_39 w.params).In h₀) (N : News h₀ L s.heap news) (T : Top p loose mean mg mb h₀) (hk : cs.kind = .function)
  (hdp : dp + (dm + 5) < recursionLimit) (hun : un + (um + 20) < cLine)
  (hI : I as news) (hrow : ∀ as news, I as news → (row, listOf rs.toArray nr) ∈ news) (hf : ∀ as news, I as news → ∃ name qual params body scope cl pm c' ctv, (f, kla_obj name qual params body scope cl pm c' ctv) ∈ news)
  (hi1 : IntsAre rs ns) (hok : ∀ o ∈ ns, ok o) (hhi : hi ≤ ns.length) (hns : ns.length < 100) (hlim : as.length + hi ≤ lim)
  (ret : ∀ t h' tk' news', Fr h₀ L h' m → News h₀ L h' news' → I (as ++ (bisR (fun o => slt x (ky o)) ns 0 hi).2) news' → Q (.int (bisR (fun o => slt x (ky o)) ns 0 hi).1 t) { s with heap := h', toks := tk' }) :
  wpAny (model PySem.Challenge.rw_sr0012_01.row.prog w) (ktrTop dp un gd cn cs L a ccd cl outer) (call (.ref 40) [.ref row, .str x tx, .int 0 t0, .int (hi : Nat) t1] [("key", .ref f)]) Q E s := by
  refine wpAny_call ?_
  k_dflt walk_at "my_enter"
  obtain ⟨mE, FE, e1, e2, e3, e4, e5⟩ : ∃ m', Fr gE LE hE m' ∧ m' "a" = some (.ref row) ∧ m' "x" = some (.str x tx) ∧ m' "lo" = some (.int 0 t0) ∧ m' "hi" = some (.int (hi : Nat) t1) ∧ m' "key" = some (.ref f) := ⟨_, FE, rfl, rfl, rfl, rfl, rfl⟩
  k_steps
  refine Stop.mk ?_
  refine While_inv2 (h₀ := gE) (L := LE) (m := mE) (news := news) (fun n m₁ news₁ => ∃ (lo h1 : Nat) (os : List Int) (ta tb : Tok), m₁ "lo" = some (.int lo ta) ∧ m₁ "hi" = some (.int h1 tb) ∧ m₁ "a" = some (.ref row) ∧ m₁ "x" = some (.str x tx) ∧ m₁ "key" = some (.ref f) ∧
    lo ≤ h1 ∧ h1 ≤ ns.length ∧ n = h1 - lo ∧ os.length + (h1 - lo) ≤ hi ∧ I (as ++ os) news₁ ∧ bisR (fun o => slt x (ky o)) ns 0 hi = ((bisR (fun o => slt x (ky o)) ns lo h1).1, os ++ (bisR (fun o => slt x (ky o)) ns lo h1).2)) ?kF ?kN (n₀ := hi) ?_ ?_ ?_
  case kF => exact FE
  case kN => exact NE
  · exact ⟨0, hi, [], t0, t1, e3, e4, e1, e2, e5, Nat.zero_le _, hhi, rfl, by simp, by simpa using hI, rfl⟩
  · rintro n m₁ news₁ h₁ tk₁ F₁ N₁ ⟨lo, h1, os, ta, tb, hm1, hm2, hm3, hm4, hm5, hle, hle2, hn, hol, hI', hb⟩
    clear FE NE
    k_steps
    · refine Stop.mk ?_
      rename Fr _ _ _ _ => F2
      rename News _ _ _ _ => N2
      obtain ⟨fn, fq, fp, fb, fs, fcl, fpm, fc, fct, hfm⟩ := hf _ _ hI'
      have hlt : lo < h1 := by omega
      have hfd : Int.fdiv ((lo : Int) + (h1 : Int)) 2 = (((lo + h1) / 2 : Nat) : Int) := by
        rw [Int.fdiv_eq_ediv_of_nonneg _ (by decide)]; omega
      rw [hfd] at F2
      refine callWith_F (FnAt.of N2 hfm) ?_
      obtain ⟨mF, F2, g1, g2, g3, g4, g5, g6⟩ : ∃ m', Fr gE LE _ m' ∧ m' "a" = some (.ref row) ∧ m' "x" = some (.str x tx) ∧ m' "lo" = some (.int lo ta) ∧ m' "hi" = some (.int h1 tb) ∧ m' "key" = some (.ref f) ∧ ∃ tm, m' "mid" = some (.int ((lo + h1) / 2 : Nat) tm) := ⟨_, F2, hm3, hm4, hm1, hm2, hm5, _, rfl⟩
      obtain ⟨tm, g6⟩ := g6
      k_steps
      refine item_anyK (News.isList N2 (hrow _ _ hI')) hi1 (by omega) (by omega) (by omega) (fun tv => ?_) (by with_unfolding_all rfl)
      k_steps
      refine key _ _ _ _ _ _ _ _ _ _ _ _ _ _ _ _ _ _ _ news₁ (as ++ os) _ tv _ _ _ BE F2 XE N2 TE (by rfl) (by show dp + 1 + dm < recursionLimit; omega) (by show un + 3 + um < cLine; omega) hI' (by rw [List.length_append]; omega) (hok _ ?_) ?_
      · rw [List.getD_eq_getElem?_getD, List.getElem?_eq_getElem (by omega)]
        exact List.getElem_mem _
      intro t' h2 tk2 news2 F3 N3 I3
      simp only [Int.toNat_natCast] at I3
      have hs := bisR_step (p := fun o => slt x (ky o)) (row := ns) hlt
      k_steps
      · rename (_ : List Nat) < _ => hx
        simp only [Int.toNat_natCast] at hx
        rename Fr _ _ _ _ => F4
        rename News _ _ _ _ => N4
        rw [if_pos (by simpa [slt] using hx)] at hs
        refine ⟨_, _, _, _, (lo + h1) / 2 - lo, rfl, F4, N4, by omega, lo, (lo + h1) / 2, os ++ [ns.getD ((lo + h1) / 2) 0], ta, tm, g3, rfl, g1, g2, g5, by omega, by omega, rfl, by rw [List.length_append, List.length_singleton]; omega, by rw [← List.append_assoc]; exact I3, ?_⟩
        rw [hb, hs]; simp
      · rename ¬ (_ : List Nat) < _ => hx
        simp only [Int.toNat_natCast] at hx
        rename Fr _ _ _ _ => F4
        rename News _ _ _ _ => N4
        rw [if_neg (by simpa [slt] using hx)] at hs
        refine ⟨_, _, _, _, h1 - ((lo + h1) / 2 + 1), rfl, F4, N4, by omega, (lo + h1) / 2 + 1, h1, os ++ [ns.getD ((lo + h1) / 2) 0], _, tb, rfl, g4, g1, g2, g5, by omega, by omega, rfl, by rw [List.length_append, List.length_singleton]; omega, by rw [← List.append_assoc]; exact I3, ?_⟩
        rw [hb, hs]; simp
    · rename Fr _ _ _ _ => F2
      rename News _ _ _ _ => N2
      have hge : ¬ lo < h1 := by omega
      have hee := bisR_end (p := fun o => slt x (ky o)) (row := ns) hge
      have hr := ret ta h₁ tk₁ news₁ F2 N2
      rw [hb, hee] at hr
      exact hr (by simpa using hI')
  · first | passes_own | with_unfolding_all passes_own
theorem bisRd_ok {w : World} {f : Addr} {dm um lim : Nat} {I : List Int → List (Addr × Obj) → Prop} {ky : Int → Str} {ok : Int → Prop} (key : KeySpec w f dm um lim I ok ky)
  {dp un : Nat} {gd : Option (List Code)} {cn : Str} {cs : Scope} {L a : Addr} {ccd : Value} {cl : List (Str × Addr)} {outer : List Env} {A₀ : Around} {base h₀ : Heap} {m mg mb : Str → Option Value} {p : Program} {loose : List Str} {mean : ExcName → Option Value}
  {news : List (Addr × Obj)} {as : List Int} {s : Shared} {Q E : Value → Shared → Prop}
  {row : Addr} {rs : List Value} {ns : List Int} {nr : Nat} {x : Str} {tx : Tok} 
  (B : Below A₀ base outer h₀) (F : Fr h₀ L s.heap m) (X : (hd.heap_39 w.params).In h₀) (N : News h₀ L s.heap news) (T : Top p loose mean mg mb h₀) (hk : cs.kind = .function)
  (hdp : dp + (dm + 5) < recursionLimit) (hun : un + (um + 20) < cLine)
  (hI : I as news) (hrow : ∀ as news, I as news → (row, listOf rs.toArray nr) ∈ news) (hf : ∀ as news, I as news → ∃ name qual params body scope cl pm c' ctv, (f, kla_obj name qual params body scope cl pm c' ctv) ∈ news)
  (hi1 : IntsAre rs ns) (hok : ∀ o ∈ ns, ok o) (hns : ns.length < 100) (hlim : as.length + ns.length ≤ lim)
  (ret : ∀ t h' tk' news', Fr h₀ L h' m → News h₀ L h' news' → I (as ++ (bisR (fun o => slt x (ky o)) ns 0 ns.length).2) news' → Q (.int (bisR (fun o => slt x (ky o)) ns 0 ns.length).1 t) { s with heap := h', toks := tk' }) :
  wpAny (model PySem.Challenge.rw_sr0012_01.row.prog w) (ktrTop dp un gd cn cs L a ccd cl outer) (call (.ref 40) [.ref row, .str x tx] [("key", .ref f)]) Q E s := by
  refine wpAny_call ?_
  k_dflt walk_at "my_enter"
  obtain ⟨mE, FE, e1, e2, e3, e4, e5⟩ : ∃ m', Fr gE LE hE m' ∧ m' "a" = some (.ref row) ∧ m' "x" = some (.str x tx) ∧ m' "lo" = some (.int 0 284) ∧ m' "hi" = some .none ∧ m' "key" = some (.ref f) := ⟨_, FE, rfl, rfl, rfl, rfl, rfl⟩
  have hmem := hrow _ _ hI
  k_steps
  refine len_ints_fit (News.isList NE hmem) hi1 (by omega) ?_
  k_steps
  refine Stop.mk ?_
  clear e4
  rename Fr _ _ _ _ => FE
  rename News _ _ _ _ => NE
  obtain ⟨mE', FE, t1, e1, e2, e3, e4, e5⟩ : ∃ m', Fr gE LE _ m' ∧ ∃ t1, m' "a" = some (.ref row) ∧ m' "x" = some (.str x tx) ∧ m' "lo" = some (.int 0 284) ∧ m' "hi" = some (.int (ns.length : Nat) t1) ∧ m' "key" = some (.ref f) := ⟨_, FE, _, e1, e2, e3, rfl, e5⟩
  clear hmem
  refine While_inv2 (h₀ := gE) (L := LE) (m := mE') (news := news) (fun n m₁ news₁ => ∃ (lo h1 : Nat) (os : List Int) (ta tb : Tok), m₁ "lo" = some (.int lo ta) ∧ m₁ "hi" = some (.int h1 tb) ∧ m₁ "a" = some (.ref row) ∧ m₁ "x" = some (.str x tx) ∧ m₁ "key" = some (.ref f) ∧
    lo ≤ h1 ∧ h1 ≤ ns.length ∧ n = h1 - lo ∧ os.length + (h1 - lo) ≤ ns.length ∧ I (as ++ os) news₁ ∧ bisR (fun o => slt x (ky o)) ns 0 ns.length = ((bisR (fun o => slt x (ky o)) ns lo h1).1, os ++ (bisR (fun o => slt x (ky o)) ns lo h1).2)) ?kF ?kN (n₀ := ns.length) ?_ ?_ ?_
  case kF => exact FE
  case kN => exact NE
  · exact ⟨0, ns.length, [], 284, t1, e3, e4, e1, e2, e5, Nat.zero_le _, Nat.le_refl _, rfl, by simp, by simpa using hI, rfl⟩
  · rintro n m₁ news₁ h₁ tk₁ F₁ N₁ ⟨lo, h1, os, ta, tb, hm1, hm2, hm3, hm4, hm5, hle, hle2, hn, hol, hI', hb⟩
    clear FE NE
    k_steps
    · refine Stop.mk ?_
      rename Fr _ _ _ _ => F2
      rename News _ _ _ _ => N2
      obtain ⟨fn, fq, fp, fb, fs, fcl, fpm, fc, fct, hfm⟩ := hf _ _ hI'
      have hlt : lo < h1 := by omega
      have hfd : Int.fdiv ((lo : Int) + (h1 : Int)) 2 = (((lo + h1) / 2 : Nat) : Int) := by
        rw [Int.fdiv_eq_ediv_of_nonneg _ (by decide)]; omega
      rw [hfd] at F2
      refine callWith_F (FnAt.of N2 hfm) ?_
      obtain ⟨mF, F2, g1, g2, g3, g4, g5, g6⟩ : ∃ m', Fr gE LE _ m' ∧ m' "a" = some (.ref row) ∧ m' "x" = some (.str x tx) ∧ m' "lo" = some (.int lo ta) ∧ m' "hi" = some (.int h1 tb) ∧ m' "key" = some (.ref f) ∧ ∃ tm, m' "mid" = some (.int ((lo + h1) / 2 : Nat) tm) := ⟨_, F2, hm3, hm4, hm1, hm2, hm5, _, rfl⟩
      obtain ⟨tm, g6⟩ := g6
      k_steps
      refine item_anyK (News.isList N2 (hrow _ _ hI')) hi1 (by omega) (by omega) (by omega) (fun tv => ?_) (by with_unfolding_all rfl)
      k_steps
      refine key _ _ _ _ _ _ _ _ _ _ _ _ _ _ _ _ _ _ _ news₁ (as ++ os) _ tv _ _ _ BE F2 XE N2 TE (by rfl) (by show dp + 1 + dm < recursionLimit; omega) (by show un + 3 + um < cLine; omega) hI' (by rw [List.length_append]; omega) (hok _ ?_) ?_
      · rw [List.getD_eq_getElem?_getD, List.getElem?_eq_getElem (by omega)]
        exact List.getElem_mem _
      intro t' h2 tk2 news2 F3 N3 I3
      simp only [Int.toNat_natCast] at I3
      have hs := bisR_step (p := fun o => slt x (ky o)) (row := ns) hlt
      k_steps
      · rename (_ : List Nat) < _ => hx
        simp only [Int.toNat_natCast] at hx
        rename Fr _ _ _ _ => F4
        rename News _ _ _ _ => N4
        rw [if_pos (by simpa [slt] using hx)] at hs
        refine ⟨_, _, _, _, (lo + h1) / 2 - lo, rfl, F4, N4, by omega, lo, (lo + h1) / 2, os ++ [ns.getD ((lo + h1) / 2) 0], ta, tm, g3, rfl, g1, g2, g5, by omega, by omega, rfl, by rw [List.length_append, List.length_singleton]; omega, by rw [← List.append_assoc]; exact I3, ?_⟩
        rw [hb, hs]; simp
      · rename ¬ (_ : List Nat) < _ => hx
        simp only [Int.toNat_natCast] at hx
        rename Fr _ _ _ _ => F4
        rename News _ _ _ _ => N4
        rw [if_neg (by simpa [slt] using hx)] at hs
        refine ⟨_, _, _, _, h1 - ((lo + h1) / 2 + 1), rfl, F4, N4, by omega, (lo + h1) / 2 + 1, h1, os ++ [ns.getD ((lo + h1) / 2) 0], _, tb, rfl, g4, g1, g2, g5, by omega, by omega, rfl, by rw [List.length_append, List.length_singleton]; omega, by rw [← List.append_assoc]; exact I3, ?_⟩
        rw [hb, hs]; simp
    · rename Fr _ _ _ _ => F2
      rename News _ _ _ _ => N2
      have hge : ¬ lo < h1 := by omega
      have hee := bisR_end (p := fun o => slt x (ky o)) (row := ns) hge
      have hr := ret ta h₁ tk₁ news₁ F2 N2
      rw [hb, hee] at hr
      exact hr (by simpa using hI')
  · first | passes_own | with_unfolding_all passes_own
theorem bisLd_ok {w : World} {f : Addr} {dm um lim : Nat} {I : List Int → List (Addr × Obj) → Prop} {ky : Int → Str} {ok : Int → Prop} (key : KeySpec w f dm um lim I ok ky)
  {dp un : Nat} {gd : Option (List Code)} {cn : Str} {cs : Scope} {L a : Addr} {ccd : Value} {cl : List (Str × Addr)} {outer : List Env} {A₀ : Around} {base h₀ : Heap} {m mg mb : Str → Option Value} {p : Program} {loose : List Str} {mean : ExcName → Option Value}
  {news : List (Addr × Obj)} {as : List Int} {s : Shared} {Q E : Value → Shared → Prop}
  {row : Addr} {rs : List Value} {ns : List Int} {nr : Nat} {x : Str} {tx : Tok} 
  (B : Below A₀ base outer h₀) (F : Fr h₀ L s.heap m) (X : (hd.heap_39 w.params).In h₀) (N : News h₀ L s.heap news) (T : Top p loose mean mg mb h₀) (hk : cs.kind = .function)
  (hdp : dp + (dm + 5) < recursionLimit) (hun : un + (um + 20) < cLine)
  (hI : I as news) (hrow : ∀ as news, I as news → (row, listOf rs.toArray nr) ∈ news) (hf : ∀ as news, I as news → ∃ name qual params body scope cl pm c' ctv, (f, kla_obj name qual params body scope cl pm c' ctv) ∈ news)
  (hi1 : IntsAre rs ns) (hok : ∀ o ∈ ns, ok o) (hns : ns.length < 100) (hlim : as.length + ns.length ≤ lim)
  (ret : ∀ t h' tk' news', Fr h₀ L h' m → News h₀ L h' news' → I (as ++ (bisR (fun o => !slt (ky o) x) ns 0 ns.length).2) news' → Q (.int (bisR (fun o => !slt (ky o) x) ns 0 ns.length).1 t) { s with heap := h', toks := tk' }) :
  wpAny (model PySem.Challenge.rw_sr0012_01.row.prog w) (ktrTop dp un gd cn cs L a ccd cl outer) (call (.ref 49) [.ref row, .str x tx] [("key", .ref f)]) Q E s := by
  refine wpAny_call ?_
  k_dflt walk_at "my_enter"
  obtain ⟨mE, FE, e1, e2, e3, e4, e5⟩ : ∃ m', Fr gE LE hE m' ∧ m' "a" = some (.ref row) ∧ m' "x" = some (.str x tx) ∧ m' "lo" = some (.int 0 298) ∧ m' "hi" = some .none ∧ m' "key" = some (.ref f) := ⟨_, FE, rfl, rfl, rfl, rfl, rfl⟩
  have hmem := hrow _ _ hI
  k_steps
  refine len_ints_fit (News.isList NE hmem) hi1 (by omega) ?_
  k_steps
  refine Stop.mk ?_
  clear e4
  rename Fr _ _ _ _ => FE
  rename News _ _ _ _ => NE
  obtain ⟨mE', FE, t1, e1, e2, e3, e4, e5⟩ : ∃ m', Fr gE LE _ m' ∧ ∃ t1, m' "a" = some (.ref row) ∧ m' "x" = some (.str x tx) ∧ m' "lo" = some (.int 0 298) ∧ m' "hi" = some (.int (ns.length : Nat) t1) ∧ m' "key" = some (.ref f) := ⟨_, FE, _, e1, e2, e3, rfl, e5⟩
  clear hmem
  refine While_inv2 (h₀ := gE) (L := LE) (m := mE') (news := news) (fun n m₁ news₁ => ∃ (lo h1 : Nat) (os : List Int) (ta tb : Tok), m₁ "lo" = some (.int lo ta) ∧ m₁ "hi" = some (.int h1 tb) ∧ m₁ "a" = some (.ref row) ∧ m₁ "x" = some (.str x tx) ∧ m₁ "key" = some (.ref f) ∧
    lo ≤ h1 ∧ h1 ≤ ns.length ∧ n = h1 - lo ∧ os.length + (h1 - lo) ≤ ns.length ∧ I (as ++ os) news₁ ∧ bisR (fun o => !slt (ky o) x) ns 0 ns.length = ((bisR (fun o => !slt (ky o) x) ns lo h1).1, os ++ (bisR (fun o => !slt (ky o) x) ns lo h1).2)) ?kF ?kN (n₀ := ns.length) ?_ ?_ ?_
  case kF => exact FE
  case kN => exact NE
  · exact ⟨0, ns.length, [], 298, t1, e3, e4, e1, e2, e5, Nat.zero_le _, Nat.le_refl _, rfl, by simp, by simpa using hI, rfl⟩
  · rintro n m₁ news₁ h₁ tk₁ F₁ N₁ ⟨lo, h1, os, ta, tb, hm1, hm2, hm3, hm4, hm5, hle, hle2, hn, hol, hI', hb⟩
    clear FE NE
    k_steps
    · refine Stop.mk ?_
      rename Fr _ _ _ _ => F2
      rename News _ _ _ _ => N2
      obtain ⟨fn, fq, fp, fb, fs, fcl, fpm, fc, fct, hfm⟩ := hf _ _ hI'
      have hlt : lo < h1 := by omega
      have hfd : Int.fdiv ((lo : Int) + (h1 : Int)) 2 = (((lo + h1) / 2 : Nat) : Int) := by
        rw [Int.fdiv_eq_ediv_of_nonneg _ (by decide)]; omega
      rw [hfd] at F2
      refine callWith_F (FnAt.of N2 hfm) ?_
      obtain ⟨mF, F2, g1, g2, g3, g4, g5, g6⟩ : ∃ m', Fr gE LE _ m' ∧ m' "a" = some (.ref row) ∧ m' "x" = some (.str x tx) ∧ m' "lo" = some (.int lo ta) ∧ m' "hi" = some (.int h1 tb) ∧ m' "key" = some (.ref f) ∧ ∃ tm, m' "mid" = some (.int ((lo + h1) / 2 : Nat) tm) := ⟨_, F2, hm3, hm4, hm1, hm2, hm5, _, rfl⟩
      obtain ⟨tm, g6⟩ := g6
      k_steps
      refine item_anyK (News.isList N2 (hrow _ _ hI')) hi1 (by omega) (by omega) (by omega) (fun tv => ?_) (by with_unfolding_all rfl)
      k_steps
      refine key _ _ _ _ _ _ _ _ _ _ _ _ _ _ _ _ _ _ _ news₁ (as ++ os) _ tv _ _ _ BE F2 XE N2 TE (by rfl) (by show dp + 1 + dm < recursionLimit; omega) (by show un + 3 + um < cLine; omega) hI' (by rw [List.length_append]; omega) (hok _ ?_) ?_
      · rw [List.getD_eq_getElem?_getD, List.getElem?_eq_getElem (by omega)]
        exact List.getElem_mem _
      intro t' h2 tk2 news2 F3 N3 I3
      simp only [Int.toNat_natCast] at I3
      have hs := bisR_step (p := fun o => !slt (ky o) x) (row := ns) hlt
      k_steps
      rotate_left
      · rename ¬ (_ : List Nat) < _ => hx
        simp only [Int.toNat_natCast] at hx
        rename Fr _ _ _ _ => F4
        rename News _ _ _ _ => N4
        rw [if_pos (by simpa [slt] using hx)] at hs
        refine ⟨_, _, _, _, (lo + h1) / 2 - lo, rfl, F4, N4, by omega, lo, (lo + h1) / 2, os ++ [ns.getD ((lo + h1) / 2) 0], ta, tm, g3, rfl, g1, g2, g5, by omega, by omega, rfl, by rw [List.length_append, List.length_singleton]; omega, by rw [← List.append_assoc]; exact I3, ?_⟩
        rw [hb, hs]; simp
      · rename (_ : List Nat) < _ => hx
        simp only [Int.toNat_natCast] at hx
        rename Fr _ _ _ _ => F4
        rename News _ _ _ _ => N4
        rw [if_neg (by simpa [slt] using hx)] at hs
        refine ⟨_, _, _, _, h1 - ((lo + h1) / 2 + 1), rfl, F4, N4, by omega, (lo + h1) / 2 + 1, h1, os ++ [ns.getD ((lo + h1) / 2) 0], _, tb, rfl, g4, g1, g2, g5, by omega, by omega, rfl, by rw [List.length_append, List.length_singleton]; omega, by rw [← List.append_assoc]; exact I3, ?_⟩
        rw [hb, hs]; simp
    · rename Fr _ _ _ _ => F2
      rename News _ _ _ _ => N2
      have hge : ¬ lo < h1 := by omega
      have hee := bisR_end (p := fun o => !slt (ky o) x) (row := ns) hge
      have hr := ret ta h₁ tk₁ news₁ F2 N2
      rw [hb, hee] at hr
      exact hr (by simpa using hI')
  · first | passes_own | with_unfolding_all passes_own
end

section
/-- a ledger less one address -/
def less (D : Addr) (news : List (Addr × Obj)) : List (Addr × Obj) := news.filter fun p => decide (p.1 ≠ D)
theorem less_mem {D : Addr} {news : List (Addr × Obj)} {p : Addr × Obj} : p ∈ less D news ↔ p ∈ news ∧ p.1 ≠ D := by
  simp [less]
theorem less_ne {D : Addr} {news : List (Addr × Obj)} : ∀ p ∈ less D news, p.1 ≠ D := fun p hp => (less_mem.mp hp).2
theorem less_of {D : Addr} {news : List (Addr × Obj)} {p : Addr × Obj} (h : p ∈ news) (hn : p.1 ≠ D) : p ∈ less D news := less_mem.mpr ⟨h, hn⟩

section
variable {h₀ h : Heap} {L D a b : Addr} {o o' : Obj} {m : Str → Option Value} {news : List (Addr × Obj)}
theorem news_sub {news' : List (Addr × Obj)} (N : News h₀ L h news) (hs : ∀ p ∈ news', p ∈ news) : News h₀ L h news' := fun p hp => N p (hs p hp)
theorem news_split (N : News h₀ L h news) (hm : (D, o) ∈ news) : News h₀ L h ((D, o) :: less D news) := fun p hp => by
  rcases List.mem_cons.mp hp with rfl | hp
  · exact N _ hm
  · exact N _ (less_mem.mp hp).1
theorem news_ne (N : News h₀ L h news) (ha : (a, o) ∈ news) (hb : (b, o') ∈ news) (hne : o ≠ o') : a ≠ b := fun e => by
  subst e
  have h1 := (N _ ha).1
  have h2 := (N _ hb).1
  rw [h1] at h2
  exact hne (Option.some.inj h2)
theorem news_fun (N : News h₀ L h news) (ha : (a, o) ∈ news) (hb : (a, o') ∈ news) : o = o' := by
  have h1 := (N _ ha).1
  have h2 := (N _ hb).1
  rw [h1] at h2
  exact Option.some.inj h2
theorem news_lt (N : News h₀ L h news) {p : Addr × Obj} (hp : p ∈ news) : p.1 < h.objs.size := Heap.lt_size (N p hp).1
end

section
variable {prog : Program} {w : World} {M : Model} {A : Around} {E : Value → Shared → Prop} {s : Shared} {h₀ : Heap} {L D : Addr} {m : Str → Option Value} {news : List (Addr × Obj)}
theorem append_M {its : Array Value} {n : Nat} {x : Value} {Q : Value → Shared → Prop} (F : Fr h₀ L s.heap m) (N : News h₀ L s.heap news) (hm : (D, listOf its n) ∈ news)
    (h : ∀ h' news', Fr h₀ L h' m → News h₀ L h' news' → (D, listOf (its.push x) (n + 1)) ∈ news' → (∀ p ∈ news, p.1 ≠ D → p ∈ news') → Q .none { s with heap := h' }) (hsz : its.size ≤ sizeLine) : wpAny (model prog w) A (call (.builtin "list.append") [.ref D, x]) Q E s :=
  append_K F (news_split N hm) (.head less_ne) (fun h' F' N' => h h' _ F' N' (.head _) fun p hp hn => .tail _ (less_of hp hn)) hsz
end

theorem storeX_CM {M : Model} {A : Around} {E : Value → Shared → Prop} {s : Shared} {h₀ : Heap} {L a : Addr} {m : Str → Option Value} {cn : Str} {cs : Scope} {ccd : Value} {cl : List (Str × Addr)}
  {x : Str} {v : Value} {Q : Unit → Shared → Prop} {news : List (Addr × Obj)} {c : Addr} {o : Obj} {v₀ : Option Value} (F : Fr h₀ L s.heap m) (N : News h₀ L s.heap news) (hc : cl.lookup x = some c) (hm : (c, o) ∈ news) (hd : o.data = .cell v₀)
    (h : ∀ h' news' o', Fr h₀ L h' m → News h₀ L h' news' → (c, o') ∈ news' → o'.data = .cell (some v) → (∀ p ∈ news, p.1 ≠ c → p ∈ news') → Q () { s with heap := h' })
    (hk : cs.kind = .function) (hx : (envX cn cs L a ccd cl).kindOf x = some .cell) : wpAny M A (storeName (envX cn cs L a ccd cl) x v) Q E s :=
  storeX_C F (news_split N hm) hc (.head less_ne) hd (fun h' o' F' N' d' => h h' _ o' F' N' (.head _) d' fun p hp hn => .tail _ (less_of hp hn)) hk hx
theorem allLt_mem {d : Addr} {l : List (Addr × Obj)} (h : AllLt d l) : ∀ p ∈ l, p.1 < d := by
  induction l with
  | nil => intro p hp; cases hp
  | cons q r ih =>
    intro p hp
    have h2 : @LT.lt Nat _ q.1 d ∧ AllLt d r := h
    rcases List.mem_cons.mp hp with e | hp
    · rw [e]; exact h2.1
    · exact ih h2.2 p hp
theorem sz_of {n : Nat} (h : n < 100000) : n ≤ sizeLine := by
  rw [PySem.sizeLine_eq]; omega

/-- the asked pairs, each a list of two ints of its own -/
inductive PairsAt (news : List (Addr × Obj)) : List Addr → List (Int × Int) → Prop
  | nil : PairsAt news [] []
  | cons {a : Addr} {i j : Int} {t u : Tok} {n : Nat} {as : List Addr} {ps : List (Int × Int)} : (a, listOf #[.int i t, .int j u] n) ∈ news → PairsAt news as ps → PairsAt news (a :: as) ((i, j) :: ps)
theorem PairsAt.mono {news news' : List (Addr × Obj)} {as : List Addr} {ps : List (Int × Int)} (h : PairsAt news as ps) (hs : ∀ p ∈ news, p.1 ∈ as → p ∈ news') : PairsAt news' as ps := by
  induction h with
  | nil => exact .nil
  | cons hm _ ih => exact .cons (hs _ hm (.head _)) (ih fun p hp ha => hs p hp (.tail _ ha))
theorem PairsAt.snoc {news : List (Addr × Obj)} {as : List Addr} {ps : List (Int × Int)} {a : Addr} {i j : Int} {t u : Tok} {n : Nat} (h : PairsAt news as ps) (hm : (a, listOf #[.int i t, .int j u] n) ∈ news) : PairsAt news (as ++ [a]) (ps ++ [(i, j)]) := by
  induction h with
  | nil => exact .cons hm .nil
  | cons h1 _ ih => exact .cons h1 ih
theorem PairsAt.length {news : List (Addr × Obj)} {as : List Addr} {ps : List (Int × Int)} (h : PairsAt news as ps) : as.length = ps.length := by
  induction h with
  | nil => rfl
  | cons _ _ ih => simp [ih]

theorem PairsAt.mem {news : List (Addr × Obj)} {as : List Addr} {ps : List (Int × Int)} (h : PairsAt news as ps) : ∀ a ∈ as, ∃ its n, (a, listOf its n) ∈ news := by
  induction h with
  | nil => intro a ha; cases ha
  | cons hm _ ih =>
    intro a ha
    rcases List.mem_cons.mp ha with rfl | ha
    · exact ⟨_, _, hm⟩
    · exact ih a ha

/-- a def's table of codes: empty, or it holds one lambda's code -/
def TabOk (news : List (Addr × Obj)) (line col : Nat) (qual : Str) (ps : Array Value) : Prop :=
  ps = #[] ∨ ∃ c' oc vs t, ps = #[rawInt line, rawInt col, .ref c'] ∧ (c', oc) ∈ news ∧ oc.data = .fields vs ∧ vs[1]? = some (.str qual t)
theorem TabOk.mono {news news' : List (Addr × Obj)} {line col : Nat} {qual : Str} {ps : Array Value} (h : TabOk news line col qual ps) (hs : ∀ p ∈ news, (∃ vs q t, p.2.data = .fields vs ∧ vs[1]? = some (.str q t)) → p ∈ news') : TabOk news' line col qual ps := by
  rcases h with h | ⟨c', oc, vs, t, h1, h2, h3, h4⟩
  · exact .inl h
  · exact .inr ⟨c', oc, vs, t, h1, hs _ h2 ⟨vs, _, _, h3, h4⟩, h3, h4⟩

section
variable {M : Model} {A : Around} {E : Value → Shared → Prop} {s : Shared} {h₀ : Heap} {L a c P : Addr} {m mg mb : Str → Option Value} {cn : Str} {cs : Scope} {cl : List (Str × Addr)} {news : List (Addr × Obj)}
  {p : Program} {loose : List Str} {mean : ExcName → Option Value} {params : Arguments} {body : PySem.Expr} {scope : Scope} {ps : Array Value} {pos : Pos} {clos : List (Str × Addr)}
/-- the table is as it was, or the code in it is new -/
def TabOld (ps ps' : Array Value) (news : List (Addr × Obj)) : Prop := ps' = ps ∨ ∀ x y c', ps' = #[x, y, .ref c'] → ∀ q ∈ news, q.1 < c'
/-- a lambda is made: its code is in the table, or it comes there -/
theorem kla_tab {Q : Value → Shared → Prop} (F : Fr h₀ L s.heap m) (N : News h₀ L s.heap news) (T : Top p loose mean mg mb h₀) (C : CodeHd h₀ c P) (hP : (P, tabObj ps) ∈ news)
    (hT : TabOk news pos.line pos.col ((envX cn cs L a (.ref c) cl).qual ++ "<lambda>") ps)
    (hd : defaultsOf params (envX cn cs L a (.ref c) cl) = ([], [])) (hcl : closureFor scope (envX cn cs L a (.ref c) cl) = pure clos)
    (h : ∀ f c' oc vs t ctv h' tk news', Fr h₀ L h' m → News h₀ L h' news' → (∀ q ∈ news, q.1 ≠ P → q ∈ news') → (P, tabObj #[rawInt pos.line, rawInt pos.col, .ref c']) ∈ news' →
      (f, kla_obj "<lambda>" ((envX cn cs L a (.ref c) cl).qual ++ "<lambda>") params body scope clos ((mg "__name__").getD .none) c' ctv) ∈ news' → (c', oc) ∈ news' → oc.data = .fields vs → vs[1]? = some (.str ((envX cn cs L a (.ref c) cl).qual ++ "<lambda>") t) →
      (∀ q ∈ news, q.1 < f) → TabOld ps #[rawInt pos.line, rawInt pos.col, .ref c'] news → Q (.ref f) { s with heap := h', toks := tk }) :
    wpAny M A (eval (.Lambda params body scope pos) (envX cn cs L a (.ref c) cl)) Q E s := by
  refine kla_eval hd ?_
  rcases hT with rfl | ⟨c', oc, vs, t, rfl, hm, hoc, hv⟩
  · refine kla_nest F (news_split N hP) T C rfl (.head less_ne) trivial rfl hcl ?_
    intro f c' oc vs t ctv h' tk F' N' d1 d2 l1 l2
    have l3 : ∀ q ∈ news, q.1 < c' := fun q hq => by
      by_cases e : q.1 = P
      · have := l1 (P, tabObj #[]) (.head _)
        rw [e]; exact this
      · exact l1 q (.tail _ (less_of hq e))
    exact h f c' oc vs t ctv h' tk _ F' N' (fun q hq hn => .tail _ (.tail _ (.tail _ (less_of hq hn)))) (.tail _ (.tail _ (.head _))) (.head _) (.tail _ (.head _)) d1 d2 (fun q hq => Nat.lt_trans (l3 q hq) l2) (.inr fun x y d e => by
      injection e with e
      injection e with _ e
      injection e with _ e
      injection e with e _
      injection e with e
      rw [← e]; exact l3)
  · refine kla_hit (c' := c') F N T C rfl hP (by simp [TriplesOk, rawInt]) (by simp [codeAmong, rawInt]) hcl ?_
    intro f ctv h' tk F' N' l1
    exact h f c' oc vs t ctv h' tk _ F' N' (fun q hq _ => .tail _ hq) (.tail _ hP) (.head _) (.tail _ hm) hoc hv l1 (.inl rfl)
end
end

section
local macro_rules | `(tactic| walk_at "eval Name") => `(tactic| (k_here; k_dflt (refine' nameX_L ?F ?v ?_ ?a ?b; (case F => k_asm); (case a => rfl); (case b => rfl); (case v => walk_at "my_val"); k_whole)))
local macro_rules | `(tactic| walk_at "call ref") => `(tactic| refine Stop.go ?_)
local macro_rules | `(tactic| walk_at "Stop") => `(tactic| fail)

def mkPair (one o : Int) : Int × Int := if one ≤ o then (one, o) else (o, one)
/-- the names' list: a text for each number below n -/
def NamesAre (vs : List Value) (n : Nat) (nmf : Nat → Str) : Prop := vs.length = n ∧ ∀ i < n, ∃ t, vs[i]? = some (.str (nmf i) t)

theorem two_sorted {v' : List Value} {n' : List Int} {one o : Int} (hi : IntsAre v' n') (hp : n'.Perm [one, o]) (ho : n'.Pairwise (· ≤ ·)) : ∃ t u, v' = [.int (mkPair one o).1 t, .int (mkPair one o).2 u] := by
  have hn : n' = [(mkPair one o).1, (mkPair one o).2] := by
    have h2 : List.Perm [(mkPair one o).1, (mkPair one o).2] [one, o] := by
      unfold mkPair
      split
      · exact List.Perm.refl _
      · exact List.Perm.swap _ _ _
    have h3 : List.Pairwise (· ≤ ·) [(mkPair one o).1, (mkPair one o).2] := by
      unfold mkPair
      split <;> simp <;> omega
    exact List.Perm.eq_of_pairwise (le := (· ≤ ·)) (fun a b _ _ h1 h2 => Int.le_antisymm h1 h2) ho h3 (hp.trans h2.symm)
  subst hn
  cases hi with
  | cons i t h => cases h with
    | cons j u h => cases h; exact ⟨_, _, rfl⟩

theorem place_ok {w : World} {dp un : Nat} {gd : Option (List Code)} {cn : Str} {cs : Scope} {L a : Addr} {ccd : Value} {cl : List (Str × Addr)} {outer : List Env} {A₀ : Around} {base h₀ : Heap} {m mg mb : Str → Option Value} {news : List (Addr × Obj)} {s : Shared} {Q E : Value → Shared → Prop} {p : Program} {loose : List Str} {mean : ExcName → Option Value}
  {askA row nm : Addr} {addrs : List Addr} {rs vsN : List Value} {nq nr nn N : Nat} {ps : Array Value} {one : Int} {hi : Nat} {t1 t2 : Tok} {ns : List Int} {pairs : List (Int × Int)} {nmf : Nat → Str}
  (B : Below A₀ base outer h₀) (F : Fr h₀ L s.heap m) (X : (hd.heap_39 w.params).In h₀) (N0 : News h₀ L s.heap news) (T : Top p loose mean mg mb h₀) (C : CodeHd h₀ 104 100) (hk : cs.kind = .function)
  (hdp : dp + 20 < recursionLimit) (hun : un + 90 < cLine)
  (hrow : (row, listOf rs.toArray nr) ∈ news) (hnm : (nm, listOf vsN.toArray nn) ∈ news) (hask : (askA, listOf (addrs.map Value.ref).toArray nq) ∈ news) (htab : (100, tabObj ps) ∈ news)
  (hT : TabOk news 73 54 "_law_place.<locals>.<lambda>" ps) (hP : PairsAt news addrs pairs) (hrs : IntsAre rs ns) (hnames : NamesAre vsN N nmf) (hone : 0 ≤ one ∧ one < N) (hns : ∀ o ∈ ns, 0 ≤ o ∧ o < N)
  (hhi : hi ≤ ns.length) (hlen : ns.length < 100) (hlen2 : addrs.length < 1000) (hN : N < 1000)
  (hd1 : row ≠ askA) (hd2 : nm ≠ askA) (hd3 : ∀ a ∈ addrs, a ≠ askA)
  (ret : ∀ new t h' tk' news' nq' ps', Fr h₀ L h' m → News h₀ L h' news' → (∀ q ∈ news, q.1 ≠ askA → q.1 ≠ 100 → q ∈ news') → (askA, listOf ((addrs ++ new).map Value.ref).toArray nq') ∈ news' → (100, tabObj ps') ∈ news' →
    TabOk news' 73 54 "_law_place.<locals>.<lambda>" ps' → PairsAt news' (addrs ++ new) (pairs ++ (bisR (fun o => slt (nmf one.toNat) (nmf o.toNat)) ns 0 hi).2.map (mkPair one)) → (∀ a ∈ new, ∀ q ∈ news, q.1 < a) →
    TabOld ps ps' news → Q (.int (bisR (fun o => slt (nmf one.toNat) (nmf o.toNat)) ns 0 hi).1 t) { s with heap := h', toks := tk' })
  : wpAny (model PySem.Challenge.rw_sr0012_01.row.prog w) (ktrTop dp un gd cn cs L a ccd cl outer) (call (.ref 105) [.ref row, .int one t1, .ref nm, .int (hi : Nat) t2, .ref askA]) Q E s := by
  obtain ⟨tx, hx⟩ := hnames.2 one.toNat (by omega)
  refine wpAny_call ?_
  k_dflt walk_at "my_enterC"
  obtain ⟨mE, FE, e1, e2⟩ : ∃ m', Fr gE LE hE m' ∧ m' "row" = some (.ref row) ∧ m' "high" = some (.int (hi : Nat) t2) := ⟨_, FE, rfl, rfl⟩
  rename_i o1 o2 o3 d1 d2 d3
  replace d1 : o1.data = .cell (some (.ref askA)) := d1
  replace d2 : o2.data = .cell (some (.ref nm)) := d2
  replace d3 : o3.data = .cell (some (.int one t1)) := d3
  k_steps
  refine item_litK (News.isList NE (.tail _ (.tail _ (.tail _ hnm)))) hone.1 (by omega) hx ?_ (by with_unfolding_all rfl)
  k_steps
  refine kla_tab FE NE TE (C.keeps FGE.keep) (.tail _ (.tail _ (.tail _ htab))) (hT.mono (fun p hp _ => .tail _ (.tail _ (.tail _ hp)))) rfl rfl ?_
  intro f c' oc vs t ctv h1 tk1 news1 F1 N1 hkeep htab1 hf1 hc1 hcd hcv hlt1 hold1
  k_steps
  refine Stop.mk ?_
  have hLA := ltN (lE _ hask)
  have hL1 := ltN (lE _ htab)
  dsimp only at hLA hL1
  have hn100 : askA ≠ 100 := news_ne N0 hask htab (fun e => by cases e)
  have hnm100 : nm ≠ 100 := news_ne N0 hnm htab (fun e => by cases e)
  have hrow100 : row ≠ 100 := news_ne N0 hrow htab (fun e => by cases e)
  have m1 : (LE + 1 + 1 + 1, o1) ∈ news1 := hkeep _ (.head _) (neN (a := LE + 1 + 1 + 1) (b := 100) (by omega))
  have m2 : (LE + 1 + 1, o2) ∈ news1 := hkeep _ (.tail _ (.head _)) (neN (a := LE + 1 + 1) (b := 100) (by omega))
  have m3 : (LE + 1, o3) ∈ news1 := hkeep _ (.tail _ (.tail _ (.head _))) (neN (a := LE + 1) (b := 100) (by omega))
  have mA := hkeep _ (.tail _ (.tail _ (.tail _ hask))) hn100
  have mN := hkeep _ (.tail _ (.tail _ (.tail _ hnm))) hnm100
  have mR := hkeep _ (.tail _ (.tail _ (.tail _ hrow))) hrow100
  have hfA : f ≠ askA := fun e => by have := ltN (hlt1 _ (.tail _ (.tail _ (.tail _ hask)))); dsimp only at this e; rw [e] at this; omega
  have hcA : c' ≠ askA := news_ne N1 hc1 mA (fun e => by rw [e] at hcd; cases hcd)
  have key : KeySpec w f 5 40 100 (fun as nw => ∃ new nq, (∀ q ∈ news1, q.1 ≠ askA → q ∈ nw) ∧ (askA, listOf ((addrs ++ new).map Value.ref).toArray nq) ∈ nw ∧ PairsAt nw (addrs ++ new) (pairs ++ as.map (mkPair one)) ∧ (∀ a ∈ new, ∀ q ∈ news1, q.1 < a) ∧ new.length = as.length)
      (fun o => 0 ≤ o ∧ o < N) (fun o => nmf o.toNat) := by
    intro dp2 un2 gd2 cn2 cs2 L2 a2 ccd2 cl2 outer2 A2 base2 h2 m2' p2 loose2 mean2 mg2 mb2 nw as o t s2 Q2 E2 B2 F2 X2 N2 T2 hk2 hdp2 hun2 hI hlm2 hok2 ret2
    obtain ⟨new, nq2, hI1, hI2, hI3, hI4, hI5⟩ := hI
    have n1 : (LE + 1 + 1 + 1, o1) ∈ nw := hI1 _ m1 (neN (a := LE + 1 + 1 + 1) (b := askA) (by omega))
    have n2 : (LE + 1 + 1, o2) ∈ nw := hI1 _ m2 (neN (a := LE + 1 + 1) (b := askA) (by omega))
    have n3 : (LE + 1, o3) ∈ nw := hI1 _ m3 (neN (a := LE + 1) (b := askA) (by omega))
    obtain ⟨to, hxo⟩ := hnames.2 o.toNat (by omega)
    have nf := hI1 _ hf1 hfA
    have nc := hI1 _ hc1 hcA
    refine wpAny_call ?_
    k_dflt walk_at "my_enterL"
    obtain ⟨mL, FL, g1⟩ : ∃ m', Fr gL LL hL m' ∧ m' "other" = some (.int o t) := ⟨_, FL, rfl⟩
    k_steps
    rename Fr _ _ _ _ => F3
    rename News _ _ _ _ => N3
    rename IntsAre _ _ => i3
    rename List.Pairwise _ _ => s3
    rename List.Perm _ _ => p3
    rename_i lA hA l1A DA vA nA cA hA3 eA pA l1D bA sA tA
    obtain ⟨ta, tb, rfl⟩ := two_sorted i3 p3 s3
    refine append_M F3 N3 (.tail _ (.tail _ hI2)) ?_ (sz_of (by simp only [List.size_toArray, List.length_map, List.length_append]; omega))
    intro h4 news4 F4 N4 ha4 hk4
    have n2' : (LE + 1 + 1, o2) ∈ news4 := hk4 _ (.tail _ (.tail _ n2)) (neN (a := LE + 1 + 1) (b := askA) (by omega))
    have nm' : (nm, listOf vsN.toArray nn) ∈ news4 := hk4 _ (.tail _ (.tail _ (hI1 _ mN hd2))) hd2
    k_steps
    refine item_litK (News.isList N4 nm') hok2.1 (by omega) hxo ?_ (by with_unfolding_all rfl)
    k_steps
    rename Fr _ _ _ _ => F5
    rename News _ _ _ _ => N5
    have hDA : ∀ p ∈ nw, p.1 < DA := allLt_mem l1D.2
    have hDask : DA ≠ askA := fun e => by have := ltN (hDA _ hI2); dsimp only at this e; rw [e] at this; omega
    have hD : (DA, listOf #[Value.int (mkPair one o).1 ta, Value.int (mkPair one o).2 tb] cA) ∈ news4 := hk4 _ (.head _) hDask
    refine ret2 _ _ _ _ F5 N5 ⟨new ++ [DA], nq2 + 1, fun q hq hn => .tail _ (hk4 _ (.tail _ (.tail _ (hI1 q hq hn))) hn), ?_, ?_, ?_, by simp [hI5]⟩
    · refine .tail _ ?_
      have e : ((addrs ++ (new ++ [DA])).map Value.ref).toArray = ((addrs ++ new).map Value.ref).toArray.push (.ref DA) := by simp
      rw [e]; exact ha4
    · rw [List.map_append, ← List.append_assoc, ← List.append_assoc, List.map_singleton]
      refine PairsAt.snoc (PairsAt.mono hI3 fun q hq ha => .tail _ (hk4 _ (.tail _ (.tail _ hq)) ?_)) (.tail _ hD)
      rcases List.mem_append.mp ha with ha | ha
      · exact hd3 _ ha
      · intro e
        have := ltN (hI4 _ ha _ mA)
        dsimp only at this
        rw [e] at this; omega
    · intro b hb q hq
      rcases List.mem_append.mp hb with hb | hb
      · exact hI4 b hb q hq
      · rw [List.mem_singleton.mp hb]
        by_cases e : q.1 = askA
        · rw [e]; exact hDA _ hI2
        · exact hDA _ (hI1 q hq e)
  have hP100 : ∀ b ∈ addrs, b ≠ 100 := fun b hb => by
    obtain ⟨its, n9, hm9⟩ := hP.mem b hb
    exact news_ne N0 hm9 htab (fun e => by cases e)
  have hI0 : ∃ new nq, (∀ q ∈ news1, q.1 ≠ askA → q ∈ news1) ∧ (askA, listOf ((addrs ++ new).map Value.ref).toArray nq) ∈ news1 ∧ PairsAt news1 (addrs ++ new) (pairs ++ ([] : List Int).map (mkPair one)) ∧ (∀ a ∈ new, ∀ q ∈ news1, q.1 < a) ∧ new.length = ([] : List Int).length :=
    ⟨[], nq, fun _ h _ => h, by simpa using mA, by simpa using hP.mono (fun q hq ha => hkeep _ (.tail _ (.tail _ (.tail _ hq))) (hP100 _ ha)), (by intro b hb; cases hb), rfl⟩
  refine bisR_ok key BE F1 XE N1 TE (by rfl) (by show dp + 1 + (5 + 5) < recursionLimit; omega) (by show un + 3 + (40 + 20) < cLine; omega) hI0 (fun as nw ⟨_, _, hh, _⟩ => hh _ mR hd1) (fun as nw ⟨_, _, hh, _⟩ => ⟨_, _, _, _, _, _, _, _, _, hh _ hf1 hfA⟩) hrs hns hhi hlen (by simp; omega) ?_
  intro t' h' tk' news' F6 N6 hI6
  obtain ⟨new, nq6, hJ1, hJ2, hJ3, hJ4, hJ5⟩ := hI6
  k_steps
  rename Fr h₀ _ _ _ => F7
  rename News h₀ _ _ _ => N7
  refine ret new _ _ _ news' nq6 _ F7 N7 (fun q hq ha hb => hJ1 _ (hkeep _ (.tail _ (.tail _ (.tail _ hq))) hb) ha) hJ2 (hJ1 _ htab1 hn100.symm) (.inr ⟨c', oc, vs, t, rfl, hJ1 _ hc1 hcA, hcd, hcv⟩) (by simpa using hJ3) ?_ (hold1.imp id fun hh x y d e q hq => hh x y d e q (.tail _ (.tail _ (.tail _ hq))))
  intro b hb q hq
  by_cases e : q.1 = 100
  · exact Nat.lt_trans (by rw [e]; exact hL1) (Nat.lt_trans (by omega) (hJ4 b hb _ m3))
  · exact hJ4 b hb _ (hkeep _ (.tail _ (.tail _ (.tail _ hq))) e)
end

section
theorem bisR_len (p : Int → Bool) (row : List Int) : ∀ k lo hi, hi - lo < 2 ^ k → (bisR p row lo hi).2.length ≤ k := by
  intro k
  induction k with
  | zero => intro lo hi h; rw [bisR_end (by simp at h; omega)]; exact Nat.le_refl _
  | succ k ih =>
    intro lo hi h
    rw [Nat.pow_succ] at h
    by_cases hl : lo < hi
    · rw [bisR_step hl]
      split
      · exact Nat.succ_le_succ (ih _ _ (by omega))
      · exact Nat.succ_le_succ (ih _ _ (by omega))
    · rw [bisR_end hl]; exact Nat.zero_le _
theorem bisR_mem (p : Int → Bool) (row : List Int) : ∀ n lo hi, hi - lo = n → ∀ o ∈ (bisR p row lo hi).2, ∃ j, lo ≤ j ∧ j < hi ∧ row.getD j 0 = o := by
  intro n
  induction n using Nat.strongRecOn with
  | ind n ih =>
    intro lo hi hn o ho
    by_cases hl : lo < hi
    · rw [bisR_step hl] at ho
      split at ho
      · rcases List.mem_cons.mp ho with rfl | ho
        · exact ⟨_, by omega, by omega, rfl⟩
        · obtain ⟨j, h1, h2, h3⟩ := ih ((lo + hi) / 2 - lo) (by omega) lo ((lo + hi) / 2) rfl o ho
          exact ⟨j, h1, by omega, h3⟩
      · rcases List.mem_cons.mp ho with rfl | ho
        · exact ⟨_, by omega, by omega, rfl⟩
        · obtain ⟨j, h1, h2, h3⟩ := ih (hi - ((lo + hi) / 2 + 1)) (by omega) ((lo + hi) / 2 + 1) hi rfl o ho
          exact ⟨j, by omega, h2, h3⟩
    · rw [bisR_end hl] at ho; cases ho
theorem getD_inj {row : List Int} (hn : row.Nodup) {i j : Nat} (hi : i < row.length) (hj : j < row.length) (h : row.getD i 0 = row.getD j 0) : i = j := by
  rw [List.getD_eq_getElem?_getD, List.getD_eq_getElem?_getD, List.getElem?_eq_getElem hi, List.getElem?_eq_getElem hj] at h
  have hp := List.pairwise_iff_getElem.mp (List.nodup_iff_pairwise_ne.mp hn)
  replace h : row[i] = row[j] := h
  rcases Nat.lt_trichotomy i j with h1 | h1 | h1
  · exact absurd h (hp i j hi hj h1)
  · exact h1
  · exact absurd h.symm (hp j i hj hi h1)
theorem bisR_nodup (p : Int → Bool) {row : List Int} (hr : row.Nodup) : ∀ n lo hi, hi - lo = n → hi ≤ row.length → (bisR p row lo hi).2.Nodup := by
  intro n
  induction n using Nat.strongRecOn with
  | ind n ih =>
    intro lo hi hn hh
    by_cases hl : lo < hi
    · rw [bisR_step hl]
      split
      · refine List.nodup_cons.mpr ⟨fun ho => ?_, ih ((lo + hi) / 2 - lo) (by omega) _ _ rfl (by omega)⟩
        obtain ⟨j, h1, h2, h3⟩ := bisR_mem p row _ _ _ rfl _ ho
        have := getD_inj hr (by omega) (by omega) h3
        omega
      · refine List.nodup_cons.mpr ⟨fun ho => ?_, ih (hi - ((lo + hi) / 2 + 1)) (by omega) _ _ rfl (by omega)⟩
        obtain ⟨j, h1, h2, h3⟩ := bisR_mem p row _ _ _ rfl _ ho
        have := getD_inj hr (by omega) (by omega) h3
        omega
    · rw [bisR_end hl]; exact List.nodup_nil
theorem bisR_cut (p : Int → Bool) (row : List Int) : ∀ n lo hi, hi - lo = n → lo ≤ hi → (∀ i j, lo ≤ i → i ≤ j → j < hi → p (row.getD i 0) = true → p (row.getD j 0) = true) →
    lo ≤ (bisR p row lo hi).1 ∧ (bisR p row lo hi).1 ≤ hi ∧ (∀ j, lo ≤ j → j < (bisR p row lo hi).1 → p (row.getD j 0) = false) ∧ (∀ j, (bisR p row lo hi).1 ≤ j → j < hi → p (row.getD j 0) = true) := by
  intro n
  induction n using Nat.strongRecOn with
  | ind n ih =>
    intro lo hi hn hle mono
    by_cases hl : lo < hi
    · rw [bisR_step hl]
      split
      · rename_i hp
        obtain ⟨h1, h2, h3, h4⟩ := ih ((lo + hi) / 2 - lo) (by omega) lo ((lo + hi) / 2) rfl (by omega) (fun i j a b c => mono i j a b (by omega))
        refine ⟨h1, Nat.le_trans h2 (by omega), h3, fun j a b => ?_⟩
        by_cases hj : j < (lo + hi) / 2
        · exact h4 j a hj
        · exact mono _ j (by omega) (by omega) b hp
      · rename_i hp
        have hp : p (row.getD ((lo + hi) / 2) 0) = false := by simpa using hp
        obtain ⟨h1, h2, h3, h4⟩ := ih (hi - ((lo + hi) / 2 + 1)) (by omega) ((lo + hi) / 2 + 1) hi rfl (by omega) (fun i j a b c => mono i j (by omega) b c)
        refine ⟨Nat.le_trans (by omega) h1, h2, fun j a b => ?_, h4⟩
        by_cases hj : (lo + hi) / 2 + 1 ≤ j
        · exact h3 j hj b
        · cases hq : p (row.getD j 0) with
          | false => rfl
          | true => rw [mono j _ a (by omega) (by omega) hq] at hp; cases hp
    · rw [bisR_end hl]
      exact ⟨Nat.le_refl _, hle, fun j a b => absurd b (by omega), fun j a b => absurd b (by omega)⟩

theorem mkPair_lt {a b : Int} (h : a ≠ b) : (mkPair a b).1 < (mkPair a b).2 := by unfold mkPair; split <;> simp <;> omega
theorem mkPair_comm (a b : Int) : mkPair a b = mkPair b a := by
  unfold mkPair; split <;> split <;> first | rfl | (simp; omega)
theorem mkPair_mem (a b : Int) : ((mkPair a b).1 = a ∧ (mkPair a b).2 = b) ∨ ((mkPair a b).1 = b ∧ (mkPair a b).2 = a) := by
  unfold mkPair; split <;> simp
theorem mkPair_inj {a b c : Int} (h : mkPair a b = mkPair a c) : b = c := by
  unfold mkPair at h; split at h <;> split at h <;> simp at h <;> omega

/-- the chain while the others are let in: R are those that wait, each with the one that it may not pass (or -1) -/
structure MInv (val : Int → Nat) (tl greater : List Int) (chain : List Int) (R asks : List (Int × Int)) : Prop where
  sorted : chain.Pairwise fun a b => val a ≤ val b
  perm : (chain ++ R.map (·.1)).Perm tl
  sub : greater.Sublist chain
  above : ∀ x ∈ R, x.2 = -1 ∨ (x.2 ∈ greater ∧ val x.1 ≤ val x.2)
  only : ∀ x ∈ R, ∀ p ∈ asks, (p.1 = x.1 ∨ p.2 = x.1) → x.2 ≠ -1 ∧ p = mkPair x.1 x.2
  inTl : ∀ p ∈ asks, p.1 ∈ tl ∧ p.2 ∈ tl ∧ p.1 < p.2
  nodup : asks.Nodup
def highOf (chain : List Int) (x : Int × Int) : Nat := if x.2 = -1 then chain.length else chain.idxOf x.2
theorem highOf_le (chain : List Int) (x : Int × Int) : highOf chain x ≤ chain.length := by
  unfold highOf; split
  · exact Nat.le_refl _
  · exact List.idxOf_le_length
theorem MInv.nodupC {val : Int → Nat} {tl greater chain : List Int} {R asks : List (Int × Int)} (h : MInv val tl greater chain R asks) (hn : tl.Nodup) : (chain ++ R.map (·.1)).Nodup := (List.Perm.nodup_iff h.perm).mpr hn
theorem MInv.swap {val : Int → Nat} {tl greater chain : List Int} {R R' asks : List (Int × Int)} (h : MInv val tl greater chain R asks) (hp : R'.Perm R) : MInv val tl greater chain R' asks :=
  ⟨h.sorted, (List.Perm.append_left _ (hp.map _)).trans h.perm, h.sub, fun x hx => h.above x (hp.mem_iff.mp hx), fun x hx => h.only x (hp.mem_iff.mp hx), h.inTl, h.nodup⟩

theorem MInv.step {val : Int → Nat} {tl greater chain : List Int} {x : Int × Int} {R asks : List (Int × Int)} (h : MInv val tl greater chain (x :: R) asks) (hn : tl.Nodup) (h0 : ∀ o ∈ tl, 0 ≤ o) :
    let r := bisR (fun o => decide (val x.1 < val o)) chain 0 (highOf chain x)
    MInv val tl greater (chain.take r.1 ++ x.1 :: chain.drop r.1) R (asks ++ r.2.map (mkPair x.1)) := by
  intro r
  have hnd := h.nodupC hn
  have hcn : chain.Nodup := (List.nodup_append.mp hnd).1
  have hxc : x.1 ∉ chain := fun q => (List.nodup_append.mp hnd).2.2 _ q _ (by simp) rfl
  have hxR : ∀ y ∈ R, y.1 ≠ x.1 := by
    have h2 := (List.nodup_append.mp hnd).2.1
    rw [List.map_cons, List.nodup_cons] at h2
    exact fun y hy e => h2.1 (List.mem_map.mpr ⟨y, hy, e⟩)
  have hRc : ∀ y ∈ R, y.1 ∉ chain := fun y hy q => (List.nodup_append.mp hnd).2.2 _ q _ (List.mem_map.mpr ⟨y, .tail _ hy, rfl⟩) rfl
  have hhi := highOf_le chain x
  have hsg := List.pairwise_iff_getElem.mp h.sorted
  have hsd : ∀ i j, i ≤ j → j < chain.length → val (chain.getD i 0) ≤ val (chain.getD j 0) := by
    intro i j hij hj
    rw [List.getD_eq_getElem?_getD, List.getD_eq_getElem?_getD, List.getElem?_eq_getElem hj, List.getElem?_eq_getElem (by omega)]
    rcases Nat.lt_or_ge i j with h1 | h1
    · exact hsg i j _ _ h1
    · have : i = j := by omega
      subst this; exact Nat.le_refl _
  obtain ⟨c1, c2, c3, c4⟩ := bisR_cut (fun o => decide (val x.1 < val o)) chain _ 0 (highOf chain x) rfl (Nat.zero_le _) (fun i j _ hij hj hp => by
    have := hsd i j hij (by omega)
    have hp : val x.1 < val (chain.getD i 0) := of_decide_eq_true hp
    exact decide_eq_true (by omega))
  change r.1 ≤ _ at c2
  change ∀ j, 0 ≤ j → j < r.1 → _ at c3
  change ∀ j, r.1 ≤ j → _ at c4
  have hpos : r.1 ≤ chain.length := by omega
  have c5 : ∀ j, r.1 ≤ j → j < chain.length → val x.1 ≤ val (chain.getD j 0) := by
    intro j hj hjl
    by_cases hjh : j < highOf chain x
    · have := of_decide_eq_true (c4 j hj hjh); omega
    · rcases h.above x (.head _) with e | ⟨e1, e2⟩
      · unfold highOf at hjh; rw [if_pos e] at hjh; omega
      · by_cases e3 : x.2 = -1
        · unfold highOf at hjh; rw [if_pos e3] at hjh; omega
        · unfold highOf at hjh; rw [if_neg e3] at hjh
          have hm := h.sub.mem e1
          have hi := List.idxOf_lt_length_of_mem hm
          have h1 := hsd _ j (Nat.le_of_not_lt hjh) hjl
          rw [List.getD_eq_getElem?_getD, List.getElem?_eq_getElem hi] at h1
          simp only [List.getElem_idxOf, Option.getD_some] at h1
          omega
  have osm : ∀ o ∈ r.2, o ∈ chain ∧ o ≠ x.2 := by
    intro o ho
    obtain ⟨j, _, h2, h3⟩ := bisR_mem _ _ _ _ _ rfl o ho
    have hj : j < chain.length := by omega
    have hoc : chain[j] = o := by rw [List.getD_eq_getElem?_getD, List.getElem?_eq_getElem hj] at h3; exact h3
    refine ⟨hoc ▸ List.getElem_mem _, fun e => ?_⟩
    have hpm : o ∈ tl := h.perm.subset (List.mem_append_left _ (hoc ▸ List.getElem_mem _))
    by_cases e1 : x.2 = -1
    · have := h0 o hpm; omega
    · unfold highOf at h2; rw [if_neg e1] at h2
      have hm : x.2 ∈ chain := e ▸ hoc ▸ List.getElem_mem _
      have hi := List.idxOf_lt_length_of_mem hm
      have := getD_inj hcn hj hi (by rw [h3, e, List.getD_eq_getElem?_getD, List.getElem?_eq_getElem hi]; simp)
      omega
  have htd : chain.take r.1 ++ chain.drop r.1 = chain := List.take_append_drop _ _
  refine ⟨?_, ?_, ?_, fun y hy => h.above y (.tail _ hy), ?_, ?_, ?_⟩
  · refine List.pairwise_append.mpr ⟨h.sorted.sublist (List.take_sublist _ _), List.pairwise_cons.mpr ⟨fun b hb => ?_, h.sorted.sublist (List.drop_sublist _ _)⟩, fun a ha b hb => ?_⟩
    · obtain ⟨j, hj, rfl⟩ := List.getElem_of_mem hb
      rw [List.length_drop] at hj
      have := c5 (r.1 + j) (by omega) (by omega)
      rw [List.getD_eq_getElem?_getD, List.getElem?_eq_getElem (by omega)] at this
      rw [List.getElem_drop]; exact this
    · obtain ⟨i, hi, rfl⟩ := List.getElem_of_mem ha
      rw [List.length_take] at hi
      have hi' : i < chain.length := by omega
      have ha' : val (chain.take r.1)[i] ≤ val x.1 := by
        have := c3 i (Nat.zero_le _) (by omega)
        rw [List.getD_eq_getElem?_getD, List.getElem?_eq_getElem hi'] at this
        have := of_decide_eq_false this
        rw [List.getElem_take]
        exact Nat.le_of_not_lt this
      rcases List.mem_cons.mp hb with rfl | hb
      · exact ha'
      · obtain ⟨j, hj, rfl⟩ := List.getElem_of_mem hb
        rw [List.length_drop] at hj
        have := c5 (r.1 + j) (by omega) (by omega)
        rw [List.getD_eq_getElem?_getD, List.getElem?_eq_getElem (by omega)] at this
        rw [List.getElem_drop]; exact Nat.le_trans ha' this
  · have p1 : (chain.take r.1 ++ x.1 :: chain.drop r.1).Perm (x.1 :: chain) := by
      have := List.perm_middle (a := x.1) (l₁ := chain.take r.1) (l₂ := chain.drop r.1)
      rw [htd] at this; exact this
    refine (List.Perm.append_right _ p1).trans ?_
    rw [List.cons_append]
    exact (List.perm_middle.symm).trans h.perm
  · refine h.sub.trans ?_
    conv => lhs; rw [← htd]
    exact List.Sublist.append (List.Sublist.refl _) (List.sublist_cons_self _ _)
  · intro y hy p hp hc
    rcases List.mem_append.mp hp with hp | hp
    · exact h.only y (.tail _ hy) p hp hc
    · obtain ⟨o, ho, rfl⟩ := List.mem_map.mp hp
      exfalso
      have q1 := hxR y hy
      have q2 := hRc y hy
      have q3 := (osm o ho).1
      rcases mkPair_mem x.1 o with ⟨e1, e2⟩ | ⟨e1, e2⟩ <;> rw [e1, e2] at hc <;> rcases hc with hc | hc
      · exact q1 hc.symm
      · exact q2 (hc ▸ q3)
      · exact q2 (hc ▸ q3)
      · exact q1 hc.symm
  · intro p hp
    rcases List.mem_append.mp hp with hp | hp
    · exact h.inTl p hp
    · obtain ⟨o, ho, rfl⟩ := List.mem_map.mp hp
      have q1 : x.1 ∈ tl := h.perm.subset (List.mem_append_right _ (by simp))
      have q2 : o ∈ tl := h.perm.subset (List.mem_append_left _ (osm o ho).1)
      have q3 : x.1 ≠ o := fun e => hxc (e ▸ (osm o ho).1)
      have q4 := mkPair_lt q3
      rcases mkPair_mem x.1 o with ⟨e1, e2⟩ | ⟨e1, e2⟩ <;> rw [e1, e2] at q4 ⊢ <;> exact ⟨by assumption, by assumption, q4⟩
  · refine List.nodup_append.mpr ⟨h.nodup, ?_, fun p hp q hq e => ?_⟩
    · refine List.Pairwise.map _ ?_ (List.nodup_iff_pairwise_ne.mp (bisR_nodup _ hcn _ _ _ rfl hhi))
      intro a b hab e
      exact hab (mkPair_inj e)
    · subst e
      obtain ⟨o, ho, rfl⟩ := List.mem_map.mp hq
      have hc : (mkPair x.1 o).1 = x.1 ∨ (mkPair x.1 o).2 = x.1 := by
        rcases mkPair_mem x.1 o with ⟨e1, e2⟩ | ⟨e1, e2⟩
        · exact .inl e1
        · exact .inr e2
      exact (osm o ho).2 (mkPair_inj (h.only x (.head _) _ hp hc).2)
end

section
theorem bisR_congr {p q : Int → Bool} {row : List Int} (h : ∀ o ∈ row, p o = q o) : ∀ n lo hi, hi - lo = n → hi ≤ row.length → bisR p row lo hi = bisR q row lo hi := by
  intro n
  induction n using Nat.strongRecOn with
  | ind n ih =>
    intro lo hi hn hh
    by_cases hl : lo < hi
    · have hm : row.getD ((lo + hi) / 2) 0 ∈ row := by
        rw [List.getD_eq_getElem?_getD, List.getElem?_eq_getElem (by omega)]; exact List.getElem_mem _
      rw [bisR_step hl, bisR_step hl, h _ hm, ih ((lo + hi) / 2 - lo) (by omega) _ _ rfl (by omega), ih (hi - ((lo + hi) / 2 + 1)) (by omega) _ _ rfl (by omega)]
    · rw [bisR_end hl, bisR_end hl]

theorem sub_idx {l c : List Int} (h : l.Sublist c) : ∀ j (hj : j < l.length), c.idxOf l[j] + (l.length - j) ≤ c.length := by
  induction h with
  | slnil => intro j hj; simp at hj
  | cons a h ih =>
    intro j hj
    have := ih j hj
    rw [List.idxOf_cons, List.length_cons, cond_eq_ite]
    split <;> omega
  | cons_cons a h ih =>
    intro j hj
    have hle := h.length_le
    cases j with
    | zero => simp; exact hle
    | succ j =>
      have hj' := hj
      rw [List.length_cons] at hj'
      have := ih j (by omega)
      simp only [List.getElem_cons_succ, List.length_cons]
      rw [List.idxOf_cons, cond_eq_ite]
      split <;> omega

/-- those that wait, in their order: each behind the first greater one with its partner, the odd one last -/
def WaitOk (greater : List Int) (WT : List (Int × Int)) : Prop :=
  ∀ i x, WT[i]? = some x → (x.2 = -1 ∧ i + 1 = greater.length) ∨ (x.2 ≠ -1 ∧ greater[i + 1]? = some x.2)
theorem high_bound {greater chain : List Int} {WT : List (Int × Int)} {ins i : Nat} {x : Int × Int} (hW : WaitOk greater WT) (hs : greater.Sublist chain) (hl : chain.length = 1 + greater.length + ins) (hx : WT[i]? = some x) :
    highOf chain x ≤ ins + i + 2 := by
  unfold highOf
  rcases hW i x hx with ⟨e, h1⟩ | ⟨e, h1⟩
  · rw [if_pos e]; omega
  · rw [if_neg e]
    obtain ⟨hi, h2⟩ := List.getElem?_eq_some_iff.mp h1
    have := sub_idx hs (i + 1) hi
    rw [h2] at this
    omega

/-- what the sorting by merges hands back -/
structure MergeOk (val : Int → Nat) (tl rl : List Int) (asks : List (Int × Int)) (most : Nat) : Prop where
  perm : rl.Perm tl
  sorted : rl.Pairwise fun a b => val a ≤ val b
  inTl : ∀ p ∈ asks, p.1 ∈ tl ∧ p.2 ∈ tl ∧ p.1 < p.2
  nodup : asks.Nodup
  few : asks.length ≤ most

/-- the first loop, behind k turns -/
structure PInv (val : Int → Nat) (tl : List Int) (k : Nat) (L : List (Int × Int)) : Prop where
  len : L.length = k
  perm : (L.map (·.1) ++ L.map (·.2)).Perm (tl.take (2 * k))
  le : ∀ p ∈ L, val p.2 ≤ val p.1

theorem PInv.zero {val : Int → Nat} {tl : List Int} : PInv val tl 0 [] := ⟨rfl, by simp, fun p hp => nomatch hp⟩
theorem PInv.snoc {val : Int → Nat} {tl : List Int} {k : Nat} {L : List (Int × Int)} {a b : Int} (h : PInv val tl k L) (hk : 2 * k + 1 < tl.length) (hab : (a = tl.getD (2 * k) 0 ∧ b = tl.getD (2 * k + 1) 0) ∨ (b = tl.getD (2 * k) 0 ∧ a = tl.getD (2 * k + 1) 0)) (hle : val b ≤ val a) :
    PInv val tl (k + 1) (L ++ [(a, b)]) := by
  refine ⟨by simp [h.len], ?_, fun p hp => ?_⟩
  · have e : tl.take (2 * (k + 1)) = tl.take (2 * k) ++ [tl.getD (2 * k) 0, tl.getD (2 * k + 1) 0] := by
      rw [show 2 * (k + 1) = 2 * k + 1 + 1 from by omega, List.take_add_one, List.take_add_one, List.append_assoc]
      rw [List.getElem?_eq_getElem hk, List.getElem?_eq_getElem (by omega), List.getD_eq_getElem?_getD, List.getD_eq_getElem?_getD, List.getElem?_eq_getElem hk, List.getElem?_eq_getElem (by omega)]
      rfl
    rw [e, List.map_append, List.map_append]
    have p1 : (L.map (·.1) ++ [(a, b)].map (·.1) ++ (L.map (·.2) ++ [(a, b)].map (·.2))).Perm ((L.map (·.1) ++ L.map (·.2)) ++ [a, b]) := by
      simp only [List.map_cons, List.map_nil]
      have := (List.perm_append_comm (l₁ := [a]) (l₂ := L.map (·.2)))
      have q1 : (L.map (·.1) ++ [a] ++ (L.map (·.2) ++ [b])) = (L.map (·.1) ++ ([a] ++ L.map (·.2)) ++ [b]) := by simp [List.append_assoc]
      have q2 : (L.map (·.1) ++ (L.map (·.2) ++ [a]) ++ [b]) = ((L.map (·.1) ++ L.map (·.2)) ++ [a, b]) := by simp [List.append_assoc]
      rw [q1, ← q2]
      exact List.Perm.append_right _ (List.Perm.append_left _ this)
    refine p1.trans (List.Perm.append h.perm ?_)
    rcases hab with ⟨rfl, rfl⟩ | ⟨rfl, rfl⟩
    · exact List.Perm.refl _
    · exact List.Perm.swap _ _ _
  · rcases List.mem_append.mp hp with hp | hp
    · exact h.le p hp
    · rw [List.mem_singleton.mp hp]; exact hle
end

section
def look (L : List (Int × Int)) (g : Int) : Int := (L.lookup g).getD 0
theorem lookup_of {L : List (Int × Int)} (h : (L.map (·.1)).Nodup) : ∀ p ∈ L, L.lookup p.1 = some p.2 := by
  induction L with
  | nil => intro p hp; cases hp
  | cons q r ih =>
    intro p hp
    rw [List.map_cons, List.nodup_cons] at h
    rcases List.mem_cons.mp hp with rfl | hp
    · rw [List.lookup_cons]; simp
    · have hne : p.1 ≠ q.1 := fun e => h.1 (List.mem_map.mpr ⟨p, hp, e⟩)
      have : (p.1 == q.1) = false := by simp [hne]
      rw [List.lookup_cons, this]
      exact ih h.2 p hp
def oddOf (tl : List Int) : List (Int × Int) := if tl.length % 2 = 1 then [(tl.getD (tl.length - 1) 0, -1)] else []
theorem take_odd (tl : List Int) : tl.take (2 * (tl.length / 2)) ++ (oddOf tl).map (·.1) = tl := by
  unfold oddOf
  split
  · rename_i h
    have e : 2 * (tl.length / 2) = tl.length - 1 := by omega
    rw [e]
    simp only [List.map_cons, List.map_nil]
    have hl : tl.length - 1 < tl.length := by omega
    conv => rhs; rw [← List.take_append_drop (tl.length - 1) tl, List.drop_eq_getElem_cons hl]
    rw [List.getD_eq_getElem?_getD, List.getElem?_eq_getElem hl, List.drop_eq_nil_of_le (by omega)]
    rfl
  · have e : 2 * (tl.length / 2) = tl.length := by omega
    rw [e]; simp
def waitOf (L : List (Int × Int)) (tl gs : List Int) : List (Int × Int) := gs.map (fun g => (look L g, g)) ++ oddOf tl

theorem MInv.start {val : Int → Nat} {tl : List Int} {L asks2 : List (Int × Int)} {g0 : Int} {gs : List Int} {most : Nat} (hP : PInv val tl (tl.length / 2) L) (hM : MergeOk val (L.map (·.1)) (g0 :: gs) asks2 most) (hn : tl.Nodup) (h0 : ∀ o ∈ tl, 0 ≤ o) :
    MInv val tl (g0 :: gs) (look L g0 :: g0 :: gs) (waitOf L tl gs) (L.map (fun p => mkPair p.1 p.2) ++ asks2) := by
  have hto := take_odd tl
  have hn2 : (tl.take (2 * (tl.length / 2)) ++ (oddOf tl).map (·.1)).Nodup := by rw [hto]; exact hn
  have hn3 := List.nodup_append.mp hn2
  have hn4 : (L.map (·.1) ++ L.map (·.2)).Nodup := (List.Perm.nodup_iff hP.perm).mpr hn3.1
  have hn5 := List.nodup_append.mp hn4
  have hlk : ∀ p ∈ L, look L p.1 = p.2 := fun p hp => by unfold look; rw [lookup_of hn5.1 p hp]; rfl
  have hg : ∀ g ∈ g0 :: gs, ∃ p ∈ L, p.1 = g ∧ p.2 = look L g := fun g hgm => by
    obtain ⟨p, hp, e⟩ := List.mem_map.mp (hM.perm.subset hgm)
    exact ⟨p, hp, e, by rw [← e, hlk p hp]⟩
  have hsubT : ∀ o ∈ L.map (·.1) ++ L.map (·.2), o ∈ tl := fun o ho => List.mem_of_mem_take (hP.perm.subset ho)
  have hmapL : (L.map (·.1)).map (look L) = L.map (·.2) := by
    rw [List.map_map]
    exact List.map_congr_left fun p hp => hlk p hp
  have hin2 : ∀ p ∈ asks2, p.1 ∈ L.map (·.1) ∧ p.2 ∈ L.map (·.1) := fun p hp => ⟨(hM.inTl p hp).1, (hM.inTl p hp).2.1⟩
  refine ⟨?_, ?_, List.sublist_cons_self _ _, ?_, ?_, ?_, ?_⟩
  · obtain ⟨p, hp, e1, e2⟩ := hg g0 (.head _)
    refine List.pairwise_cons.mpr ⟨fun b hb => ?_, hM.sorted⟩
    have h1 : val (look L g0) ≤ val g0 := by rw [← e2, ← e1]; exact hP.le p hp
    rcases List.mem_cons.mp hb with rfl | hb
    · exact h1
    · exact Nat.le_trans h1 ((List.pairwise_cons.mp hM.sorted).1 b hb)
  · have p1 : ((g0 :: gs) ++ (g0 :: gs).map (look L)).Perm (L.map (·.1) ++ L.map (·.2)) := by
      rw [← hmapL]
      exact List.Perm.append hM.perm (hM.perm.map _)
    have p2 : (look L g0 :: g0 :: gs ++ (waitOf L tl gs).map (·.1)).Perm ((g0 :: gs) ++ (g0 :: gs).map (look L) ++ (oddOf tl).map (·.1)) := by
      unfold waitOf
      rw [List.map_append, List.map_map, ← List.append_assoc]
      refine List.Perm.append_right _ ?_
      show (look L g0 :: (g0 :: gs) ++ gs.map (look L)).Perm ((g0 :: gs) ++ look L g0 :: gs.map (look L))
      exact List.perm_middle.symm
    refine p2.trans ?_
    have := List.Perm.append_right ((oddOf tl).map (·.1)) (p1.trans hP.perm)
    rw [hto] at this
    exact this
  · intro x hx
    rcases List.mem_append.mp hx with hx | hx
    · obtain ⟨g, hgm, rfl⟩ := List.mem_map.mp hx
      obtain ⟨p, hp, e1, e2⟩ := hg g (.tail _ hgm)
      exact .inr ⟨.tail _ hgm, by show val (look L g) ≤ val g; rw [← e2, ← e1]; exact hP.le p hp⟩
    · unfold oddOf at hx
      split at hx
      · rw [List.mem_singleton.mp hx]; exact .inl rfl
      · cases hx
  · intro x hx p hp hc
    have hpT : p.1 ∈ L.map (·.1) ++ L.map (·.2) ∧ p.2 ∈ L.map (·.1) ++ L.map (·.2) := by
      rcases List.mem_append.mp hp with hp | hp
      · obtain ⟨q, hq, rfl⟩ := List.mem_map.mp hp
        have a1 : q.1 ∈ L.map (·.1) ++ L.map (·.2) := List.mem_append_left _ (List.mem_map.mpr ⟨q, hq, rfl⟩)
        have a2 : q.2 ∈ L.map (·.1) ++ L.map (·.2) := List.mem_append_right _ (List.mem_map.mpr ⟨q, hq, rfl⟩)
        rcases mkPair_mem q.1 q.2 with ⟨e1, e2⟩ | ⟨e1, e2⟩ <;> rw [e1, e2] <;> exact ⟨by assumption, by assumption⟩
      · exact ⟨List.mem_append_left _ (hin2 p hp).1, List.mem_append_left _ (hin2 p hp).2⟩
    rcases List.mem_append.mp hx with hx | hx
    · obtain ⟨g, hgm, rfl⟩ := List.mem_map.mp hx
      obtain ⟨q, hq, e1, e2⟩ := hg g (.tail _ hgm)
      have hg0 : g ∈ tl := hsubT g (List.mem_append_left _ (List.mem_map.mpr ⟨q, hq, e1⟩))
      have hfs : ∀ z ∈ L.map (·.1), z ≠ look L g := fun z hz => hn5.2.2 z hz _ (List.mem_map.mpr ⟨q, hq, e2⟩)
      refine ⟨by have := h0 g hg0; show g ≠ -1; omega, ?_⟩
      rcases List.mem_append.mp hp with hp | hp
      · obtain ⟨r, hr, rfl⟩ := List.mem_map.mp hp
        have hr2 : r.2 = look L g → r.1 = g := fun e => by
          have h1 : ∀ a b : Int × Int, a ∈ L → b ∈ L → a.2 = b.2 → a = b := by
            have hns := List.pairwise_map.mp (List.nodup_iff_pairwise_ne.mp hn5.2.1)
            intro a b ha hb hab
            obtain ⟨i, hi, rfl⟩ := List.getElem_of_mem ha
            obtain ⟨j, hj, rfl⟩ := List.getElem_of_mem hb
            have hpw := List.pairwise_iff_getElem.mp hns
            rcases Nat.lt_trichotomy i j with h1 | h1 | h1
            · exact absurd hab (hpw i j hi hj h1)
            · subst h1; rfl
            · exact absurd hab.symm (hpw j i hj hi h1)
          rw [h1 r q hr hq (by rw [e, e2]), e1]
        have hr1 : r.1 ≠ look L g := hfs _ (List.mem_map.mpr ⟨r, hr, rfl⟩)
        have fin : r.2 = look L g → mkPair r.1 r.2 = mkPair (look L g) g := fun e => by rw [hr2 e, e, mkPair_comm]
        rcases mkPair_mem r.1 r.2 with ⟨a1, a2⟩ | ⟨a1, a2⟩ <;> simp only [a1, a2] at hc <;> rcases hc with hc | hc
        · exact absurd hc hr1
        · exact fin hc
        · exact fin hc
        · exact absurd hc hr1
      · rcases hc with hc | hc
        · exact absurd hc (hfs _ (hin2 p hp).1)
        · exact absurd hc (hfs _ (hin2 p hp).2)
    · exfalso
      have hxo : x.1 ∈ (oddOf tl).map (·.1) := List.mem_map.mpr ⟨x, hx, rfl⟩
      rcases hc with hc | hc
      · exact hn3.2.2 _ (hP.perm.subset hpT.1) _ hxo hc
      · exact hn3.2.2 _ (hP.perm.subset hpT.2) _ hxo hc
  · intro p hp
    rcases List.mem_append.mp hp with hp | hp
    · obtain ⟨q, hq, rfl⟩ := List.mem_map.mp hp
      have a1 : q.1 ∈ L.map (·.1) := List.mem_map.mpr ⟨q, hq, rfl⟩
      have a2 : q.2 ∈ L.map (·.2) := List.mem_map.mpr ⟨q, hq, rfl⟩
      have b1 := hsubT _ (List.mem_append_left _ a1)
      have b2 := hsubT _ (List.mem_append_right _ a2)
      have q4 := mkPair_lt (hn5.2.2 _ a1 _ a2)
      rcases mkPair_mem q.1 q.2 with ⟨e1, e2⟩ | ⟨e1, e2⟩
      · exact ⟨by rw [e1]; exact b1, by rw [e2]; exact b2, q4⟩
      · exact ⟨by rw [e1]; exact b2, by rw [e2]; exact b1, q4⟩
    · have := hM.inTl p hp
      exact ⟨hsubT _ (List.mem_append_left _ this.1), hsubT _ (List.mem_append_left _ this.2.1), this.2.2⟩
  · refine List.nodup_append.mpr ⟨?_, hM.nodup, fun p hp q hq e => ?_⟩
    · refine List.pairwise_map.mpr ?_
      have h1 := List.pairwise_map.mp (List.nodup_iff_pairwise_ne.mp hn5.1)
      refine List.Pairwise.imp_of_mem (fun {a b} ha hb hab e => ?_) h1
      have c1 : a.1 ≠ b.2 := hn5.2.2 _ (List.mem_map.mpr ⟨a, ha, rfl⟩) _ (List.mem_map.mpr ⟨b, hb, rfl⟩)
      have c2 : b.1 ≠ a.2 := hn5.2.2 _ (List.mem_map.mpr ⟨b, hb, rfl⟩) _ (List.mem_map.mpr ⟨a, ha, rfl⟩)
      rcases mkPair_mem a.1 a.2 with ⟨e1, e2⟩ | ⟨e1, e2⟩ <;> rcases mkPair_mem b.1 b.2 with ⟨e3, e4⟩ | ⟨e3, e4⟩ <;> rw [e] at e1 e2
      · exact hab (by rw [← e1, e3])
      · exact c1 (by rw [← e1, e3])
      · exact c2 (by rw [← e3, e1])
      · exact hab (by rw [← e2, e4])
    · subst e
      obtain ⟨r, hr, rfl⟩ := List.mem_map.mp hp
      have a2 : r.2 ∈ L.map (·.2) := List.mem_map.mpr ⟨r, hr, rfl⟩
      have := hin2 _ hq
      rcases mkPair_mem r.1 r.2 with ⟨e1, e2⟩ | ⟨e1, e2⟩
      · exact hn5.2.2 _ (e2 ▸ this.2) _ a2 rfl
      · exact hn5.2.2 _ (e1 ▸ this.1) _ a2 rfl

theorem waitOk_of {L : List (Int × Int)} {tl : List Int} {g0 : Int} {gs : List Int} (hl : ∀ g ∈ gs, 0 ≤ g) : WaitOk (g0 :: gs) (waitOf L tl gs) := by
  intro i x hx
  unfold waitOf at hx
  by_cases hi : i < gs.length
  · rw [List.getElem?_append_left (by simpa using hi), List.getElem?_map] at hx
    rw [List.getElem?_eq_getElem hi] at hx
    have e := Option.some.inj hx
    subst e
    refine .inr ⟨?_, by simp [hi]⟩
    have := hl gs[i] (List.getElem_mem _)
    show gs[i] ≠ -1
    omega
  · rw [List.getElem?_append_right (by simpa using hi)] at hx
    simp only [List.length_map] at hx
    unfold oddOf at hx
    split at hx
    · have h2 := List.getElem?_eq_some_iff.mp hx
      obtain ⟨h3, h4⟩ := h2
      simp at h3
      have e : i = gs.length := by omega
      subst e
      simp at h4
      subst h4
      exact .inl ⟨rfl, by simp⟩
    · simp at hx
theorem MInv.done {val : Int → Nat} {tl greater chain : List Int} {asks : List (Int × Int)} {most : Nat} (h : MInv val tl greater chain [] asks) (hf : asks.length ≤ most) : MergeOk val tl chain asks most :=
  ⟨by simpa using h.perm, h.sorted, h.inTl, h.nodup, hf⟩
end

section
/-- the asked list, the table of _law_place and the pairs; D: addresses that are written to -/
structure AskSt (news : List (Addr × Obj)) (D : List Addr) (askA : Addr) (addrs : List Addr) (pairs : List (Int × Int)) : Prop where
  ask : ∃ nq, (askA, listOf (addrs.map Value.ref).toArray nq) ∈ news
  tab : ∃ ps, (100, tabObj ps) ∈ news ∧ TabOk news 73 54 "_law_place.<locals>.<lambda>" ps
  pairs : PairsAt news addrs pairs
  off : ∀ a ∈ addrs, a ∉ D
  askD : askA ∈ D

/-- the code in the table of _law_place is not at I -/
def TabOff (news : List (Addr × Obj)) (I : Addr) : Prop := ∀ ps x y c', (100, tabObj ps) ∈ news → ps = #[x, y, .ref c'] → c' ≠ I
theorem AskSt.off_of {h₀ hp : Heap} {L I : Addr} {news : List (Addr × Obj)} {D : List Addr} {askA : Addr} {addrs : List Addr} {pairs : List (Int × Int)} (h : AskSt news D askA addrs pairs) (N : News h₀ L hp news) (hI : ∀ p ∈ news, p.1 ≠ I) : TabOff news I := by
  intro ps x y c' hm e
  obtain ⟨ps2, et, t⟩ := h.tab
  have e2 := news_fun N hm et
  injection e2 with _ _ e2 _
  injection e2 with e2
  subst e2
  rcases t with t | ⟨c2, oc, vs, t, h1, h2, _⟩
  · rw [e] at t; cases t
  · rw [e] at h1
    injection h1 with h1
    injection h1 with _ h1
    injection h1 with _ h1
    injection h1 with h1 _
    injection h1 with h1
    rw [h1]; exact hI _ h2
theorem AskSt.sub {news news' : List (Addr × Obj)} {D : List Addr} {askA : Addr} {addrs : List Addr} {pairs : List (Int × Int)} (h : AskSt news D askA addrs pairs) (hs : ∀ q ∈ news, q ∈ news') : AskSt news' D askA addrs pairs :=
  ⟨let ⟨nq, e⟩ := h.ask; ⟨nq, hs _ e⟩, let ⟨ps, e, t⟩ := h.tab; ⟨ps, hs _ e, t.mono fun q hq _ => hs q hq⟩, h.pairs.mono fun q hq _ => hs q hq, h.off, h.askD⟩
/-- another object of the ledger is written to -/
theorem AskSt.upd {h₀ hp : Heap} {L d : Addr} {o : Obj} {news news' : List (Addr × Obj)} {D : List Addr} {askA : Addr} {addrs : List Addr} {pairs : List (Int × Int)} (h : AskSt news D askA addrs pairs) (N : News h₀ L hp news) (hd : (d, o) ∈ news) (ho : ∀ vs, o.data ≠ .fields vs)
    (hne : d ≠ askA) (hD : d ∈ D) (hs : ∀ q ∈ news, q.1 ≠ d → q ∈ news') : AskSt news' D askA addrs pairs := by
  obtain ⟨nq, e⟩ := h.ask
  obtain ⟨ps, et, t⟩ := h.tab
  refine ⟨⟨nq, hs _ e (Ne.symm hne)⟩, ⟨ps, hs _ et (news_ne N et hd (fun e => ho _ (by rw [← e]))), t.mono fun q hq hf => hs q hq ?_⟩, h.pairs.mono fun q hq ha => hs q hq (fun e => h.off _ ha (e ▸ hD)), h.off, h.askD⟩
  obtain ⟨vs, _, _, hv, _⟩ := hf
  exact news_ne N (a := q.1) (o := q.2) hq hd (fun e => ho vs (by rw [← e]; exact hv))
theorem AskSt.more {news : List (Addr × Obj)} {D : List Addr} {askA d : Addr} {addrs : List Addr} {pairs : List (Int × Int)} (h : AskSt news D askA addrs pairs) (hd : ∀ a ∈ addrs, a ≠ d) : AskSt news (d :: D) askA addrs pairs :=
  ⟨h.ask, h.tab, h.pairs, fun a ha hm => by
    rcases List.mem_cons.mp hm with e | hm
    · exact hd a ha e
    · exact h.off a ha hm, .tail _ h.askD⟩
theorem AskSt.fewer {news : List (Addr × Obj)} {D D' : List Addr} {askA : Addr} {addrs : List Addr} {pairs : List (Int × Int)} (h : AskSt news D askA addrs pairs) (hd : ∀ a ∈ D', a ∈ D) (ha : askA ∈ D') : AskSt news D' askA addrs pairs :=
  ⟨h.ask, h.tab, h.pairs, fun a hm hx => h.off a hm (hd a hx), ha⟩
/-- an object that is none of these is put aside -/
theorem AskSt.less {h₀ hp : Heap} {L d : Addr} {o : Obj} {news : List (Addr × Obj)} {D : List Addr} {askA : Addr} {addrs : List Addr} {pairs : List (Int × Int)} (h : AskSt news D askA addrs pairs) (N : News h₀ L hp news) (hd : (d, o) ∈ news) (ho : (∀ vs q t, o.data = .fields vs → vs[1]? ≠ some (.str q t)) ∨ TabOff news d)
    (hne : d ≠ askA) (hne2 : d ≠ 100) (hD : ∀ a ∈ addrs, a ≠ d) {news' : List (Addr × Obj)} (hs : ∀ q ∈ news, q.1 ≠ d → q ∈ news') : AskSt news' D askA addrs pairs := by
  obtain ⟨nq, e⟩ := h.ask
  obtain ⟨ps, et, t⟩ := h.tab
  refine ⟨⟨nq, hs _ e (Ne.symm hne)⟩, ⟨ps, hs _ et (Ne.symm hne2), ?_⟩, h.pairs.mono fun q hq ha => hs q hq (hD _ ha), h.off, h.askD⟩
  rcases ho with ho | ho
  · refine t.mono fun q hq hf => hs q hq ?_
    obtain ⟨vs, q', t', hv, hv2⟩ := hf
    exact news_ne N (a := q.1) (o := q.2) hq hd (fun e => ho vs q' t' (by rw [← e]; exact hv) hv2)
  · rcases t with t | ⟨c2, oc, vs, t, h1, h2, h3, h4⟩
    · exact .inl t
    · exact .inr ⟨c2, oc, vs, t, h1, hs _ h2 (ho _ _ _ _ et h1), h3, h4⟩
theorem AskSt.in {news : List (Addr × Obj)} {D : List Addr} {askA : Addr} {addrs : List Addr} {pairs : List (Int × Int)} (h : AskSt news D askA addrs pairs) : ∀ a ∈ addrs, ∃ o, (a, o) ∈ news := fun a ha => let ⟨_, _, e⟩ := h.pairs.mem a ha; ⟨_, e⟩

theorem place_ask {w : World} {dp un : Nat} {gd : Option (List Code)} {cn : Str} {cs : Scope} {L a : Addr} {ccd : Value} {cl : List (Str × Addr)} {outer : List Env} {A₀ : Around} {base h₀ : Heap} {m mg mb : Str → Option Value} {news : List (Addr × Obj)} {s : Shared} {Q E : Value → Shared → Prop} {p : Program} {loose : List Str} {mean : ExcName → Option Value}
  {askA row nm : Addr} {addrs D : List Addr} {rs vsN : List Value} {nr nn N : Nat} {one : Int} {hi : Nat} {t1 t2 : Tok} {ns : List Int} {pairs : List (Int × Int)} {nmf : Nat → Str} {vals : Nat → Nat}
  (B : Below A₀ base outer h₀) (F : Fr h₀ L s.heap m) (X : (hd.heap_39 w.params).In h₀) (N0 : News h₀ L s.heap news) (T : Top p loose mean mg mb h₀) (C : CodeHd h₀ 104 100) (hk : cs.kind = .function)
  (hdp : dp + 20 < recursionLimit) (hun : un + 90 < cLine)
  (hrow : (row, listOf rs.toArray nr) ∈ news) (hnm : (nm, listOf vsN.toArray nn) ∈ news) (hA : AskSt news D askA addrs pairs) (hrs : IntsAre rs ns) (hnames : NamesAre vsN N nmf) (hval : ∀ i j, i < N → j < N → slt (nmf i) (nmf j) = decide (vals i < vals j))
  (hone : 0 ≤ one ∧ one < N) (hns : ∀ o ∈ ns, 0 ≤ o ∧ o < N)
  (hhi : hi ≤ ns.length) (hlen : ns.length < 100) (hlen2 : addrs.length < 1000) (hN : N < 1000)
  (hd1 : row ≠ askA) (hd2 : nm ≠ askA) (hd3 : ∀ d ∈ D, ∃ o, (d, o) ∈ news)
  (ret : ∀ new t h' tk' news', Fr h₀ L h' m → News h₀ L h' news' → (∀ q ∈ news, q.1 ≠ askA → q.1 ≠ 100 → q ∈ news') → AskSt news' D askA (addrs ++ new) (pairs ++ (bisR (fun o => decide (vals one.toNat < vals o.toNat)) ns 0 hi).2.map (mkPair one)) → (∀ a ∈ new, ∀ q ∈ news, q.1 < a) → (∀ I, (∃ o, (I, o) ∈ news) → TabOff news I → TabOff news' I) →
    Q (.int (bisR (fun o => decide (vals one.toNat < vals o.toNat)) ns 0 hi).1 t) { s with heap := h', toks := tk' })
  : wpAny (model PySem.Challenge.rw_sr0012_01.row.prog w) (ktrTop dp un gd cn cs L a ccd cl outer) (call (.ref 105) [.ref row, .int one t1, .ref nm, .int (hi : Nat) t2, .ref askA]) Q E s := by
  obtain ⟨nq, e⟩ := hA.ask
  obtain ⟨ps, et, tt⟩ := hA.tab
  have hc : bisR (fun o => slt (nmf one.toNat) (nmf o.toNat)) ns 0 hi = bisR (fun o => decide (vals one.toNat < vals o.toNat)) ns 0 hi :=
    bisR_congr (fun o ho => hval _ _ (by omega) (by have := hns o ho; omega)) _ _ _ rfl hhi
  refine place_ok B F X N0 T C hk hdp hun hrow hnm e et tt hA.pairs hrs hnames hone hns hhi hlen hlen2 hN hd1 hd2 (fun a ha q => hA.off a ha (q ▸ hA.askD)) ?_
  intro new t h' tk' news' nq' ps' F' N' k1 k2 k3 k4 k5 k6 k7
  rw [hc] at k5 ⊢
  refine ret new t h' tk' news' F' N' k1 ⟨⟨nq', k2⟩, ⟨ps', k3, k4⟩, k5, fun a ha hD => ?_, hA.askD⟩ k6 fun I hI hoff ps1 x y c1 hm1 e1 => ?_
  · rcases List.mem_append.mp ha with ha | ha
    · exact hA.off a ha hD
    · obtain ⟨o, ho⟩ := hd3 a hD
      exact Nat.lt_irrefl a (k6 a ha _ ho)
  · have e2 := news_fun N' hm1 k3
    injection e2 with _ _ e2 _
    injection e2 with e2
    rw [e2] at e1
    rcases k7 with k7 | k7
    · rw [k7] at e1; exact hoff _ _ _ _ et e1
    · obtain ⟨o, ho⟩ := hI
      exact Ne.symm (Nat.ne_of_lt (k7 _ _ _ e1 _ ho))

section
variable {prog : Program} {w : World} {A : Around} {E : Value → Shared → Prop} {s : Shared} {env : Env} {h₀ : Heap} {x : Str} {body : List Stmt} {Q : Flow → Shared → Prop} {I : Addr} {a : Int} {n : Nat}
/-- a range's turns by an invariant over the frame's map and the ledger -/
theorem rangeRest_of (Inv : Nat → (Str → Option Value) → List (Addr × Obj) → Prop)
    (turn : ∀ i m news t h tk it, i < n → Inv i m news → (∀ vs q t, it.data = .fields vs → vs[1]? ≠ some (.str q t)) → Fr h₀ env.locals h (fun y => if y = x then some (.int (a + (i : Int)) t) else m y) → News h₀ env.locals h ((I, it) :: news) →
      wpAny (model prog w) A (execs body env) (fun f s₂ => Stop (f = .next ∧ ∃ h' tk' m' news', s₂ = { s with heap := h', toks := tk' } ∧ Fr h₀ env.locals h' m' ∧ News h₀ env.locals h' ((I, it) :: news') ∧ (∀ p ∈ news', p.1 ≠ I) ∧ Inv (i + 1) m' news')) E { s with heap := h, toks := tk })
    (done : ∀ m news h tk, Inv n m news → Fr h₀ env.locals h m → News h₀ env.locals h news → Q .next { s with heap := h, toks := tk }) :
    ∀ j i, i + j = n → ∀ m news, Inv i m news → RangeRest prog w A E h₀ env x body Q s I a n j i m news := by
  intro j
  induction j with
  | zero =>
    intro i hi m news hI
    have e : i = n := by omega
    subst e
    exact RangeRest.zero fun h tk F N => done m news h tk hI F N
  | succ j ih =>
    intro i hi m news hI
    refine RangeRest.succ fun t h tk F N => ?_
    refine wpAny_mono (turn i m news t h tk _ (by omega) hI (fun vs q t e e2 => by injection e with e; rw [← e] at e2; cases e2) F N) (fun f s₂ hh => ?_) fun _ _ x => x
    obtain ⟨⟨rfl, h', tk', m', news', rfl, F', N', off, hI'⟩⟩ := hh
    exact ⟨h', tk', m', news', rfl, F', N', off, ih (i + 1) (by omega) m' news' hI'⟩
end

section
variable {prog : Program} {w : World} {A : Around} {E : Value → Shared → Prop} {s : Shared} {h₀ : Heap} {L d : Addr} {m : Str → Option Value} {news : List (Addr × Obj)} {o : Obj}
theorem setItem_M {k : Int} {t : Tok} {v : Value} {dv : PyData} {kvs : List (Int × Value)} {D : List (PyData × PyData)} {Q : Unit → Shared → Prop} (F : Fr h₀ L s.heap m) (N : News h₀ L s.heap news) (hm : (d, o) ∈ news)
    (hd : o.IsDictOf (intKind prog w) kvs) (hf : PyProof.V.FlatPairs PyData.int kvs D) (hv : PyProof.V.Flat v dv) (hsz : D.length ≤ sizeLine)
    (h : ∀ h' news' o' kvs', Fr h₀ L h' m → News h₀ L h' news' → (d, o') ∈ news' → (∀ p ∈ news, p.1 ≠ d → p ∈ news') → o'.IsDictOf (intKind prog w) kvs' → PyProof.V.FlatPairs PyData.int kvs' (PyProof.V.putD (.int k) dv D) → Q () { s with heap := h', toks := s.toks + 1 }) :
    wpAny (model prog w) A (setItem (.ref d) (.int k t) v) Q E s :=
  setItem_K PyProof.V.same_int (intKind_is prog w k t) hv F (news_split N hm) (.head less_ne) hd hf (fun h' o' F' N' hd' hf' => h h' _ o' _ F' N' (.head _) (fun p hp hn => .tail _ (less_of hp hn)) hd' hf') hsz
end
/-- a dict of ints, as data -/
def dL (L : List (Int × Int)) : List (PyData × PyData) := L.map fun p => (PyData.int p.1, PyData.int p.2)
theorem putD_new {L : List (Int × Int)} {a b : Int} (h : ∀ p ∈ L, p.1 ≠ a) : PyProof.V.putD (.int a) (.int b) (dL L) = dL (L ++ [(a, b)]) := by
  have h1 : ((dL L).any fun p => PySem.Spec.same p.1 (.int a)) = false := by
    rw [List.any_eq_false]
    intro q hq
    obtain ⟨p, hp, rfl⟩ := List.mem_map.mp hq
    rw [PyProof.V.same_int]
    simpa using h p hp
  unfold PyProof.V.putD
  rw [h1]
  simp [dL]
theorem lookup_dL (L : List (Int × Int)) (g : Int) : PySem.Spec.lookup (.int g) (dL L) = (L.lookup g).map PyData.int := by
  induction L with
  | nil => rfl
  | cons p r ih =>
    show (if PySem.Spec.same (.int p.1) (.int g) = true then some (PyData.int p.2) else PySem.Spec.lookup (.int g) (dL r)) = _
    rw [PyProof.V.same_int, List.lookup_cons, ih]
    by_cases e : p.1 = g
    · subst e; simp
    · have : (g == p.1) = false := by simp [Ne.symm e]
      simp [e, this]
theorem flat_int {v : Value} {i : Int} (h : PyProof.V.Flat v (.int i)) : ∃ t, v = .int i t := by
  cases h default; exact ⟨_, rfl⟩
theorem dict_data {prog : Program} {w : World} {o : Obj} {kvs : List (Int × Value)} (h : o.IsDictOf (intKind prog w) kvs) : ∀ vs, o.data ≠ .fields vs := fun vs e => by
  obtain ⟨es, ep, _, h2, _⟩ := h
  rw [h2] at e; cases e
end

section
def costT (n : Nat) : Nat := [0, 0, 1, 3, 5, 7, 10, 13, 16, 19, 22].getD n 0
def c3 (m : Nat) : Nat := if m ≤ 2 then 2 * m else 4 + 3 * (m - 2)
theorem cost_step : ∀ n < 11, 2 ≤ n → n / 2 + costT (n / 2) + c3 (n / 2 - 1 + n % 2) = costT n := by decide

/-- the first loop, behind i turns -/
def L1Inv (w : World) (val : Int → Nat) (tl : List Int) (thA nm askA upA dA cA I : Addr) (news0 : List (Addr × Obj)) (D addrs : List Addr) (pairs : List (Int × Int)) (i : Nat) (m : Str → Option Value) (news : List (Addr × Obj)) : Prop :=
  ∃ (Lp : List (Int × Int)) (new : List Addr) (oD : Obj) (kvs : List (Int × Value)) (nu : Nat) (vu : List Value) (oC : Obj),
    (m "things" = some (.ref thA) ∧ m "names" = some (.ref nm) ∧ m "asked" = some (.ref askA) ∧ m "upper" = some (.ref upA)) ∧
    ((cA, oC) ∈ news ∧ oC.data = .cell (some (.ref dA))) ∧ ((dA, oD) ∈ news ∧ oD.IsDictOf (intKind PySem.Challenge.rw_sr0012_01.row.prog w) kvs ∧ PyProof.V.FlatPairs PyData.int kvs (dL Lp)) ∧
    ((upA, listOf vu.toArray nu) ∈ news ∧ IntsAre vu (Lp.map (·.1))) ∧ PInv val tl i Lp ∧ AskSt news (dA :: upA :: D) askA (addrs ++ new) (pairs ++ Lp.map (fun p => mkPair p.1 p.2)) ∧
    (∀ q ∈ news0, q.1 ≠ askA → q.1 ≠ 100 → q ∈ news) ∧ (∀ a ∈ new, ∀ q ∈ news0, q.1 < a) ∧ new.length ≤ i ∧ (∀ p ∈ news, p.1 ≠ I)

theorem bisR_one (p : Int → Bool) (f : Int) : bisR p [f] 0 1 = if p f then (0, [f]) else (1, [f]) := by
  have h0 : bisR p [f] 0 0 = (0, []) := bisR_end (by omega)
  have h1 : bisR p [f] 1 1 = (1, []) := bisR_end (by omega)
  rw [bisR_step (by omega)]
  show (if p f = true then ((bisR p [f] 0 0).1, f :: (bisR p [f] 0 0).2) else ((bisR p [f] 1 1).1, f :: (bisR p [f] 1 1).2)) = _
  rw [h0, h1]

def MergedSpec (w : World) (k : Nat) : Prop :=
  ∀ (dp un : Nat) (gd : Option (List Code)) (cn : Str) (cs : Scope) (L a : Addr) (ccd : Value) (cl : List (Str × Addr)) (outer : List Env) (A₀ : Around) (base h₀ : Heap) (m mg mb : Str → Option Value) (news : List (Addr × Obj)) (s : Shared) (Q E : Value → Shared → Prop) (p : Program) (loose : List Str) (mean : ExcName → Option Value)
  (askA thA nm : Addr) (addrs D : List Addr) (rs vsN : List Value) (nr nn N : Nat) (pairs : List (Int × Int)) (nmf : Nat → Str) (vals : Nat → Nat) (tl : List Int),
  Below A₀ base outer h₀ → Fr h₀ L s.heap m → (hd.heap_39 w.params).In h₀ → News h₀ L s.heap news → Top p loose mean mg mb h₀ → CodeHd h₀ 104 100 → cs.kind = .function →
  dp + (k + 30) < recursionLimit → un + (3 * k + 150) < cLine →
  (thA, listOf rs.toArray nr) ∈ news → (nm, listOf vsN.toArray nn) ∈ news → AskSt news D askA addrs pairs → thA ∉ D → nm ∉ D → (∀ d ∈ D, ∃ o, (d, o) ∈ news) →
  IntsAre rs tl → NamesAre vsN N nmf → (∀ i j, i < N → j < N → slt (nmf i) (nmf j) = decide (vals i < vals j)) → (∀ o ∈ tl, 0 ≤ o ∧ o < N) → tl.Nodup → tl.length < k → tl.length ≤ 10 → addrs.length + 100 * tl.length < 1200 → N < 1000 →
  (∀ r rl vr n' new ps t h' tk' news', Fr h₀ L h' m → News h₀ L h' news' → (∀ q ∈ news, q.1 ≠ askA → q.1 ≠ 100 → q ∈ news') → AskSt news' D askA (addrs ++ new) (pairs ++ ps) → (∀ a ∈ new, ∀ q ∈ news, q.1 < a) →
    (r, listOf vr n') ∈ news' → IntsAre vr.toList rl → r ∉ D → MergeOk (fun i => vals i.toNat) tl rl ps (costT tl.length) → Q (.ref r) { s with heap := h', toks := t + tk' }) →
  wpAny (model PySem.Challenge.rw_sr0012_01.row.prog w) (ktrTop dp un gd cn cs L a ccd cl outer) (call (.ref 110) [.ref thA, .ref nm, .ref askA]) Q E s


theorem L1_next {w : World} {val : Int → Nat} {tl : List Int} {thA nm askA upA dA cA I L : Addr} {gE h7 h8 h9 h10 : Heap} {news0 nw nw8 nw9 nw10 : List (Addr × Obj)} {D addrs new newp : List Addr} {pairs Lp : List (Int × Int)} {i nu : Nat} {m' : Str → Option Value} {oC oD oD9 it : Obj} {kvs kvs9 : List (Int × Value)} {vu : List Value} {s0 f0 a b : Int} {ta : Tok}
  (hi : i < tl.length / 2) (hf0 : tl.getD (2 * i) 0 = f0) (hs0 : tl.getD (2 * i + 1) 0 = s0) (hn : tl.Nodup)
  (q1 : m' "things" = some (.ref thA) ∧ m' "names" = some (.ref nm) ∧ m' "asked" = some (.ref askA) ∧ m' "upper" = some (.ref upA))
  (q5 : (cA, oC) ∈ nw) (q6 : oC.data = .cell (some (.ref dA))) (q7 : (dA, oD) ∈ nw) (q8 : oD.IsDictOf (intKind PySem.Challenge.rw_sr0012_01.row.prog w) kvs)
  (q10 : (upA, listOf vu.toArray nu) ∈ nw) (q11 : IntsAre vu (Lp.map (·.1))) (q12 : PInv val tl i Lp) (q13 : AskSt nw (dA :: upA :: D) askA (addrs ++ new) (pairs ++ Lp.map (fun p => mkPair p.1 p.2)))
  (q14 : ∀ q ∈ news0, q.1 ≠ askA → q.1 ≠ 100 → q ∈ nw) (q15 : ∀ a ∈ new, ∀ q ∈ news0, q.1 < a) (q16 : new.length ≤ i) (q17 : ∀ p ∈ nw, p.1 ≠ I)
  (hup : ∀ q ∈ news0, q.1 < dA) (hda : dA < upA) (haI : ∃ o, (askA, o) ∈ news0) (htI : ∃ o, (100, o) ∈ news0) (hit : ∀ vs q t, it.data = .fields vs → vs[1]? ≠ some (.str q t))
  (N7 : News gE L h7 nw) (N8 : News gE L h8 nw8) (w0 : ∀ q ∈ (I, it) :: nw, q.1 ≠ askA → q.1 ≠ 100 → q ∈ nw8)
  (c2 : AskSt nw8 (dA :: upA :: D) askA (addrs ++ new ++ newp) (pairs ++ Lp.map (fun p => mkPair p.1 p.2) ++ [mkPair s0 f0])) (c3 : ∀ a ∈ newp, ∀ q ∈ (I, it) :: nw, q.1 < a)
  (N9 : News gE L h9 nw9) (u1 : (dA, oD9) ∈ nw9) (u2 : ∀ p ∈ nw8, p.1 ≠ dA → p ∈ nw9) (u3 : oD9.IsDictOf (intKind PySem.Challenge.rw_sr0012_01.row.prog w) kvs9) (u4 : PyProof.V.FlatPairs PyData.int kvs9 (PyProof.V.putD (.int a) (.int b) (dL Lp)))
  (N10 : News gE L h10 nw10) (v1 : (upA, listOf (vu.toArray.push (.int a ta)) (nu + 1)) ∈ nw10) (v2 : ∀ p ∈ nw9, p.1 ≠ upA → p ∈ nw10)
  (hab : (a = f0 ∧ b = s0) ∨ (b = f0 ∧ a = s0)) (hle : val b ≤ val a) :
  News gE L h10 ((I, it) :: less I nw10) ∧ (∀ p ∈ less I nw10, p.1 ≠ I) ∧ L1Inv w val tl thA nm askA upA dA cA I news0 D addrs pairs (i + 1) m' (less I nw10) := by
  obtain ⟨oa, hoa⟩ := haI
  obtain ⟨ot, hot⟩ := htI
  have n1 : dA ≠ askA := Ne.symm (Nat.ne_of_lt (hup _ hoa))
  have n2 : dA ≠ 100 := Ne.symm (Nat.ne_of_lt (hup _ hot))
  have n3 : upA ≠ askA := Ne.symm (Nat.ne_of_lt (Nat.lt_trans (hup _ hoa) hda))
  have n4 : upA ≠ 100 := Ne.symm (Nat.ne_of_lt (Nat.lt_trans (hup _ hot) hda))
  have n5 : upA ≠ dA := Ne.symm (Nat.ne_of_lt hda)
  have n6 : cA ≠ dA := news_ne N7 q5 q7 (fun e => by
    obtain ⟨es, ep, _, h2, _⟩ := q8
    rw [e, h2] at q6; cases q6)
  have n7 : cA ≠ upA := news_ne N7 q5 q10 (fun e => by rw [e] at q6; cases q6)
  have n8 : cA ≠ askA := let ⟨nq, e⟩ := q13.ask; news_ne N7 q5 e (fun e => by rw [e] at q6; cases q6)
  have n9 : cA ≠ 100 := let ⟨ps, e, _⟩ := q13.tab; news_ne N7 q5 e (fun e => by rw [e] at q6; cases q6)
  have iA : I ≠ askA := fun e => let ⟨nq, e'⟩ := q13.ask; q17 _ e' e.symm
  have iT : I ≠ 100 := fun e => let ⟨ps, e', _⟩ := q13.tab; q17 _ e' e.symm
  have iD : dA ≠ I := q17 _ q7
  have iU : upA ≠ I := q17 _ q10
  have iC : cA ≠ I := q17 _ q5
  have x8 : (dA, oD) ∈ nw8 := w0 _ (.tail _ q7) n1 n2
  have y8 : (upA, listOf vu.toArray nu) ∈ nw8 := w0 _ (.tail _ q10) n3 n4
  have y9 : (upA, listOf vu.toArray nu) ∈ nw9 := u2 _ y8 n5
  have hI10 : (I, it) ∈ nw10 := v2 _ (u2 _ (w0 _ (.head _) iA iT) (Ne.symm iD)) (Ne.symm iU)
  have c9 := c2.upd N8 x8 (dict_data q8) n1 (.head _) u2
  have c10 := c9.upd N9 y9 (fun vs e => by cases e) n3 (.tail _ (.head _)) v2
  have hlt : ∀ p ∈ Lp, p.1 ≠ a := fun p hp => by
    have h1 : p.1 ∈ tl.take (2 * i) := q12.perm.subset (List.mem_append_left _ (List.mem_map.mpr ⟨p, hp, rfl⟩))
    obtain ⟨j, hj, e⟩ := List.getElem_of_mem h1
    rw [List.length_take] at hj
    rw [List.getElem_take] at e
    intro e2
    rw [e2] at e
    have e3 : tl.getD j 0 = a := by rw [List.getD_eq_getElem?_getD, List.getElem?_eq_getElem (by omega)]; exact e
    rcases hab with ⟨r, _⟩ | ⟨_, r⟩
    · have := getD_inj hn (i := j) (j := 2 * i) (by omega) (by omega) (by rw [e3, hf0, r])
      omega
    · have := getD_inj hn (i := j) (j := 2 * i + 1) (by omega) (by omega) (by rw [e3, hs0, r])
      omega
  rw [putD_new hlt] at u4
  have hpr : mkPair s0 f0 = mkPair a b := by
    rcases hab with ⟨rfl, rfl⟩ | ⟨rfl, rfl⟩
    · exact mkPair_comm _ _
    · rfl
  have hnI : ∀ x ∈ addrs ++ new ++ newp, x ≠ I := by
    intro x hx
    rcases List.mem_append.mp hx with hx | hx
    · obtain ⟨o, ho⟩ := q13.in x hx
      exact q17 _ ho
    · exact Ne.symm (Nat.ne_of_lt (c3 x hx _ (.head _)))
  have hlen : newp.length = 1 := by
    have l1 := c2.pairs.length
    have l2 := q13.pairs.length
    simp only [List.length_append, List.length_map, List.length_cons, List.length_nil] at l1 l2
    omega
  have c11 := c10.less N10 hI10 (.inl hit) iA iT hnI (news' := less I nw10) (fun q hq hne => less_of hq hne)
  rw [hpr] at c11
  refine ⟨news_split N10 hI10, less_ne, Lp ++ [(a, b)], new ++ newp, oD9, kvs9, nu + 1, vu ++ [.int a ta], oC, q1, ⟨less_of (v2 _ (u2 _ (w0 _ (.tail _ q5) n8 n9) n6) n7) iC, q6⟩, ⟨less_of (v2 _ u1 (Ne.symm n5)) iD, u3, u4⟩, ⟨less_of (by simpa using v1) iU, ?_⟩, q12.snoc (by omega) ?_ hle, ?_, fun q hq e1 e2 => ?_, fun x hx q hq => ?_, ?_, less_ne⟩
  · rw [List.map_append]
    exact IntsAre.append q11 (.cons _ _ .nil)
  · rw [hf0, hs0]; exact hab
  · rw [List.map_append, ← List.append_assoc, ← List.append_assoc]; exact c11
  · have := hup q hq
    have h1 : q.1 ≠ dA := Nat.ne_of_lt this
    have h2 : q.1 ≠ upA := Nat.ne_of_lt (Nat.lt_trans this hda)
    exact less_of (v2 _ (u2 _ (w0 _ (.tail _ (q14 q hq e1 e2)) e1 e2) h1) h2) (q17 _ (q14 q hq e1 e2))
  · rcases List.mem_append.mp hx with hx | hx
    · exact q15 x hx q hq
    · have := c3 x hx _ (.tail _ q7)
      exact Nat.lt_trans (hup q hq) this
  · rw [List.length_append]; omega
end

section
section
variable {prog : Program} {w : World} {A : Around} {E : Value → Shared → Prop} {s : Shared} {h₀ : Heap} {L : Addr} {m : Str → Option Value} {env : Env} {elt : PySem.Expr} {x : Str} {scope : Scope} {cl : List (Str × Addr)} {S : List (Addr × Obj) → Prop} {P : Nat → Value → Prop} {Fin : List Value → List (Addr × Obj) → Prop} {n : Nat}
/-- a comprehension's turns by an invariant over the list made so far and the ledger -/
theorem compRest_of (Inv : Nat → List Value → List (Addr × Obj) → Prop)
    (turn : ∀ i ys news v I oI C oC D m₂ h tk (E' : Value → Shared → Prop), i < n → Inv i ys news → P i v → LCg.NsObj oC m₂ → m₂ x = some v → Fr h₀ L h m → News h₀ L h ((I, oI) :: (C, oC) :: (D, LCg.lst ys) :: news) → LCg.Off3 I C D news → ((@Ne Nat I C) ∧ (@Ne Nat I D) ∧ (@Ne Nat C D)) →
      wpAny (model prog w) A (eval elt (compEnvC scope cl C env)) (fun y s₂ => Stop (∃ h' tk' news', s₂ = { s with heap := h', toks := tk' } ∧ Fr h₀ L h' m ∧ News h₀ L h' ((I, oI) :: (C, oC) :: (D, LCg.lst ys) :: news') ∧ (∀ p ∈ news', p.1 ≠ I ∧ p.1 ≠ C ∧ p.1 ≠ D) ∧ S news' ∧ Inv (i + 1) (ys ++ [y]) news')) E' { s with heap := h, toks := tk })
    (done : ∀ ys news, Inv n ys news → Fin ys news) :
    ∀ j i, i + j = n → ∀ ys news, Inv i ys news → LCg.CompRest prog w A h₀ L m env elt x scope cl s S P Fin j i ys news := by
  intro j
  induction j with
  | zero =>
    intro i hi ys news hI
    have e : i = n := by omega
    subst e
    exact LCg.CompRest.zero (done _ _ hI)
  | succ j ih =>
    intro i hi ys news hI
    refine LCg.CompRest.succ fun v I oI C oC D m₂ h tk E' hP ho hx F N off hne => ?_
    refine wpAny_mono (turn i ys news v I oI C oC D m₂ h tk E' (by omega) hI hP ho hx F N off hne) (fun y s₂ hh => ?_) fun _ _ x => x
    obtain ⟨⟨h', tk', news', rfl, F', N', off', hS, hI'⟩⟩ := hh
    exact ⟨h', tk', news', rfl, F', N', LCg.Off3.of off', hS, ih (i + 1) (by omega) _ _ hI'⟩
end
section
variable {prog : Program} {w : World} {A : Around} {E : Value → Shared → Prop} {s : Shared} {env : Env} {h₀ : Heap} {target : PySem.Expr} {body : List Stmt} {Q : Flow → Shared → Prop} {I ax : Addr} {lo : Obj} {cls : String} {vs : List Value}
/-- a for loop's turns over a list's items by an invariant over the frame's map and the ledger -/
theorem itemsRest_of (Inv : Nat → (Str → Option Value) → List (Addr × Obj) → Prop)
    (turn : ∀ i v m news oI h tk, vs[i]? = some v → Inv i m news → (∀ p ∈ news, p.1 ≠ I) → Fr h₀ env.locals h m → News h₀ env.locals h ((I, oI) :: news) →
      wpAny (model prog w) A (assign target env v) (fun _ s₂ => wpAny (model prog w) A (execs body env) (fun f s₃ => Stop (f = .next ∧ ∃ h' tk' m' news', s₃ = { s with heap := h', toks := tk' } ∧ Fr h₀ env.locals h' m' ∧ News h₀ env.locals h' ((I, oI) :: news') ∧ (∀ p ∈ news', p.1 ≠ I) ∧ (ax, lo) ∈ news' ∧ Inv (i + 1) m' news')) E s₂) E { s with heap := h, toks := tk })
    (done : ∀ m news h tk, Inv vs.length m news → Fr h₀ env.locals h m → News h₀ env.locals h news → Q .next { s with heap := h, toks := tk }) :
    ∀ r i, vs.drop i = r → i ≤ vs.length → ∀ m news, Inv i m news → (∀ p ∈ news, p.1 ≠ I) → ItemsRest prog w A E h₀ env target body Q s [(I, cls)] [(ax, lo)] (r.map .val) m news := by
  intro r
  induction r with
  | nil =>
    intro i hi hle m news hI hoI
    have hl : i = vs.length := by
      have := congrArg List.length hi
      rw [List.length_drop] at this
      simp at this; omega
    subst hl
    exact ItemsRest.zero fun h tk F N => done m news h tk hI F N
  | cons v r ih =>
    intro i hi hle m news hI hoI
    have hv : vs[i]? = some v := by
      have := congrArg (·[0]?) hi
      simpa using this
    have hlt : i < vs.length := (List.getElem?_eq_some_iff.mp hv).1
    refine ItemsRest.val fun h tk F => AllObj.cons fun oI hc => AllObj.nil fun N => ?_
    refine wpAny_mono (turn i v m news oI h tk hv hI hoI F N) (fun _ s₂ hh => ?_) fun _ _ x => x
    refine wpAny_mono hh (fun f s₃ hh => ?_) fun _ _ x => x
    obtain ⟨⟨rfl, h', tk', m', news', rfl, F', N', off, hk, hI'⟩⟩ := hh
    refine ⟨h', tk', m', news', rfl, F', N', fun p hp q hq => ?_, ?_, ih (i + 1) ?_ hlt m' news' hI' off⟩
    · rw [List.mem_singleton.mp hq]; exact off p hp
    · exact ⟨hk, trivial⟩
    · rw [← List.drop_drop, hi]; rfl
end
theorem off1_mem {D : Addr} : ∀ {l : List (Addr × Obj)}, LCg.Off1 D l → ∀ p ∈ l, p.1 ≠ D
  | [], _, _, h => nomatch h
  | _ :: _, x, p, h => by
    rcases List.mem_cons.mp h with rfl | h
    · exact x.1
    · exact off1_mem x.2 p h
/-- pairs of ints, each a tuple of its own -/
inductive TupsAt (news : List (Addr × Obj)) : List Value → List (Int × Int) → Prop
  | nil : TupsAt news [] []
  | cons {a : Addr} {i j : Int} {t u : Tok} {vs : List Value} {ps : List (Int × Int)} : (a, ({ cls := .type "tuple", data := .seq #[.int i t, .int j u] } : Obj)) ∈ news → TupsAt news vs ps → TupsAt news (.ref a :: vs) ((i, j) :: ps)
theorem TupsAt.mono {news news' : List (Addr × Obj)} {vs : List Value} {ps : List (Int × Int)} (h : TupsAt news vs ps) (hs : ∀ a its, (a, ({ cls := .type "tuple", data := .seq its } : Obj)) ∈ news → (a, ({ cls := .type "tuple", data := .seq its } : Obj)) ∈ news') : TupsAt news' vs ps := by
  induction h with
  | nil => exact .nil
  | cons hm _ ih => exact .cons (hs _ _ hm) ih
theorem TupsAt.snoc {news : List (Addr × Obj)} {vs : List Value} {ps : List (Int × Int)} {a : Addr} {i j : Int} {t u : Tok} (h : TupsAt news vs ps) (hm : (a, ({ cls := .type "tuple", data := .seq #[.int i t, .int j u] } : Obj)) ∈ news) : TupsAt news (vs ++ [.ref a]) (ps ++ [(i, j)]) := by
  induction h with
  | nil => exact .cons hm .nil
  | cons h1 _ ih => exact .cons h1 ih
theorem TupsAt.dat {news : List (Addr × Obj)} {vs : List Value} {ps : List (Int × Int)} (h : TupsAt news vs ps) : DatAll news vs (ps.map fun p => .tuple [.int p.1, .int p.2]) := by
  induction h with
  | nil => exact .nil
  | cons hm _ ih => exact .cons (DatIn.tuple (vs := [_, _]) hm (.cons (.int _ _) (.cons (.int _ _) .nil))) ih
section
variable {prog : Program} {w : World} {A : Around} {E : Value → Shared → Prop} {s : Shared} {h₀ : Heap} {L a b : Addr} {news : List (Addr × Obj)}
theorem ne_empty {vs : List Value} {n k : Nat} {ps : List (Int × Int)} {Q : Value → Shared → Prop} (N : News h₀ L s.heap news) (ha : (a, listOf vs.toArray n) ∈ news) (hv : TupsAt news vs ps) (hb : (b, listOf #[] k) ∈ news) (hu : A.units + 64 < cLine)
    (h : Q (.bool (!decide (ps = []))) s) : wpAny (model prog w) A (compareOp .NotEq (.ref a) (.ref b)) Q E s := by
  refine kqd_ne (n₁ := news) (n₂ := []) (xs := vs) (ys := []) (ds := ps.map fun p => .tuple [.int p.1, .int p.2]) (es := []) N ha rfl rfl hv.dat (fun _ h => h) hb rfl rfl .nil (fun _ h => nomatch h) ?_ (fun _ h => nomatch h) hu ?_
  · intro d hd
    obtain ⟨p, _, rfl⟩ := List.mem_map.mp hd
    rfl
  · have : (ps.map (fun p : Int × Int => Dat.tuple [.int p.1, .int p.2]) = []) = (ps = []) := by simp
    rw [show (decide (ps.map (fun p : Int × Int => Dat.tuple [.int p.1, .int p.2]) = [])) = decide (ps = []) from by simp]
    exact h
end
theorem TupsAt.length {news : List (Addr × Obj)} {vs : List Value} {ps : List (Int × Int)} (h : TupsAt news vs ps) : vs.length = ps.length := by
  induction h with
  | nil => rfl
  | cons _ _ ih => simp [ih]
theorem TupsAt.at {news : List (Addr × Obj)} {vs : List Value} {ps : List (Int × Int)} (h : TupsAt news vs ps) : ∀ (i : Nat) (v : Value), vs[i]? = some v → ∃ (a : Addr) (p q : Int) (t u : Tok), v = Value.ref a ∧ ps[i]? = some (p, q) ∧ (a, ({ cls := .type "tuple", data := .seq #[.int p t, .int q u] } : Obj)) ∈ news := by
  induction h with
  | nil => intro i v h; cases i <;> cases h
  | cons hm _ ih =>
    intro i v h
    cases i with
    | zero => cases h; exact ⟨_, _, _, _, _, rfl, rfl, hm⟩
    | succ i => exact ih i v h
theorem TupsAt.take {news : List (Addr × Obj)} {vs : List Value} {ps : List (Int × Int)} (h : TupsAt news vs ps) : ∀ n, TupsAt news (vs.take n) (ps.take n) := by
  induction h with
  | nil => intro n; simpa using TupsAt.nil
  | cons hm _ ih =>
    intro n
    cases n with
    | zero => exact .nil
    | succ n => exact .cons hm (ih n)
theorem TupsAt.drop {news : List (Addr × Obj)} {vs : List Value} {ps : List (Int × Int)} (h : TupsAt news vs ps) : ∀ n, TupsAt news (vs.drop n) (ps.drop n) := by
  induction h with
  | nil => intro n; simpa using TupsAt.nil
  | cons hm h2 ih =>
    intro n
    cases n with
    | zero => exact .cons hm h2
    | succ n => exact ih n
theorem TupsAt.append {news : List (Addr × Obj)} {vs ws : List Value} {ps qs : List (Int × Int)} (h : TupsAt news vs ps) (h2 : TupsAt news ws qs) : TupsAt news (vs ++ ws) (ps ++ qs) := by
  induction h with
  | nil => exact h2
  | cons hm _ ih => exact .cons hm ih
theorem TupsAt.reverse {news : List (Addr × Obj)} {vs : List Value} {ps : List (Int × Int)} (h : TupsAt news vs ps) : TupsAt news vs.reverse ps.reverse := by
  induction h with
  | nil => exact .nil
  | cons hm _ ih => rw [List.reverse_cons, List.reverse_cons]; exact ih.snoc hm
end

section
/-- the outer loop's state -/
structure OutSt (val : Int → Nat) (tl greater : List Int) (WT : List (Int × Int)) (base o : Nat) (ch : List Int) (asks : List (Int × Int)) : Prop where
  inv : MInv val tl greater ch (WT.drop o) asks
  len : ch.length = 1 + greater.length + min o WT.length
  few : asks.length ≤ base + c3 (min o WT.length)
/-- the inner loop's state, behind j turns -/
structure InSt (val : Int → Nat) (tl greater : List Int) (WT : List (Int × Int)) (base o j : Nat) (ch : List Int) (asks : List (Int × Int)) : Prop where
  inv : MInv val tl greater ch (((WT.drop o).take 2).reverse.drop j ++ WT.drop (o + 2)) asks
  len : ch.length = 1 + greater.length + (o + j)
  few : asks.length ≤ base + c3 o + (if o = 0 then 2 else 3) * j
theorem OutSt.start {val : Int → Nat} {tl greater ch : List Int} {WT asks : List (Int × Int)} {base o : Nat} (h : OutSt val tl greater WT base o ch asks) (ho : o < WT.length) : InSt val tl greater WT base o 0 ch asks := by
  have e : min o WT.length = o := Nat.min_eq_left (Nat.le_of_lt ho)
  refine ⟨h.inv.swap ?_, by rw [h.len, e]; rfl, by have := h.few; rw [e] at this; omega⟩
  rw [List.drop_zero]
  have : WT.drop (o + 2) = (WT.drop o).drop 2 := by rw [List.drop_drop]
  rw [this]
  refine (List.Perm.append_right _ (List.reverse_perm _)).trans ?_
  rw [List.take_append_drop]
theorem InSt.stop {val : Int → Nat} {tl greater ch : List Int} {WT asks : List (Int × Int)} {base o : Nat} (h : InSt val tl greater WT base o ((WT.drop o).take 2).length ch asks) (ho : o < WT.length) (ho2 : o = 0 ∨ o = 2) (hw : WT.length ≤ 4) : OutSt val tl greater WT base (o + 2) ch asks := by
  have e : ((WT.drop o).take 2).length = min 2 (WT.length - o) := by rw [List.length_take, List.length_drop]
  have hi := h.inv
  rw [List.drop_eq_nil_of_le (by rw [List.length_reverse]; exact Nat.le_refl _), List.nil_append] at hi
  refine ⟨hi, ?_, ?_⟩
  · rw [h.len, e]; omega
  · have := h.few
    rw [e] at this
    refine Nat.le_trans this ?_
    unfold c3
    rcases ho2 with rfl | rfl
    · rw [if_pos (by omega), if_pos rfl, if_pos (by omega)]; omega
    · rw [if_pos (by omega), if_neg (by omega)]
      split <;> omega
theorem InSt.step {val : Int → Nat} {tl greater ch : List Int} {WT asks : List (Int × Int)} {base o j : Nat} {x : Int × Int} {r : List (Int × Int)} (h : InSt val tl greater WT base o j ch asks) (hn : tl.Nodup) (h0 : ∀ o ∈ tl, 0 ≤ o) (hW : WaitOk greater WT)
    (hx : ((WT.drop o).take 2).reverse.drop j = x :: r) (ho2 : o = 0 ∨ o = 2) (hw : WT.length ≤ 4) :
    InSt val tl greater WT base o (j + 1) (ch.take (bisR (fun o => decide (val x.1 < val o)) ch 0 (highOf ch x)).1 ++ x.1 :: ch.drop (bisR (fun o => decide (val x.1 < val o)) ch 0 (highOf ch x)).1) (asks ++ (bisR (fun o => decide (val x.1 < val o)) ch 0 (highOf ch x)).2.map (mkPair x.1)) := by
  have hr : ((WT.drop o).take 2).reverse.drop (j + 1) = r := by
    rw [← List.drop_drop, hx]; rfl
  have hi := h.inv
  rw [hx] at hi
  have hl : ((WT.drop o).take 2).length = min 2 (WT.length - o) := by rw [List.length_take, List.length_drop]
  have hj : j < ((WT.drop o).take 2).reverse.length := by
    by_cases hj : j < ((WT.drop o).take 2).reverse.length
    · exact hj
    · rw [List.drop_eq_nil_of_le (by omega)] at hx; cases hx
  have hj2 := hj
  rw [List.length_reverse, hl] at hj2
  have hxe : WT[o + (((WT.drop o).take 2).length - 1 - j)]? = some x := by
    rw [List.drop_eq_getElem_cons hj] at hx
    injection hx with h1 _
    rw [List.getElem_reverse] at h1
    rw [List.getElem_take, List.getElem_drop] at h1
    rw [List.getElem?_eq_getElem (by rw [hl]; omega)]
    exact congrArg some h1
  have hb := high_bound hW h.inv.sub h.len hxe
  have hb2 : highOf ch x ≤ 2 * o + 3 := by rw [hl] at hb; omega
  have hle := highOf_le ch x
  have hq : (bisR (fun o => decide (val x.1 < val o)) ch 0 (highOf ch x)).2.length ≤ (if o = 0 then 2 else 3) := by
    refine bisR_len _ _ _ _ _ ?_
    rcases ho2 with rfl | rfl
    · rw [if_pos rfl]; omega
    · rw [if_neg (by omega)]; omega
  have hs := MInv.step (R := r ++ WT.drop (o + 2)) hi hn h0
  refine ⟨?_, ?_, ?_⟩
  · rw [hr]; exact hs
  · have hp := hs.perm.length_eq
    have hp2 := hi.perm.length_eq
    simp only [List.length_append, List.length_cons, List.length_map] at hp hp2 ⊢
    have := h.len
    omega
  · rw [List.length_append, List.length_map]
    have := h.few
    rw [Nat.mul_add, Nat.mul_one]
    omega
def szOf (o : Nat) : Int := if o = 4 then 6 else 2
def pwOf (o : Nat) : Int := if o = 0 then 4 else if o = 2 then 8 else 16
/-- the frame and the ledger in the second loop -/
structure MSt (WT : List (Int × Int)) (askA nm chA wtA : Addr) (o : Nat) (news0 : List (Addr × Obj)) (D addrs0 : List Addr) (pairs0 : List (Int × Int)) (ch : List Int) (asks : List (Int × Int)) (m : Str → Option Value) (nw : List (Addr × Obj)) : Prop where
  names : m "names" = some (.ref nm)
  asked : m "asked" = some (.ref askA)
  chain : m "chain" = some (.ref chA)
  waiting : m "waiting" = some (.ref wtA)
  size : ∃ t, m "size" = some (.int (szOf o) t)
  power : ∃ t, m "power" = some (.int (pwOf o) t)
  chl : ∃ vc nc, (chA, listOf vc.toArray nc) ∈ nw ∧ IntsAre vc ch
  wtl : ∃ vw wn, (wtA, listOf vw.toArray wn) ∈ nw ∧ TupsAt nw vw (WT.drop o)
  ne : wtA ≠ chA ∧ wtA ≠ askA
  ask : ∃ new, AskSt nw (chA :: D) askA (addrs0 ++ new) (pairs0 ++ asks) ∧ ∀ a ∈ new, ∀ q ∈ news0, q.1 < a
  keep : ∀ q ∈ news0, q.1 ≠ askA → q.1 ≠ 100 → q ∈ nw
theorem MSt.sub {WT : List (Int × Int)} {askA nm chA wtA : Addr} {o : Nat} {news0 : List (Addr × Obj)} {D addrs0 : List Addr} {pairs0 : List (Int × Int)} {ch : List Int} {asks : List (Int × Int)} {m : Str → Option Value} {nw nw' : List (Addr × Obj)} (h : MSt WT askA nm chA wtA o news0 D addrs0 pairs0 ch asks m nw) (hs : ∀ q ∈ nw, q ∈ nw') : MSt WT askA nm chA wtA o news0 D addrs0 pairs0 ch asks m nw' :=
  ⟨h.names, h.asked, h.chain, h.waiting, h.size, h.power, let ⟨vc, nc, a, b⟩ := h.chl; ⟨vc, nc, hs _ a, b⟩, let ⟨vw, wn, a, b⟩ := h.wtl; ⟨vw, wn, hs _ a, b.mono fun _ _ x => hs _ x⟩, h.ne, let ⟨new, a, b⟩ := h.ask; ⟨new, a.sub hs, b⟩, fun q hq a b => hs _ (h.keep q hq a b)⟩
/-- the second loop, before a turn -/
def WInv (val : Int → Nat) (tl greater : List Int) (WT : List (Int × Int)) (base : Nat) (askA nm chA : Addr) (news0 : List (Addr × Obj)) (D addrs0 : List Addr) (pairs0 : List (Int × Int)) (n : Nat) (m : Str → Option Value) (nw : List (Addr × Obj)) : Prop :=
  ∃ o ch asks wtA, n = 4 - o ∧ (o = 0 ∨ o = 2 ∨ o = 4) ∧ OutSt val tl greater WT base o ch asks ∧ MSt WT askA nm chA wtA o news0 D addrs0 pairs0 ch asks m nw
/-- the inner loop, before a turn -/
def FInv (val : Int → Nat) (tl greater : List Int) (WT : List (Int × Int)) (base : Nat) (askA nm chA wtA rvA : Addr) (lo : Obj) (vs : List Value) (o : Nat) (news0 : List (Addr × Obj)) (D addrs0 : List Addr) (pairs0 : List (Int × Int)) (j : Nat) (m : Str → Option Value) (nw : List (Addr × Obj)) : Prop :=
  ∃ ch asks, InSt val tl greater WT base o j ch asks ∧ MSt WT askA nm chA wtA o news0 D addrs0 pairs0 ch asks m nw ∧ (rvA, lo) ∈ nw ∧ TupsAt nw vs ((WT.drop o).take 2).reverse
end

section
theorem kf_of {vs : List Value} {ns : List Int} (h : IntsAre vs ns) : kf_ints vs = true := by
  induction h with
  | nil => rfl
  | cons n t _ ih => exact ih
theorem kf_at_of {vs : List Value} {ns : List Int} (h : IntsAre vs ns) {k : Int} (hk : k ∈ ns) : kf_at k vs = some (ns.idxOf k) := by
  induction h with
  | nil => cases hk
  | @cons n t vs ns _ ih =>
    unfold kf_at
    by_cases e : n = k
    · subst e
      have : isInt n (.int n t) = true := by simp [isInt]
      rw [this, List.idxOf_cons_self]; rfl
    · have h1 : isInt k (.int n t) = false := by simp [isInt, e]
      have h2 : (n == k) = false := by simp [e]
      rw [h1, ih (List.mem_of_ne_of_mem (Ne.symm e) hk), List.idxOf_cons, h2]
      rfl
theorem IntsAre.take {vs : List Value} {ns : List Int} (h : IntsAre vs ns) : ∀ n, IntsAre (vs.take n) (ns.take n) := by
  induction h with
  | nil => intro n; simpa using IntsAre.nil
  | cons k t _ ih =>
    intro n
    cases n with
    | zero => exact .nil
    | succ n => exact .cons _ _ (ih n)
theorem IntsAre.drop {vs : List Value} {ns : List Int} (h : IntsAre vs ns) : ∀ n, IntsAre (vs.drop n) (ns.drop n) := by
  induction h with
  | nil => intro n; simpa using IntsAre.nil
  | cons k t h2 ih =>
    intro n
    cases n with
    | zero => exact .cons _ _ h2
    | succ n => exact ih n
theorem IntsAre.app {vs ws : List Value} {ns ms : List Int} (h : IntsAre vs ns) (h2 : IntsAre ws ms) : IntsAre (vs ++ ws) (ns ++ ms) := by
  induction h with
  | nil => exact h2
  | cons k t _ ih => exact .cons _ _ ih
theorem kl_ins_of {vs : List Value} {n : Nat} (y : Value) (h : n ≤ vs.length) : kl_ins vs (n : Int) y = vs.take n ++ y :: vs.drop n := by
  unfold kl_ins
  rw [if_neg (by omega)]
  rw [show min ((n : Nat) : Int).toNat vs.length = n by omega]
theorem fits_of {n : Nat} (h : n < 1000) : Builtin.List.listFitsIndex (n : Int) = true := by
  unfold Builtin.List.listFitsIndex
  simp only [Bool.and_eq_true, decide_eq_true_eq]
  omega
theorem drop_of {l : List (Int × Int)} {j : Nat} {x : Int × Int} (h : l[j]? = some x) : l.drop j = x :: l.drop (j + 1) := by
  obtain ⟨h1, h2⟩ := List.getElem?_eq_some_iff.mp h
  rw [List.drop_eq_getElem_cons h1, h2]
theorem costT_le : ∀ n < 11, n / 2 + costT (n / 2) ≤ 12 := by decide
theorem c3_le (o : Nat) (h : o = 0 ∨ o = 2) : c3 o ≤ 4 := by
  rcases h with rfl | rfl <;> decide
section
variable {prog : Program} {w : World} {A : Around} {E : Value → Shared → Prop} {s : Shared} {h₀ : Heap} {L D : Addr} {m : Str → Option Value} {news : List (Addr × Obj)} {n : Nat}
/-- insert into a list of ints of the ledger -/
theorem insert_M {vs : List Value} {k : Nat} {u : Tok} {y : Value} {Q : Value → Shared → Prop} (F : Fr h₀ L s.heap m) (N : News h₀ L s.heap news) (hm : (D, listOf vs.toArray n) ∈ news) (hk : k ≤ vs.length) (hk2 : k < 1000) (hz : vs.length ≤ sizeLine)
    (h : ∀ h' news', Fr h₀ L h' m → News h₀ L h' news' → (D, listOf (vs.take k ++ y :: vs.drop k).toArray (n + 1)) ∈ news' → (∀ p ∈ news, p.1 ≠ D → p ∈ news') → Q .none { s with heap := h' }) :
    wpAny (model prog w) A (call (.builtin "list.insert") [.ref D, .int (k : Nat) u, y]) Q E s :=
  kl_insert F (news_split N hm) (fits_of hk2) (by rw [List.toList_toArray]; exact kl_ins_of y hk) (.head less_ne) (by simpa using hz) fun h' F' N' => h h' _ F' N' (.head _) (fun p hp hn => .tail _ (less_of hp hn))
end
end

section
theorem bisR_hi (p : Int → Bool) (row : List Int) : ∀ n lo hi, hi - lo = n → lo ≤ hi → (bisR p row lo hi).1 ≤ hi := by
  intro n
  induction n using Nat.strongRecOn with
  | _ n ih =>
    intro lo hi hn hle
    by_cases h : lo < hi
    · rw [bisR_step h]
      split
      · have := ih ((lo + hi) / 2 - lo) (by omega) lo ((lo + hi) / 2) rfl (by omega)
        dsimp only; omega
      · exact ih (hi - ((lo + hi) / 2 + 1)) (by omega) ((lo + hi) / 2 + 1) hi rfl (by omega)
    · rw [bisR_end h]; exact hle
theorem turn_next {val : Int → Nat} {tl greater : List Int} {WT : List (Int × Int)} {base o j : Nat} {ch : List Int} {asks : List (Int × Int)} {askA nm chA wtA rvA I2 L : Addr} {lo oI : Obj} {vs : List Value} {news0 nw10 nw11 nw12 : List (Addr × Obj)} {D addrs0 newp new4 : List Addr} {pairs0 : List (Int × Int)} {m21 m25 : Str → Option Value} {p q : Int} {t1 : Tok} {gE h25 h28 h30 : Heap} {vc : List Value} {nc : Nat}
  (hS : InSt val tl greater WT base o j ch asks) (hM : MSt WT askA nm chA wtA o news0 D addrs0 pairs0 ch asks m21 nw10) (hr : (rvA, lo) ∈ nw10) (ht : TupsAt nw10 vs ((WT.drop o).take 2).reverse) (hoI : ∀ p ∈ nw10, p.1 ≠ I2)
  (hx : ((WT.drop o).take 2).reverse[j]? = some (p, q)) (hn : tl.Nodup) (h0 : ∀ o ∈ tl, 0 ≤ o) (hW : WaitOk greater WT) (ho2 : o = 0 ∨ o = 2) (hw : WT.length ≤ 4)
  (hA22 : AskSt nw10 (chA :: D) askA (addrs0 ++ new4) (pairs0 ++ asks)) (hf22 : ∀ a ∈ new4, ∀ q ∈ news0, q.1 < a)
  (N25 : News gE L h25 ((I2, oI) :: nw10)) (N28 : News gE L h28 nw11) (N30 : News gE L h30 nw12)
  (c1 : ∀ q ∈ (I2, oI) :: nw10, q.1 ≠ askA → q.1 ≠ 100 → q ∈ nw11)
  (c2 : AskSt nw11 (chA :: D) askA (addrs0 ++ new4 ++ newp) (pairs0 ++ asks ++ (bisR (fun o => decide (val p < val o)) ch 0 (highOf ch (p, q))).2.map (mkPair p)))
  (c3 : ∀ a ∈ newp, ∀ q ∈ (I2, oI) :: nw10, q.1 < a)
  (c4 : ∀ I, (∃ o, (I, o) ∈ (I2, oI) :: nw10) → TabOff ((I2, oI) :: nw10) I → TabOff nw11 I)
  (hcl : (chA, listOf vc.toArray nc) ∈ nw10) (hvc : IntsAre vc ch)
  (v1 : (chA, listOf (vc.take (bisR (fun o => decide (val p < val o)) ch 0 (highOf ch (p, q))).1 ++ .int p t1 :: vc.drop (bisR (fun o => decide (val p < val o)) ch 0 (highOf ch (p, q))).1).toArray (nc + 1)) ∈ nw12)
  (v2 : ∀ q ∈ nw11, q.1 ≠ chA → q ∈ nw12)
  (hm25 : ∀ z : Str, z ≠ "above" → z ≠ "one" → z ≠ "high" → m25 z = m21 z)
  (hrA : rvA ≠ askA) (hr100 : rvA ≠ 100) (hrc : rvA ≠ chA) (hchA : chA ≠ askA) (hch100 : chA ≠ 100) (hchN : ∀ q ∈ news0, q.1 ≠ chA) :
  News gE L h30 ((I2, oI) :: less I2 nw12) ∧ (∀ p ∈ less I2 nw12, p.1 ≠ I2) ∧ (rvA, lo) ∈ less I2 nw12 ∧ FInv val tl greater WT base askA nm chA wtA rvA lo vs o news0 D addrs0 pairs0 (j + 1) m25 (less I2 nw12) := by
  obtain ⟨nqA, eA⟩ := hA22.ask
  obtain ⟨psT, eT, _⟩ := hA22.tab
  have hIA : I2 ≠ askA := Ne.symm (hoI _ eA)
  have hI100 : I2 ≠ 100 := Ne.symm (hoI _ eT)
  have hIc : I2 ≠ chA := Ne.symm (hoI _ hcl)
  have hI12 : (I2, oI) ∈ nw12 := v2 _ (c1 _ (.head _) hIA hI100) hIc
  have keep : ∀ q ∈ nw10, q.1 ≠ askA → q.1 ≠ 100 → q.1 ≠ chA → q ∈ less I2 nw12 := fun q hq a b c => less_of (v2 _ (c1 _ (.tail _ hq) a b) c) (hoI q hq)
  have N10 : News gE L h25 nw10 := news_sub N25 fun p hp => .tail _ hp
  have keepT : ∀ a its, (a, ({ cls := .type "tuple", data := .seq its } : Obj)) ∈ nw10 → (a, ({ cls := .type "tuple", data := .seq its } : Obj)) ∈ less I2 nw12 := fun a its hm =>
    keep _ hm (news_ne N10 hm eA (fun e => by injection e with e; injection e with e; exact absurd e (by decide))) (news_ne N10 hm eT (fun e => by cases e)) (news_ne N10 hm hcl (fun e => by injection e with e; injection e with e; exact absurd e (by decide)))
  have hrm := keep _ hr hrA hr100 hrc
  have hwm := hM.wtl
  obtain ⟨vw, wn, hwl, hvw⟩ := hwm
  have hw100 : wtA ≠ 100 := news_ne N10 hwl eT (fun e => by cases e)
  have hS' := hS.step (x := (p, q)) hn h0 hW (drop_of hx) ho2 hw
  have hoff : TabOff nw12 I2 := by
    have h1 : TabOff nw10 I2 := AskSt.off_of hA22 N10 hoI
    have h2 : TabOff ((I2, oI) :: nw10) I2 := fun ps x y c' hm e => by
      rcases List.mem_cons.mp hm with h | h
      · injection h with h _; exact absurd h.symm hI100
      · exact h1 ps x y c' h e
    have h3 := c4 I2 ⟨_, .head _⟩ h2
    obtain ⟨ps2, e2, _⟩ := c2.tab
    intro ps x y c' hm e
    have e3 := v2 _ e2 (Ne.symm hch100)
    have e4 := news_fun N30 hm e3
    exact h3 ps2 x y c' e2 (by injection e4 with _ _ e4 _; injection e4 with e4; rw [← e4]; exact e)
  have hcn11 : ∃ oc, (chA, oc) ∈ nw11 ∧ ∀ vs, oc.data ≠ .fields vs := ⟨_, c1 _ (.tail _ hcl) hchA hch100, fun vs e => by cases e⟩
  obtain ⟨oc, hoc, hocf⟩ := hcn11
  have hA12 := c2.upd N28 hoc hocf hchA (.head _) v2
  have hA13 := hA12.less N30 hI12 (.inr hoff) hIA hI100 (fun a ha => by
    rcases List.mem_append.mp ha with ha | ha
    · obtain ⟨o, ho⟩ := hA22.in a ha
      exact hoI _ ho
    · exact Ne.symm (Nat.ne_of_lt (c3 a ha _ (.head _)))) (news' := less I2 nw12) (fun q hq hne => less_of hq hne)
  rw [List.append_assoc, List.append_assoc] at hA13
  refine ⟨news_split N30 hI12, less_ne, hrm, _, _, hS', ⟨?_, ?_, ?_, ?_, ?_, ?_, ⟨_, _, less_of v1 (Ne.symm hIc), Mine.IntsAre.app (hvc.take _) (.cons _ _ (hvc.drop _))⟩, ⟨vw, wn, keep _ hwl hM.ne.2 hw100 hM.ne.1, hvw.mono keepT⟩, hM.ne, ⟨_, hA13, ?_⟩, ?_⟩, hrm, ht.mono keepT⟩
  · rw [hm25 _ (by decide) (by decide) (by decide)]; exact hM.names
  · rw [hm25 _ (by decide) (by decide) (by decide)]; exact hM.asked
  · rw [hm25 _ (by decide) (by decide) (by decide)]; exact hM.chain
  · rw [hm25 _ (by decide) (by decide) (by decide)]; exact hM.waiting
  · rw [hm25 _ (by decide) (by decide) (by decide)]; exact hM.size
  · rw [hm25 _ (by decide) (by decide) (by decide)]; exact hM.power
  · intro a ha q hq
    rcases List.mem_append.mp ha with ha | ha
    · exact hf22 a ha q hq
    · by_cases e1 : q.1 = askA
      · rw [e1]; exact c3 a ha _ (.tail _ eA)
      by_cases e2 : q.1 = 100
      · rw [e2]; exact c3 a ha _ (.tail _ eT)
      · exact c3 a ha _ (.tail _ (hM.keep _ hq e1 e2))
  · intro q hq e1 e2
    exact keep _ (hM.keep _ hq e1 e2) e1 e2 (hchN q hq)
/-- behind the inner loop: the second loop's next state -/
theorem round_next {val : Int → Nat} {tl greater : List Int} {WT : List (Int × Int)} {base o : Nat} {ch : List Int} {asks : List (Int × Int)} {askA nm chA wtA X : Addr} {news0 nw10 nw13 : List (Addr × Obj)} {D addrs0 : List Addr} {pairs0 : List (Int × Int)} {m21 m33 : Str → Option Value} {vw : List Value} {wn : Nat} {tz tp : Tok}
  (hS : InSt val tl greater WT base o ((WT.drop o).take 2).length ch asks) (hM : MSt WT askA nm chA wtA o news0 D addrs0 pairs0 ch asks m21 nw10) (ho : o < WT.length) (ho2 : o = 0 ∨ o = 2) (hw : WT.length ≤ 4)
  (hvw : TupsAt nw10 vw (WT.drop o)) (hX : (X, listOf (vw.drop 2).toArray wn) ∈ nw13) (hsub : ∀ q ∈ nw10, q ∈ nw13) (hlt : ∀ q ∈ nw10, q.1 < X)
  (hm : ∀ z : Str, z ≠ "waiting" → z ≠ "size" → z ≠ "power" → m33 z = m21 z) (h1 : m33 "waiting" = some (.ref X)) (h2 : m33 "size" = some (.int (pwOf o - 2) tz)) (h3 : m33 "power" = some (.int (2 * pwOf o) tp)) :
  4 - (o + 2) < 4 - o ∧ WInv val tl greater WT base askA nm chA news0 D addrs0 pairs0 (4 - (o + 2)) m33 nw13 := by
  refine ⟨by omega, o + 2, ch, asks, X, rfl, by omega, hS.stop ho ho2 hw, ?_⟩
  obtain ⟨vc, nc, hcl, hvc⟩ := hM.chl
  obtain ⟨new, hA, hf⟩ := hM.ask
  obtain ⟨nqA, eA⟩ := hA.ask
  have hsz : pwOf o - 2 = szOf (o + 2) := by rcases ho2 with rfl | rfl <;> rfl
  have hpw : 2 * pwOf o = pwOf (o + 2) := by rcases ho2 with rfl | rfl <;> rfl
  refine ⟨?_, ?_, ?_, h1, ⟨tz, by rw [← hsz]; exact h2⟩, ⟨tp, by rw [← hpw]; exact h3⟩, ⟨vc, nc, hsub _ hcl, hvc⟩, ⟨_, _, hX, ?_⟩, ⟨Ne.symm (Nat.ne_of_lt (hlt _ hcl)), Ne.symm (Nat.ne_of_lt (hlt _ eA))⟩, ⟨new, hA.sub hsub, hf⟩, fun q hq a b => hsub _ (hM.keep q hq a b)⟩
  · rw [hm _ (by decide) (by decide) (by decide)]; exact hM.names
  · rw [hm _ (by decide) (by decide) (by decide)]; exact hM.asked
  · rw [hm _ (by decide) (by decide) (by decide)]; exact hM.chain
  · rw [← List.drop_drop]
    exact (hvw.drop 2).mono fun _ _ h => hsub _ h
end

section
local macro_rules | `(tactic| walk_at "eval Name") => `(tactic| (k_here; k_dflt (refine' nameX_L ?F ?v ?_ ?a ?b; (case F => k_asm); (case a => rfl); (case b => rfl); (case v => walk_at "my_val"); k_whole)))
local macro_rules | `(tactic| walk_at "call ref") => `(tactic| refine Stop.go ?_)
local macro_rules | `(tactic| walk_at "pyIter ref") => `(tactic| refine Stop.go ?_)
local macro_rules | `(tactic| walk_at "setItem ref int int") => `(tactic| refine Stop.go ?_)
local macro_rules | `(tactic| walk_at "call builtin:list.append") => `(tactic| refine Stop.go ?_)
local macro_rules | `(tactic| walk_at "unpackItems ref") => `(tactic| refine Stop.go ?_)
local macro_rules | `(tactic| walk_at "exec Assign cons ListComp") => `(tactic| refine Stop.go ?_)
local macro_rules | `(tactic| walk_at "getItem ref int") => `(tactic| refine Stop.go ?_)
local macro_rules | `(tactic| walk_at "eval Name") => `(tactic| ((with_reducible show wpAny _ _ (eval (PySem.Expr.Name _ _) (compEnvC _ _ _ _)) _ _ _); refine Stop.go ?_))
local macro_rules | `(tactic| walk_at "exec While") => `(tactic| refine Stop.go ?_)
local macro_rules | `(tactic| walk_at "exec For") => `(tactic| ((with_reducible show wpAny _ _ (exec (PySem.Stmt.For (PySem.Expr.Tuple _ _ _) _ _ _ _) _) _ _ _); refine Stop.go ?_))
local macro_rules | `(tactic| walk_at "exec Assign") => `(tactic| ((with_reducible show wpAny _ _ (exec (PySem.Stmt.Assign _ (PySem.Expr.IfExp _ _ _ _) _) _) _ _ _); (fail_if_success (have hq : Stop True := by assumption)); refine Stop.go ?_))
local macro_rules | `(tactic| walk_at "call builtin:list.index") => `(tactic| refine Stop.go ?_)
local macro_rules | `(tactic| walk_at "call builtin:list.insert") => `(tactic| refine Stop.go ?_)
local macro_rules | `(tactic| walk_at "Stop") => `(tactic| fail)


theorem news_pick {h₀ h : Heap} {L a a' : Addr} {lo : Obj} {y : Addr × Obj} {news : List (Addr × Obj)} (N : News h₀ L h ((a, lo) :: y :: news)) (e : a' = a) : News h₀ L h ((a', lo) :: news) := by
  subst e
  exact news_sub N fun p hp => by
    rcases List.mem_cons.mp hp with rfl | hp
    · exact .head _
    · exact .tail _ (.tail _ hp)
theorem merge_short {val : Int → Nat} {tl : List Int} {m : Nat} (h : tl.length < 2) : MergeOk val tl tl [] m := by
  refine ⟨List.Perm.refl _, ?_, (fun p hp => nomatch hp), List.nodup_nil, Nat.zero_le _⟩
  match tl, h with
  | [], _ => exact .nil
  | [a], _ => exact List.pairwise_cons.mpr ⟨(fun _ h => nomatch h), .nil⟩
  | _ :: _ :: _, h => simp at h; omega
theorem merged_step {w : World} {k : Nat} (IH : MergedSpec w k) : MergedSpec w (k + 1) := by
  intro dp un gd cn cs L a ccd cl outer A₀ base h₀ m mg mb news s Q E p loose mean askA thA nm addrs D rs vsN nr nn N pairs nmf vals tl B F X N0 T C hk hdp hun hth hnm hA hd1 hd2 hd3 hrs hnames hval htl hnod hlen hlen10 hadr hN ret
  refine wpAny_call ?_
  k_dflt walk_at "my_enterC"
  obtain ⟨mE, FE, e1, e2, e3⟩ : ∃ m', Fr gE LE hE m' ∧ m' "things" = some (.ref thA) ∧ m' "names" = some (.ref nm) ∧ m' "asked" = some (.ref askA) := ⟨_, FE, rfl, rfl, rfl⟩
  rename_i o1 d1
  replace d1 : o1.data = .cell none := d1
  walk_at "my_steps"
  refine len_ints_fit (News.isList NE (.tail _ hth)) hrs (by omega) ?_
  walk_at "my_steps"
  · rename Fr h₀ _ _ _ => F9
    rename News h₀ _ _ _ => N9
    rename ((tl.length : Int) < 2) => hlt2
    exact ret thA tl rs.toArray nr [] [] _ _ 0 news F9 (news_sub N9 fun p hp => .tail _ hp) (fun q hq _ _ => hq) (by simpa using hA) (fun a ha => nomatch ha) hth (by simpa using hrs) hd1 (merge_short (by omega))
  rename Fr _ _ _ _ => F1
  rename News _ _ _ _ => N1
  rename Obj.IsDictOf (intKind _ _) _ _ => hDict
  rename PyProof.V.FlatPairs PyData.int _ _ => hFlat
  rename (_ == sysModules) = false => hSys
  rename (¬ (tl.length : Int) < 2) => hge
  rename_i dA hA1 oA _ _ l1
  refine storeX_CM F1 N1 (by rfl) (.tail _ (.head _)) d1 ?_ (by rfl) (by rfl)
  intro h2 news2 o2 F2 N2 hc2 hcd2 hk2
  walk_at "my_steps"
  rename Fr _ _ _ _ => F3
  rename News _ _ _ _ => N3
  rename ∀ (p : Addr × Obj), p ∈ news2 → p.fst < _ => hl3
  rename_i upA hA3 tk3
  have hLth : thA < LE := lE _ hth
  have hth2 : (thA, listOf rs.toArray nr) ∈ news2 := hk2 _ (.tail _ (.tail _ hth)) (neN (a := thA) (b := LE + 1) (by have := ltN hLth; omega))
  refine len_ints_fit (News.isList N3 (.tail _ hth2)) hrs (by omega) ?_
  walk_at "my_steps"
  refine Stop.mk ?_
  rename IsRange _ _ _ _ _ _ _ _ => hR
  rename Fr _ _ _ _ => F4
  rename News _ _ _ _ => N4
  have hdv : Int.fdiv (tl.length : Int) 2 = ((tl.length / 2 : Nat) : Int) := by
    rw [Int.fdiv_eq_ediv_of_nonneg _ (by decide)]; omega
  rw [hdv] at hR
  have hdA : dA < upA := hl3 _ (hk2 _ (.head _) (neN (a := dA) (b := LE + 1) (by have := ltN l1.1; omega)))
  have hask0 : ∀ q ∈ news, q.1 < LE + 1 := fun q hq => Nat.lt_succ_of_lt (lE q hq)
  have hA2 : AskSt news2 D askA addrs pairs := hA.sub fun q hq => hk2 _ (.tail _ (.tail _ hq)) (Nat.ne_of_lt (hask0 q hq))
  have hA3 : AskSt ((upA, listOf #[] 0) :: news2) (dA :: upA :: D) askA addrs pairs := by
    refine ((hA2.more (d := upA) fun a ha e => ?_).more (d := dA) fun a ha e => ?_).sub fun q hq => .tail _ hq
    · obtain ⟨o, ho⟩ := hA2.in a ha
      exact Nat.lt_irrefl a (by have := hl3 _ ho; rw [← e] at this; exact this)
    · obtain ⟨o, ho⟩ := hA.in a ha
      exact Nat.lt_irrefl a (by have := Nat.lt_trans (hask0 _ ho) l1.1; rw [← e] at this; exact this)
  refine iter_rangeUnr (n := tl.length / 2) (by rfl) hR (small_one (by omega) (by omega) (by omega) (by omega)) (by rw [rangeSize_nat]; omega) F4 N4 ?_
  intro I hI
  refine rangeRest_of (L1Inv w (fun i => vals i.toNat) tl thA nm askA upA dA (LE + 1) I news D addrs pairs) ?_ ?_ _ 0 (by omega) _ _
    ⟨[], [], oA, [], 0, [], o2, ⟨e1, e2, e3, rfl⟩, ⟨.tail _ hc2, hcd2⟩, ⟨.tail _ (hk2 _ (.head _) (neN (a := dA) (b := LE + 1) (by have := ltN l1.1; omega))), hDict, hFlat⟩, ⟨.head _, .nil⟩, .zero, by simpa using hA3,
      fun q hq _ _ => .tail _ (hk2 _ (.tail _ (.tail _ hq)) (Nat.ne_of_lt (hask0 q hq))), (by intro a ha; cases ha), Nat.le_refl _, fun p hp => Nat.ne_of_lt (hI p hp)⟩
  · rintro i m2 nw t h5 tk5 it hi ⟨Lp, new, oD, kvs, nu, vu, oC, ⟨q1, q2, q3, q4⟩, ⟨q5, q6⟩, ⟨q7, q8, q9⟩, ⟨q10, q11⟩, q12, q13, q14, q15, q16, q17⟩ hit F5 N5
    clear F4 N4
    have hnm100 : nm ≠ 100 := by
      obtain ⟨ps, et, _⟩ := hA.tab
      exact news_ne N0 hnm et (fun e => by cases e)
    have hth100 : thA ≠ 100 := by
      obtain ⟨ps, et, _⟩ := hA.tab
      exact news_ne N0 hth et (fun e => by cases e)
    have hthA : thA ≠ askA := fun e => hd1 (e ▸ hA.askD)
    have hnmA : nm ≠ askA := fun e => hd2 (e ▸ hA.askD)
    have hthm := q14 _ hth hthA hth100
    have hnmm := q14 _ hnm hnmA hnm100
    rw [Int.zero_add] at F5
    walk_at "my_steps"
    refine item_anyK (News.isList N5 (.tail _ hthm)) hrs (by omega) (by omega) (by omega) (fun tv => ?_) (by with_unfolding_all rfl)
    walk_at "my_steps"
    rename Fr _ _ _ _ => F6
    rename News _ _ _ _ => N6
    refine item_anyK (News.isList N6 (.tail _ hthm)) hrs (by omega) (by omega) (by omega) (fun tv2 => ?_) (by with_unfolding_all rfl)
    walk_at "my_steps"
    refine Stop.mk ?_
    rename Fr _ _ _ _ => F7
    rename News _ _ _ _ => N7
    rename (_ ∧ AllLt _ _) => hl7
    rename_i rowA hA7
    have z1 : ((2 : Int) * (i : Int)).toNat = 2 * i := by omega
    have z2 : ((2 : Int) * (i : Int) + 1).toNat = 2 * i + 1 := by omega
    rw [z1, z2] at F7
    rw [z1] at N7
    rw [z2]
    obtain ⟨f0, hf0⟩ : ∃ f0, tl.getD (2 * i) 0 = f0 := ⟨_, rfl⟩
    obtain ⟨s0, hs0⟩ : ∃ s0, tl.getD (2 * i + 1) 0 = s0 := ⟨_, rfl⟩
    rw [hf0, hs0] at F7
    rw [hf0] at N7
    rw [hs0]
    have hf0m : f0 ∈ tl := by
      rw [← hf0, List.getD_eq_getElem?_getD, List.getElem?_eq_getElem (by omega)]; exact List.getElem_mem _
    have hs0m : s0 ∈ tl := by
      rw [← hs0, List.getD_eq_getElem?_getD, List.getElem?_eq_getElem (by omega)]; exact List.getElem_mem _
    obtain ⟨m7, F7, r1, r2, r3, r4, r5, r6⟩ : ∃ m', Fr gE LE _ m' ∧ m' "things" = some (.ref thA) ∧ m' "names" = some (.ref nm) ∧ m' "asked" = some (.ref askA) ∧ m' "upper" = some (.ref upA) ∧ m' "first" = some (.int f0 tv) ∧ m' "second" = some (.int s0 tv2) := ⟨_, F7, q1, q2, q3, q4, rfl, rfl⟩
    have hlt7 : ∀ p ∈ nw, p.1 < rowA := allLt_mem hl7.2
    have hDn : ∀ d ∈ dA :: upA :: D, ∃ o, (d, o) ∈ nw := by
      intro d hd
      rcases List.mem_cons.mp hd with rfl | hd
      · exact ⟨_, q7⟩
      rcases List.mem_cons.mp hd with rfl | hd
      · exact ⟨_, q10⟩
      by_cases e1 : d = askA
      · obtain ⟨nq, e⟩ := q13.ask; exact ⟨_, e1 ▸ e⟩
      by_cases e2 : d = 100
      · obtain ⟨ps, e, _⟩ := q13.tab; exact ⟨_, e2 ▸ e⟩
      · obtain ⟨o, ho⟩ := hd3 d hd; exact ⟨o, q14 _ ho e1 e2⟩
    have hrowD : rowA ∉ dA :: upA :: D := fun hm => by
      obtain ⟨o, ho⟩ := hDn _ hm; exact Nat.lt_irrefl _ (hlt7 _ ho)
    refine place_ask (hi := 1) (ns := [f0]) (D := dA :: upA :: D) BE F7 XE N7 TE (C.keeps FGE.keep) (by rfl) (by show dp + 1 + 20 < recursionLimit; omega) (by show un + 3 + 90 < cLine; omega) (.head _) (.tail _ (.tail _ hnmm)) (q13.sub fun q hq => .tail _ (.tail _ hq)) (.cons _ _ .nil) hnames hval (htl _ hs0m)
      (by intro o ho; rw [List.mem_singleton.mp ho]; exact htl _ hf0m) (by simp) (by simp) (by rw [List.length_append]; omega) hN (fun e => hrowD (e ▸ q13.askD)) hnmA (fun d hd => let ⟨o, ho⟩ := hDn d hd; ⟨o, .tail _ (.tail _ ho)⟩) ?_
    intro newp tP h8 tk8 nw8 F8 N8 c1 c2 c3 _
    rw [bisR_one] at c2 ⊢
    have w1 : ∀ q ∈ nw, q.1 ≠ askA → q.1 ≠ 100 → q ∈ nw8 := fun q hq => c1 q (.tail _ (.tail _ hq))
    have hLA : askA < LE := let ⟨_, e⟩ := hA.ask; lE _ e
    have hL100 : (100 : Addr) < LE := let ⟨_, e, _⟩ := hA.tab; lE _ e
    have hC8 : (LE + 1, oC) ∈ nw8 := w1 _ q5 (neN (a := LE + 1) (b := askA) (by have := ltN hLA; omega)) (neN (a := LE + 1) (b := 100) (by have := ltN hL100; omega))
    have hask100 : dA ≠ askA := fun e => by
      obtain ⟨nq, e'⟩ := q13.ask
      exact news_ne N5 (.tail _ q7) (.tail _ e') (fun e2 => by obtain ⟨es, ep, _, h2, _⟩ := q8; rw [e2] at h2; cases h2) e
    have hdA100 : dA ≠ 100 := fun e => by
      obtain ⟨ps, e', _⟩ := q13.tab
      exact news_ne N5 (.tail _ q7) (.tail _ e') (fun e2 => by obtain ⟨es, ep, _, h2, _⟩ := q8; rw [e2] at h2; cases h2) e
    have hupA : upA ≠ askA := neN (a := upA) (b := askA) (by have := ltN hLA; have := ltN l1.1; have := ltN hdA; omega)
    have hup100 : upA ≠ 100 := neN (a := upA) (b := 100) (by have := ltN hL100; have := ltN l1.1; have := ltN hdA; omega)
    have hup : ∀ q ∈ news, q.1 < dA := fun q hq => Nat.lt_trans (hask0 q hq) l1.1
    have SN8 := Stop.mk N8
    by_cases hp : vals s0.toNat < vals f0.toNat
    · simp only [hp, decide_true, if_true] at c2 ⊢
      walk_at "my_steps"
      refine Stop.mk ?_
      rename Fr _ _ _ _ => F9
      rename News _ _ _ _ => N9
      refine unpackItemsN_ F9 N9 (News.isTup N9 (.head _)) (by rfl) (by rfl) ?_
      intro h10 F10 N10
      replace N10 := news_sub N10 (fun p hp => List.Mem.tail _ hp)
      clear F9 N9
      walk_at "my_steps"
      refine Stop.mk ?_
      rename Fr _ _ _ _ => F11
      rename News _ _ _ _ => N11
      rename PyProof.V.FlatPairs PyData.int kvs _ => q9
      refine setItem_M F11 N11 (w1 _ q7 hask100 hdA100) q8 q9 (fun _ => Reads.int _ _) (sz_of (by simp [dL, q12.len]; omega)) ?_
      intro h12 nw12 oD12 kvs12 F12 N12 u1 u2 u3 u4
      have y12 : (upA, W.listOf vu.toArray nu) ∈ nw12 := u2 _ (w1 _ q10 hupA hup100) (Ne.symm (Nat.ne_of_lt hdA))
      walk_at "my_steps"
      refine Stop.mk ?_
      rename Fr _ _ _ _ => F13
      rename News _ _ _ _ => N13
      refine append_M F13 N13 y12 ?_ (sz_of (by have := q11.sizeZ; rw [List.length_map, q12.len] at this; omega))
      intro h14 nw14 F14 N14 v1 v2
      walk_at "my_steps"
      refine Stop.mk ?_
      obtain ⟨z1, z2, z3⟩ := L1_next (m' := _) (by omega) hf0 hs0 hnod ⟨r1, r2, r3, r4⟩ q5 q6 q7 q8 q10 q11 q12 q13 q14 q15 q16 q17 hup hdA (let ⟨_, e⟩ := hA.ask; ⟨_, e⟩) (let ⟨_, e, _⟩ := hA.tab; ⟨_, e⟩) hit (news_sub N5 fun p hp => .tail _ hp) SN8.go (fun q hq => c1 q (.tail _ hq)) c2 (fun a ha q hq => c3 a ha q (.tail _ hq)) N13 u1 u2 u3 u4 N14 v1 v2 (.inl ⟨rfl, rfl⟩) (Nat.le_of_lt hp)
      exact ⟨rfl, _, _, _, _, rfl, F14, z1, z2, z3⟩
    · simp only [hp, decide_false, Bool.false_eq_true, if_false] at c2 ⊢
      walk_at "my_steps"
      refine Stop.mk ?_
      refine setItem_M F8 N8 (w1 _ q7 hask100 hdA100) q8 q9 (fun _ => Reads.int _ _) (sz_of (by simp [dL, q12.len]; omega)) ?_
      intro h9 nw9 oD9 kvs9 F9 N9 u1 u2 u3 u4
      have y12 : (upA, W.listOf vu.toArray nu) ∈ nw9 := u2 _ (w1 _ q10 hupA hup100) (Ne.symm (Nat.ne_of_lt hdA))
      walk_at "my_steps"
      refine Stop.mk ?_
      rename Fr _ _ _ _ => F13
      rename News _ _ _ _ => N13
      refine append_M F13 N13 y12 ?_ (sz_of (by have := q11.sizeZ; rw [List.length_map, q12.len] at this; omega))
      intro h14 nw14 F14 N14 v1 v2
      walk_at "my_steps"
      refine Stop.mk ?_
      obtain ⟨z1, z2, z3⟩ := L1_next (m' := _) (by omega) hf0 hs0 hnod ⟨r1, r2, r3, r4⟩ q5 q6 q7 q8 q10 q11 q12 q13 q14 q15 q16 q17 hup hdA (let ⟨_, e⟩ := hA.ask; ⟨_, e⟩) (let ⟨_, e, _⟩ := hA.tab; ⟨_, e⟩) hit (news_sub N5 fun p hp => .tail _ hp) SN8.go (fun q hq => c1 q (.tail _ hq)) c2 (fun a ha q hq => c3 a ha q (.tail _ hq)) N13 u1 u2 u3 u4 N14 v1 v2 (.inr ⟨rfl, rfl⟩) (Nat.le_of_not_lt hp)
      exact ⟨rfl, _, _, _, _, rfl, F14, z1, z2, z3⟩
  · rintro m2 nw h5 tk5 ⟨Lp, new, oD, kvs, nu, vu, oC, ⟨q1, q2, q3, q4⟩, ⟨q5, q6⟩, ⟨q7, q8, q9⟩, ⟨q10, q11⟩, q12, q13, q14, q15, q16, q17⟩ F5 N5
    clear F4 N4
    have hnm100 : nm ≠ 100 := by
      obtain ⟨ps, et, _⟩ := hA.tab
      exact news_ne N0 hnm et (fun e => by cases e)
    have hth100 : thA ≠ 100 := by
      obtain ⟨ps, et, _⟩ := hA.tab
      exact news_ne N0 hth et (fun e => by cases e)
    have hthA : thA ≠ askA := fun e => hd1 (e ▸ hA.askD)
    have hnmA : nm ≠ askA := fun e => hd2 (e ▸ hA.askD)
    have hthm := q14 _ hth hthA hth100
    have hnmm := q14 _ hnm hnmA hnm100
    walk_at "my_steps"
    refine Stop.mk ?_
    have hD1 : ∀ d ∈ D, d < dA := fun d hd => let ⟨o, ho⟩ := hd3 d hd; Nat.lt_trans (hask0 _ ho) l1.1
    have huD : upA ∉ dA :: D := fun h => by
      rcases List.mem_cons.mp h with e | h
      · exact Nat.lt_irrefl dA (e ▸ hdA)
      · exact Nat.lt_irrefl upA (Nat.lt_trans (hD1 _ h) hdA)
    have hnD : nm ∉ dA :: D := fun h => by
      rcases List.mem_cons.mp h with e | h
      · exact Nat.ne_of_lt (Nat.lt_trans (hask0 _ hnm) l1.1) e
      · exact hd2 h
    have hDn : ∀ d ∈ dA :: D, ∃ o, (d, o) ∈ nw := by
      intro d hd
      rcases List.mem_cons.mp hd with rfl | hd
      · exact ⟨_, q7⟩
      by_cases e1 : d = askA
      · obtain ⟨nq, e⟩ := q13.ask; exact ⟨_, e1 ▸ e⟩
      by_cases e2 : d = 100
      · obtain ⟨ps, e, _⟩ := q13.tab; exact ⟨_, e2 ▸ e⟩
      · obtain ⟨o, ho⟩ := hd3 d hd; exact ⟨o, q14 _ ho e1 e2⟩
    have hAd : askA ∈ dA :: D := .tail _ hA.askD
    have hsubL : ∀ o ∈ Lp.map (·.1), o ∈ tl := fun o ho => List.mem_of_mem_take (q12.perm.subset (List.mem_append_left _ ho))
    have hnL : (Lp.map (·.1)).Nodup := by
      have h1 : (tl.take (2 * (tl.length / 2))).Nodup := hnod.sublist (List.take_sublist _ _)
      exact (List.nodup_append.mp ((List.Perm.nodup_iff q12.perm).mpr h1)).1
    have hlL : (Lp.map (·.1)).length = tl.length / 2 := by rw [List.length_map, q12.len]
    refine IH _ _ _ _ _ _ _ _ _ _ _ _ _ _ _ _ _ _ _ _ _ _ _ askA upA nm (addrs ++ new) (dA :: D) vu vsN nu nn N _ nmf vals (Lp.map (·.1)) BE F5 XE N5 TE (C.keeps FGE.keep) (by rfl) (by show dp + 1 + (k + 30) < recursionLimit; omega) (by show un + 3 + (3 * k + 150) < cLine; omega) q10 hnmm
      (q13.fewer (fun a ha => by rcases List.mem_cons.mp ha with rfl | ha; exact .head _; exact .tail _ (.tail _ ha)) hAd) huD hnD hDn q11 hnames hval (fun o ho => htl o (hsubL o ho)) hnL (by omega) (by omega) ?_ hN ?_
    · rw [List.length_append]; have := hlL; omega
    intro r rl vr n' new2 ps t h6 tk6 nw6 F6 N6 k1 k2 k3 k4 k5 k6 k7
    have hLA : askA < LE := let ⟨_, e⟩ := hA.ask; lE _ e
    have hL100 : (100 : Addr) < LE := let ⟨_, e, _⟩ := hA.tab; lE _ e
    have hC6 : (LE + 1, oC) ∈ nw6 := k1 _ q5 (neN (a := LE + 1) (b := askA) (by have := ltN hLA; omega)) (neN (a := LE + 1) (b := 100) (by have := ltN hL100; omega))
    have hDA : dA ≠ askA := neN (a := dA) (b := askA) (by have := ltN hLA; have := ltN l1.1; omega)
    have hD100 : dA ≠ 100 := neN (a := dA) (b := 100) (by have := ltN hL100; have := ltN l1.1; omega)
    have hd6 := k1 _ q7 hDA hD100
    have hth6 := k1 _ hthm hthA hth100
    have hnm6 := k1 _ hnmm hnmA hnm100
    obtain ⟨vl, rfl⟩ : ∃ vl : List Value, vr = vl.toArray := ⟨vr.toList, by simp⟩
    replace k5 : IntsAre vl rl := by simpa using k5
    have hrl : rl.length = tl.length / 2 := by rw [k7.perm.length_eq, hlL]
    obtain ⟨g0, gs, rfl⟩ : ∃ g0 gs, rl = g0 :: gs := by
      cases rl with
      | nil => simp at hrl; omega
      | cons a b => exact ⟨a, b, rfl⟩
    have hlook : ∀ g ∈ g0 :: gs, PySem.Spec.lookup (.int g) (dL Lp) = some (.int (look Lp g)) := fun g hg => by
      obtain ⟨p, hp, e⟩ := List.mem_map.mp (k7.perm.subset hg)
      rw [lookup_dL]
      have := lookup_of hnL p hp
      rw [← e, this]; unfold look; rw [this]; rfl
    walk_at "my_steps"
    rename Fr _ _ _ _ => F7
    rename News _ _ _ _ => N7
    refine Stop.mk ?_
    have e0 : (g0 :: gs).getD (0 : Int).toNat 0 = g0 := rfl
    rw [e0]
    refine getItem_tab PyProof.V.same_int (intKind_is _ _ _ _) (TabAt.ofNews N7 hd6 hSys q8 q9) (hlook _ (.head _)) (fun v hv => ?_)
    obtain ⟨tv, rfl⟩ := flat_int hv
    walk_at "my_steps"
    rename Fr _ _ _ _ => F8
    rename News _ _ _ _ => N8
    rename_i xA hxA
    have hxl : ∀ p ∈ nw6, p.1 < xA.objs.size := fun p hp => news_lt N8 (.tail _ hp)
    refine add_lists F8 N8 (vs := [.int (look Lp g0) tv]) (News.isList N8 (.head _)) (News.isList N8 (.tail _ k4)) ?_ (sz_of (by have := k5.length; simp at hrl this ⊢; omega))
    intro h9 F9 N9
    walk_at "my_steps"
    refine Stop.mk ?_
    rename Fr _ _ _ _ => F10
    rename News _ _ _ _ => N10
    obtain ⟨chA, hch⟩ : ∃ c, c = xA.objs.size := ⟨_, rfl⟩
    replace N10 := news_sub (news' := (chA, W.listOf (.int (look Lp g0) tv :: vl).toArray 0) :: nw6) N10 (fun p hp => by
      rcases List.mem_cons.mp hp with rfl | hp
      · rw [hch]; exact .head _
      · exact .tail _ (.tail _ hp))
    obtain ⟨m10, F10, x1, x2, x3, x4, x5⟩ : ∃ m', Fr gE LE _ m' ∧ m' "things" = some (.ref thA) ∧ m' "names" = some (.ref nm) ∧ m' "asked" = some (.ref askA) ∧ m' "greater" = some (.ref r) ∧ m' "chain" = some (.ref chA) := ⟨_, F10, q1, q2, q3, rfl, by rw [hch]; rfl⟩
    have hchl : ∀ p ∈ nw6, p.1 < chA := fun p hp => by rw [hch]; exact hxl p hp
    refine LCg.Assign_ListComp_U (F₀ := F10) (by rfl) (by with_unfolding_all rfl) (by with_unfolding_all rfl) (by decide) (by rfl) (by decide) (by rfl) (by rfl) (by rfl) ?_
    walk_at "my_steps"
    refine slice_list F10 N10 (News.isList N10 (.tail _ k4)) (.int _ _) .none ?_ (hsz := sz_of (by have := k5.length; simp at hrl this ⊢; omega))
    intro h11 F11 N11
    have hsl : IntsAre (slicePick vl.toArray (some 1) none none).toList gs := by
      have := slice_ints_from (x := 1) k5 (by omega) (by simp at hrl ⊢; omega)
      simpa using this
    refine LCg.CompSrc.ledger (by rfl) F11 N11 (.head _) (sz_of (by have := hsl.length; simp at hrl this; omega)) (fun g => ?_)
    have hgl : gs.length = (slicePick vl.toArray (some 1) none none).size := by have := hsl.length; simp at this; omega
    refine compRest_of (fun i ys nw' => (∀ q ∈ nw6, q ∈ nw') ∧ (chA, W.listOf (.int (look Lp g0) tv :: vl).toArray 0) ∈ nw' ∧ LCg.SrcAt gE (_ : Addr) _ nw' ∧ TupsAt nw' ys ((gs.take i).map fun g => (look Lp g, g))) ?_ ?_ _ 0 (Nat.zero_add _) [] _ ⟨fun q hq => .tail _ (.tail _ hq), .tail _ (.head _), .inr ⟨_, .head _, rfl, _, rfl⟩, .nil⟩
    · rintro i ys nw7 v I7 oI C7 oC7 D7 m7 h12 tk12 E' hi ⟨j1, j2, j3, j4⟩ hP ho hx F12 N12 off hne
      obtain ⟨to, rfl⟩ := hsl.int_at i v (by simpa using hP)
      have hC7 : (LE + 1, oC) ∈ nw7 := j1 _ hC6
      have hd7 := j1 _ hd6
      have SN := Stop.mk N12
      walk_at "my_steps"
      refine Stop.mk ?_
      refine lcf_cell SN.go (by rfl) (.tail _ (.tail _ (.tail _ hC7))) q6 ?_ (by rfl) (by rfl)
      walk_at "my_steps"
      refine Stop.mk ?_
      refine LCgL.ld_own SN.go (.tail _ (.head _)) ho hx ?_
      refine item_intTab (TabAt.ofNews SN.go (.tail _ (.tail _ (.tail _ hd7))) hSys q8 q9) (hlook _ (.tail _ (by rw [List.getD_eq_getElem?_getD, List.getElem?_eq_getElem (by omega)]; exact List.getElem_mem _))) (fun v hv => ?_)
      obtain ⟨tv2, rfl⟩ := flat_int hv
      walk_at "my_steps"
      refine Stop.mk ?_
      refine LCgL.ld_own SN.go (.tail _ (.head _)) ho hx ?_
      walk_at "my_steps"
      refine Stop.mk ?_
      rename Fr _ _ _ _ => F14
      rename News _ _ _ _ => N14
      rename_i hT7
      have o3 := off.mem
      have hfr : ∀ p ∈ nw7, p.1 < h12.objs.size := fun p hp => news_lt SN.go (.tail _ (.tail _ (.tail _ hp)))
      have hfI : I7 < h12.objs.size := news_lt SN.go (.head _)
      have hfC : C7 < h12.objs.size := news_lt SN.go (.tail _ (.head _))
      have hfD : D7 < h12.objs.size := news_lt SN.go (.tail _ (.tail _ (.head _)))
      refine ⟨_, _, (h12.objs.size, { cls := .type "tuple", data := .seq #[.int (look Lp (gs.getD i 0)) tv2, .int (gs.getD i 0) to] }) :: nw7, rfl, F14, news_sub N14 (fun p hp => ?_), fun p hp => ?_, ?_, fun q hq => .tail _ (j1 q hq), .tail _ j2, ?_, ?_⟩
      · rcases List.mem_cons.mp hp with rfl | hp
        · exact .tail _ (.head _)
        rcases List.mem_cons.mp hp with rfl | hp
        · exact .tail _ (.tail _ (.head _))
        rcases List.mem_cons.mp hp with rfl | hp
        · exact .tail _ (.tail _ (.tail _ (.head _)))
        rcases List.mem_cons.mp hp with rfl | hp
        · exact .head _
        · exact .tail _ (.tail _ (.tail _ (.tail _ hp)))
      · rcases List.mem_cons.mp hp with rfl | hp
        · exact ⟨Ne.symm (Nat.ne_of_lt hfI), Ne.symm (Nat.ne_of_lt hfC), Ne.symm (Nat.ne_of_lt hfD)⟩
        · exact o3 p hp
      · rcases j3 with j3 | ⟨o, ho1, ho2⟩
        · exact .inl j3
        · exact .inr ⟨o, .tail _ ho1, ho2⟩
      · rcases j3 with j3 | ⟨o, ho1, ho2⟩
        · exact .inl j3
        · exact .inr ⟨o, .tail _ ho1, ho2⟩
      · rw [List.take_add_one, List.getElem?_eq_getElem (by omega), List.map_append]
        refine TupsAt.snoc (j4.mono fun a its h => .tail _ h) (t := tv2) (u := to) ?_
        rw [List.getD_eq_getElem?_getD, List.getElem?_eq_getElem (by omega)]
        exact .head _
    · rintro ys nw7 ⟨j1, j2, j3, j4⟩
      intro wtA h12 tk12 F12 N12 off
      rw [← hgl, List.take_length] at j4
      clear F11 N11 F10 N10
      obtain ⟨m12, F12, x1, x2, x3, x4, x5, x6⟩ : ∃ m', Fr gE LE _ m' ∧ m' "things" = some (.ref thA) ∧ m' "names" = some (.ref nm) ∧ m' "asked" = some (.ref askA) ∧ m' "greater" = some (.ref r) ∧ m' "chain" = some (.ref chA) ∧ m' "waiting" = some (.ref wtA) := ⟨_, F12, x1, x2, x3, x4, x5, rfl⟩
      have hth7 := j1 _ hth6
      have SN12 := Stop.mk N12
      walk1
      refine wpAny_mono (Q := fun f s' => Stop (f = .next ∧ ∃ wn vw h tk nw, s' = { s with heap := h, toks := tk } ∧ Fr gE LE h m12 ∧ News gE LE h nw ∧ (∀ q ∈ nw7, q ∈ nw) ∧ (wtA, W.listOf vw.toArray wn) ∈ nw ∧ TupsAt nw vw (waitOf Lp tl gs))) ?_ ?_ fun _ _ x => x
      · walk_at "my_steps"
        refine len_ints_fit (News.isList N12 (.tail _ hth7)) hrs (by omega) ?_
        walk_at "my_steps"
        · rename Fr _ _ _ _ => F13
          rename News _ _ _ _ => N13
          have hne : rs ≠ [] := fun e => by have := hrs.length; rw [e] at this; simp at this; omega
          obtain ⟨to, hto⟩ : ∃ t, rs.getLast hne = .int (tl.getD (tl.length - 1) 0) t := hrs.int_at (tl.length - 1) _ (by
            rw [← hrs.length, ← List.getLast?_eq_getElem?, List.getLast?_eq_some_getLast hne])
          refine item_last (vi := rs.dropLast) (v := .int (tl.getD (tl.length - 1) 0) to) (by rw [← hto, List.dropLast_concat_getLast]; exact News.isList (h₀ := gE) (L := LE) (news := (wtA, LCg.lst ys) :: nw7) N13 (.tail _ hth7)) ?_
          walk_at "my_steps"
          refine Stop.mk ?_
          rename Fr _ _ _ _ => F14
          rename News _ _ _ _ => N14
          refine append_M F14 N14 (its := ys.toArray) (n := ys.length) (.tail _ (.head _)) ?_ (sz_of (by have := j4.length; simp at hrl this ⊢; omega))
          intro h15 nw15 F15 N15 v1 v2
          walk_at "my_steps"
          refine Stop.mk ?_
          rename Int.fmod _ _ = 1 => hodd
          rw [Int.fmod_eq_emod_of_nonneg _ (by decide)] at hodd
          have hoff := off1_mem off
          refine ⟨rfl, _, ys ++ [.ref h12.objs.size], _, _, nw15, rfl, F15, N15, fun q hq => v2 _ (.tail _ (.tail _ hq)) (hoff q hq), by simpa using v1, ?_⟩
          unfold waitOf oddOf
          rw [if_pos (by omega)]
          exact TupsAt.snoc (j4.mono fun a its h => v2 _ (.tail _ (.tail _ h)) (hoff _ h)) (v2 _ (.head _) (Ne.symm (Nat.ne_of_lt (news_lt (h₀ := gE) (L := LE) (p := (wtA, LCg.lst ys)) (news := (wtA, LCg.lst ys) :: nw7) SN12.go (.head _)))))
        · rename Fr _ _ _ _ => F14
          rename News _ _ _ _ => N14
          refine Stop.mk ?_
          rename Int.fmod _ _ ≠ 1 => hodd
          rw [Int.fmod_eq_emod_of_nonneg _ (by decide)] at hodd
          refine ⟨rfl, _, ys, _, _, (wtA, LCg.lst ys) :: nw7, rfl, F14, N14, fun q hq => .tail _ hq, .head _, ?_⟩
          unfold waitOf oddOf
          rw [if_neg (by omega), List.append_nil]
          exact j4.mono fun a its h => .tail _ h
      rintro f s' ⟨⟨rfl, wn, vw, h13, tk13, nw8, rfl, F13, N13, j5, j6, j7⟩⟩
      clear F12 N12
      dsimp only
      walk_at "my_steps"
      refine Stop.mk ?_
      rename Fr _ _ _ _ => F14
      rename News _ _ _ _ => N14
      obtain ⟨m14, F14, tz, tp, x1, x2, x3, x5, x6, x7, x8⟩ : ∃ m', Fr gE LE _ m' ∧ ∃ tz tp, m' "things" = some (.ref thA) ∧ m' "names" = some (.ref nm) ∧ m' "asked" = some (.ref askA) ∧ m' "chain" = some (.ref chA) ∧ m' "waiting" = some (.ref wtA) ∧ m' "size" = some (.int 2 tz) ∧ m' "power" = some (.int 4 tp) := ⟨_, F14, _, _, x1, x2, x3, x5, x6, rfl, rfl⟩
      have hth8 := j5 _ hth7
      have hnm8 := j5 _ (j1 _ hnm6)
      have hch8 := j5 _ j2
      have hst := MInv.start q12 k7 hnod (fun o ho => (htl o ho).1)
      have hchA : chA ≠ askA := let ⟨_, e⟩ := k2.ask; Ne.symm (Nat.ne_of_lt (hchl _ e))
      have hch100 : chA ≠ 100 := let ⟨_, e, _⟩ := k2.tab; Ne.symm (Nat.ne_of_lt (hchl _ e))
      have hnc : ∀ d ∈ D, d ≠ chA := fun d hd => by
        by_cases e1 : d = askA
        · rw [e1]; exact hchA.symm
        by_cases e2 : d = 100
        · rw [e2]; exact hch100.symm
        · obtain ⟨o, ho⟩ := hd3 d hd
          exact Nat.ne_of_lt (hchl _ (k1 _ (q14 _ ho e1 e2) e1 e2))
      have hchN : ∀ q ∈ news, q.1 < chA := fun q hq => by
        by_cases e1 : q.1 = askA
        · rw [e1]; obtain ⟨_, e⟩ := k2.ask; exact hchl _ e
        by_cases e2 : q.1 = 100
        · rw [e2]; obtain ⟨_, e, _⟩ := k2.tab; exact hchl _ e
        · exact hchl _ (k1 _ (q14 _ hq e1 e2) e1 e2)
      have hwc : wtA ≠ chA := Ne.symm (off1_mem off _ j2)
      have hwa : wtA ≠ askA := let ⟨_, e⟩ := k2.ask; Ne.symm (off1_mem off _ (j1 _ e))
      have hA8 : AskSt nw8 (chA :: D) askA (addrs ++ (new ++ new2)) (pairs ++ (Lp.map (fun p => mkPair p.1 p.2) ++ ps)) := by
        have h1 := ((k2.sub j1).sub j5).fewer (D' := D) (fun a ha => .tail _ ha) hA.askD
        rw [List.append_assoc, List.append_assoc] at h1
        refine h1.more fun a ha e => ?_
        rw [← List.append_assoc] at ha
        obtain ⟨o, ho⟩ := k2.in a ha
        exact Nat.lt_irrefl a (by have := hchl _ ho; rw [← e] at this; exact this)
      have hWl : (waitOf Lp tl gs).length = tl.length / 2 - 1 + tl.length % 2 := by
        unfold waitOf oddOf
        simp at hrl
        rw [List.length_append, List.length_map]
        split <;> simp <;> omega
      have hMS : MSt (waitOf Lp tl gs) askA nm chA wtA 0 news D addrs pairs (look Lp g0 :: g0 :: gs) (Lp.map (fun p => mkPair p.1 p.2) ++ ps) m14 nw8 :=
        ⟨x2, x3, x5, x6, ⟨_, x7⟩, ⟨_, x8⟩, ⟨_, _, hch8, .cons _ _ k5⟩, ⟨vw, wn, j6, j7⟩, ⟨hwc, hwa⟩, ⟨_, hA8, fun a ha q hq => by
          rcases List.mem_append.mp ha with ha | ha
          · exact q15 a ha q hq
          · by_cases e1 : q.1 = askA
            · obtain ⟨_, e⟩ := q13.ask; rw [e1]; exact k3 a ha _ e
            by_cases e2 : q.1 = 100
            · obtain ⟨_, e, _⟩ := q13.tab; rw [e2]; exact k3 a ha _ e
            · exact k3 a ha _ (q14 _ hq e1 e2)⟩, fun q hq e1 e2 => j5 _ (j1 _ (k1 _ (q14 _ hq e1 e2) e1 e2))⟩
      have hOS : OutSt (fun i => vals i.toNat) tl (g0 :: gs) (waitOf Lp tl gs) (tl.length / 2 + costT (tl.length / 2)) 0 (look Lp g0 :: g0 :: gs) (Lp.map (fun p => mkPair p.1 p.2) ++ ps) :=
        ⟨hst, by rw [Nat.zero_min]; simp; omega, by
          have := k7.few
          rw [hlL] at this
          rw [List.length_append, List.length_map, q12.len]; omega⟩
      refine While_inv2 (h₀ := gE) (L := LE) (m := m14) (news := nw8) (WInv (fun i => vals i.toNat) tl (g0 :: gs) (waitOf Lp tl gs) (tl.length / 2 + costT (tl.length / 2)) askA nm chA news D addrs pairs) ?kF ?kN (n₀ := 4) ⟨0, _, _, _, rfl, .inl rfl, hOS, hMS⟩ ?_ ?_
      case kF => exact F14
      case kN => exact N14
      · rintro n m15 nw9 h15 tk15 F15 N15 ⟨o, ch, asks, wtA2, hn, ho, hO, hM⟩
        clear F14 N14
        obtain ⟨tz', e7⟩ := hM.size
        obtain ⟨tp', e8⟩ := hM.power
        have e1' := hM.names
        have e2' := hM.asked
        have e3' := hM.chain
        have e4' := hM.waiting
        obtain ⟨vc, nc, hcl, hvc⟩ := hM.chl
        obtain ⟨vw2, wn2, hwl, hvw⟩ := hM.wtl
        walk_at "my_steps"
        rename Fr _ _ _ _ => F16
        rename News _ _ _ _ => N16
        refine ne_empty N16 (.tail _ hwl) (hvw.mono fun _ _ h => .tail _ h) (.head _) (by show un + 3 + 64 < cLine; omega) ?_
        by_cases hE : (waitOf Lp tl gs).drop o = []
        · simp only [hE, decide_true, Bool.not_true]
          walk_at "my_steps"
          rename Fr h₀ _ _ _ => F17
          rename News h₀ _ _ _ => N17
          obtain ⟨new3, hA9, hf9⟩ := hM.ask
          have hWo : (waitOf Lp tl gs).length ≤ o := List.drop_eq_nil_iff.mp hE
          have hinv := hO.inv
          rw [hE] at hinv
          refine ret chA ch vc.toArray nc new3 asks tk15 _ 0 nw9 F17 (news_sub N17 (fun p hp => .tail _ hp)) hM.keep (hA9.fewer (fun a ha => .tail _ ha) hA.askD) hf9 hcl (by simpa using hvc) (fun h => hnc _ h rfl) (hinv.done ?_)
          have h1 := hO.few
          rw [Nat.min_eq_right hWo, hWl] at h1
          have h2 := cost_step tl.length (by omega) (by omega)
          omega
        · simp only [hE, decide_false, Bool.not_false]
          have hoW : o < (waitOf Lp tl gs).length := by
            by_cases h : o < (waitOf Lp tl gs).length
            · exact h
            · exact absurd (List.drop_eq_nil_iff.mpr (by omega)) hE
          have ho2 : o = 0 ∨ o = 2 := by omega
          have hs2 : szOf o = 2 := by unfold szOf; rw [if_neg (by omega)]
          rw [hs2] at e7
          replace N16 := news_sub N16 (fun p hp => List.Mem.tail _ hp)
          walk_at "my_steps"
          refine Stop.mk ?_
          rename Fr _ _ _ _ => F17
          rename News _ _ _ _ => N17
          refine For_turns F17 ?_
          walk_at "my_steps"
          rename Fr _ _ _ _ => F18
          rename News _ _ _ _ => N18
          have hvl : vw2.length ≤ 10 := by have := hvw.length; rw [List.length_drop] at this; omega
          refine slice_list F18 N18 (News.isList N18 hwl) .none (.int _ _) ?_ (hsz := sz_of (by simp; omega))
          intro h19 F19 N19
          have hlt19 : ∀ p ∈ nw9, p.1 < h19.objs.size := fun p hp => news_lt N19 (.tail _ hp)
          rw [show slicePick vw2.toArray none (some 2) none = (vw2.take 2).toArray from slicePick_upto' vw2.toArray 2] at N19
          walk_at "my_steps"
          refine Stop.mk ?_
          rename Fr _ _ _ _ => F20
          rename News _ _ _ _ => N20
          obtain ⟨rvA, hrv⟩ : ∃ c, c = h19.objs.size + 1 := ⟨_, rfl⟩
          have N21 := news_pick N20 hrv
          have hrvN : ∀ p ∈ nw9, p.1 < rvA := fun p hp => by rw [hrv]; exact Nat.lt_succ_of_lt (hlt19 p hp)
          obtain ⟨new9, hA9, _⟩ := hM.ask
          obtain ⟨nq9, eA9⟩ := hA9.ask
          obtain ⟨ps9, eT9, _⟩ := hA9.tab
          have hrA : rvA ≠ askA := Ne.symm (Nat.ne_of_lt (hrvN _ eA9))
          have hr100 : rvA ≠ 100 := Ne.symm (Nat.ne_of_lt (hrvN _ eT9))
          have hrc : rvA ≠ chA := Ne.symm (Nat.ne_of_lt (hrvN _ hcl))
          have hW4 : (waitOf Lp tl gs).length ≤ 4 := by omega
          have hWk : WaitOk (g0 :: gs) (waitOf Lp tl gs) := waitOk_of fun g hg => (htl g (hsubL g (k7.perm.subset (.tail _ hg)))).1
          generalize hlo : Obj.mk _ _ _ _ = lo at N21
          have hm21 : (h19.objs.size + 1, lo) ∈ (rvA, lo) :: nw9 := by rw [← hrv]; exact .head _
          refine iter_listTurns (vs := (vw2.take 2).reverse) (by rfl) F20 N21 hm21 (by rw [← hlo]) (by rw [← hlo]; simp [krv_pick]; rfl) ?_
          intro I2 hI2
          refine itemsRest_of (FInv (fun i => vals i.toNat) tl (g0 :: gs) (waitOf Lp tl gs) (tl.length / 2 + costT (tl.length / 2)) askA nm chA wtA2 rvA lo ((vw2.take 2).reverse) o news D addrs pairs) ?_ ?_ _ 0 rfl (Nat.zero_le _) _ _ ⟨ch, asks, hO.start hoW, hM.sub fun q hq => .tail _ hq, .head _, ((hvw.take 2).reverse).mono fun _ _ h => .tail _ h⟩ (fun p hp => Nat.ne_of_lt (hI2 p hp))
          · rintro j v m21 nw10 oI h21 tk21 hv ⟨ch2, asks2, hS2, hM2, hr2, ht2⟩ hoI F21 N22
            obtain ⟨tA, p, q, t1, t2, rfl, hx, hta⟩ := ht2.at j v hv
            have hdj := Stop.mk (drop_of hx)
            replace hoI := Stop.mk hoI
            clear F20 N20 N21 F19 N19
            refine unpackN_ F21 N22 (News.isTup N22 (.tail _ hta)) (by rfl) (by rfl) (by rfl) ?_
            intro h23 F23 N23
            clear F21 N22
            have f1 := hM2.names
            have f2 := hM2.asked
            have f3 := hM2.chain
            obtain ⟨vc2, nc2, hcl2, hvc2⟩ := hM2.chl
            walk_at "my_steps"
            refine Stop.mk ?_
            rename Fr _ _ _ _ => F24
            rename News _ _ _ _ => N24
            obtain ⟨m24, F24, hm24, y1, y2, y3, y4, y5⟩ : ∃ m', Fr gE LE _ m' ∧ (∀ z : Str, z ≠ "above" → z ≠ "one" → m' z = m21 z) ∧ m' "names" = some (.ref nm) ∧ m' "asked" = some (.ref askA) ∧ m' "chain" = some (.ref chA) ∧ m' "one" = some (.int p t1) ∧ m' "above" = some (.int q t2) := ⟨_, F24, fun z e1 e2 => by rw [if_neg e1, if_neg e2], f1, f2, f3, rfl, rfl⟩
            have hchl2 : ch2.length ≤ 10 := by
              have h1 := hS2.inv.perm.length_eq
              simp at h1; omega
            refine wpAny_mono (Q := fun f s' => Stop (f = .next ∧ ∃ h tk th, s' = { s with heap := h, toks := tk } ∧ Fr gE LE h (fun y => if y = "high" then some (.int (highOf ch2 (p, q) : Nat) th) else m24 y) ∧ News gE LE h ((I2, oI) :: nw10))) ?_ ?_ fun _ _ x => x
            · have hgo : Stop True := ⟨trivial⟩
              have hcl3 : (chA, W.listOf vc2.toArray nc2) ∈ (I2, oI) :: nw10 := .tail _ hcl2
              walk_at "my_steps"
              · rename Fr _ _ _ _ => F26
                rename News _ _ _ _ => N26
                refine len_ints_fit (News.isList N26 hcl3) hvc2 (by omega) ?_
                walk_at "my_steps"
                rename Fr _ _ _ _ => F27
                rename News _ _ _ _ => N27
                refine Stop.mk ?_
                have e : highOf ch2 (p, q) = ch2.length := by unfold highOf; rw [if_pos (by assumption)]
                refine ⟨trivial, _, _, ?th, rfl, ?hF, N27⟩
                case hF => (rw [e]; exact F27)
              · refine Stop.mk ?_
                rename Fr _ _ _ _ => F26
                rename News _ _ _ _ => N26
                have hq1 : q ≠ -1 := by assumption
                have hqg : q ∈ ch2 := by
                  rcases hS2.inv.above (p, q) (by rw [hdj.go]; exact .head _) with h | h
                  · exact absurd h hq1
                  · exact hS2.inv.sub.mem h.1
                refine kf_index N26 hcl3 (by simpa using kf_of hvc2) (by simpa using kf_at_of hvc2 hqg) rfl (sz_of (by have := hvc2.length; simp; omega)) ?_
                walk_at "my_steps"
                rename Fr _ _ _ _ => F27
                rename News _ _ _ _ => N27
                refine Stop.mk ?_
                have e : highOf ch2 (p, q) = ch2.idxOf q := by unfold highOf; rw [if_neg hq1]
                refine ⟨trivial, _, _, ?th2, rfl, ?hF2, N27⟩
                case hF2 => (rw [e]; exact F27)
            rintro f s' ⟨⟨rfl, h25, tk25, th, rfl, F25, N25⟩⟩
            clear F24 N24
            dsimp only
            have hcl3 : (chA, W.listOf vc2.toArray nc2) ∈ (I2, oI) :: nw10 := .tail _ hcl2
            obtain ⟨m25, F25, hm25, y1, y2, y3, y4, y6⟩ : ∃ m', Fr gE LE _ m' ∧ (∀ z : Str, z ≠ "above" → z ≠ "one" → z ≠ "high" → m' z = m21 z) ∧ m' "names" = some (.ref nm) ∧ m' "asked" = some (.ref askA) ∧ m' "chain" = some (.ref chA) ∧ m' "one" = some (.int p t1) ∧ m' "high" = some (.int (highOf ch2 (p, q) : Nat) th) := ⟨_, F25, fun z e1 e2 e3 => by rw [if_neg e3]; exact hm24 z e1 e2, y1, y2, y3, y4, rfl⟩
            walk_at "my_steps"
            refine Stop.mk ?_
            rename Fr _ _ _ _ => F26
            rename News _ _ _ _ => N26
            obtain ⟨new4, hA22, hf22⟩ := hM2.ask
            have hnmk : (nm, listOf vsN.toArray nn) ∈ nw10 := hM2.keep _ hnm hnmA hnm100
            have hpm : p ∈ tl := hS2.inv.perm.subset (List.mem_append_right _ (by rw [hdj.go]; exact .head _))
            have hcm : ∀ o ∈ ch2, o ∈ tl := fun o ho => hS2.inv.perm.subset (List.mem_append_left _ ho)
            have hjW : j < 2 := by
              have h1 := (List.getElem?_eq_some_iff.mp hx).1
              rw [List.length_reverse, List.length_take] at h1; omega
            have hal : (addrs ++ new4).length < 1000 := by
              have h1 := hA22.pairs.length
              have h2 := hA.pairs.length
              have h3 := hS2.few
              have h4 := costT_le tl.length (by omega)
              have h5 := c3_le o ho2
              simp only [List.length_append] at h1 ⊢
              have h6 : (if o = 0 then 2 else 3) * j ≤ 3 := by
                split <;> omega
              omega
            refine place_ask (D := chA :: D) BE F26 XE N26 TE (C.keeps FGE.keep) (by rfl) (by show dp + 1 + 20 < recursionLimit; omega) (by show un + 3 + 90 < cLine; omega) hcl3 (.tail _ hnmk) (hA22.sub fun q hq => .tail _ hq) hvc2 hnames hval (htl p hpm) (fun o ho => htl o (hcm o ho)) (highOf_le _ _) (by omega) hal hN hchA hnmA ?_ ?_
            · intro d hd
              rcases List.mem_cons.mp hd with rfl | hd
              · exact ⟨_, hcl3⟩
              by_cases e1 : d = askA
              · obtain ⟨nq, e⟩ := hA22.ask; exact (by rw [e1]; exact ⟨_, .tail _ e⟩)
              by_cases e2 : d = 100
              · obtain ⟨ps, e, _⟩ := hA22.tab; exact (by rw [e2]; exact ⟨_, .tail _ e⟩)
              · obtain ⟨o, ho⟩ := hd3 d hd; exact ⟨o, .tail _ (hM2.keep _ ho e1 e2)⟩
            intro newp tP h28 tk28 nw11 F28 N28 c1 c2 c3 c4
            have SN26 := Stop.mk N26
            have SN28 := Stop.mk N28
            walk_at "my_steps"
            refine Stop.mk ?_
            rename Fr _ _ _ _ => F29
            rename News _ _ _ _ => N29
            have hkl : (bisR (fun o => decide (vals p.toNat < vals o.toNat)) ch2 0 (highOf ch2 (p, q))).1 ≤ vc2.length := by
              rw [hvc2.length]
              exact Nat.le_trans (bisR_hi _ _ _ 0 _ rfl (Nat.zero_le _)) (highOf_le _ _)
            have hvc2l : vc2.length ≤ 10 := by rw [hvc2.length]; exact hchl2
            refine insert_M F29 N29 (c1 _ hcl3 hchA hch100) hkl (by omega) (sz_of (by omega)) ?_
            intro h30 nw12 F30 N30 v1 v2
            have SN30 := Stop.mk N30
            walk_at "my_steps"
            refine Stop.mk ?_
            rename Fr _ _ _ _ => F31
            rename News _ _ _ _ => N31
            obtain ⟨z1, z2, z3, z4⟩ := turn_next (val := fun i => vals i.toNat) hS2 hM2 hr2 ht2 hoI.go hx hnod (fun o ho => (htl o ho).1) hWk ho2 hW4 hA22 hf22 SN26.go SN28.go SN30.go c1 c2 c3 c4 hcl2 hvc2 v1 v2 hm25 hrA hr100 hrc hchA hch100 (fun q hq => Nat.ne_of_lt (hchN q hq))
            exact ⟨by first | rfl | trivial, _, _, _, _, rfl, F31, z1, z2, by rw [← hrv]; exact z3, z4⟩
          · rintro m21 nw10 h21 tk21 ⟨ch2, asks2, hS2, hM2, hr2, ht2⟩ F21 N22
            clear F20 N20 N21 F19 N19
            have g1 := hM2.waiting
            have g2 := hM2.chain
            obtain ⟨tz2, g3⟩ := hM2.size
            obtain ⟨tp2, g4⟩ := hM2.power
            rw [hs2] at g3
            obtain ⟨vw3, wn3, hwl3, hvw3⟩ := hM2.wtl
            walk_at "my_steps"
            have hvl3 : vw3.length ≤ 10 := by have := hvw3.length; rw [List.length_drop] at this; omega
            have SN21 := Stop.mk N22
            refine slice_list F21 N22 (News.isList N22 hwl3) (.int _ _) .none ?_ (hsz := sz_of (by simp; omega))
            intro h31 F31 N31
            rw [show slicePick vw3.toArray (some 2) none none = (vw3.drop 2).toArray from slicePick_from' vw3.toArray 2] at N31
            walk_at "my_steps"
            rename Fr _ _ _ _ => F32
            rename News _ _ _ _ => N32
            obtain ⟨X9, hX9⟩ : ∃ c, c = h21.objs.size + 1 := ⟨_, rfl⟩
            obtain ⟨m33, F32, n1, n2, n3, n4⟩ : ∃ m', Fr gE LE _ m' ∧ (∀ z : Str, z ≠ "waiting" → z ≠ "size" → z ≠ "power" → m' z = m21 z) ∧ m' "waiting" = some (.ref X9) ∧ (∃ t, m' "size" = some (.int (pwOf o - 2) t)) ∧ ∃ t, m' "power" = some (.int (2 * pwOf o) t) := ⟨_, F32, fun z e1 e2 e3 => by rw [if_neg e3, if_neg e2, if_neg e1], by rw [hX9]; rfl, ⟨_, rfl⟩, _, rfl⟩
            obtain ⟨_, n3⟩ := n3
            obtain ⟨_, n4⟩ := n4
            have hjl : ((vw2.take 2).reverseAux []).length = (((waitOf Lp tl gs).drop o).take 2).length := by
              have := ht2.length
              rw [List.length_reverse, List.length_reverse] at this
              show (vw2.take 2).reverse.length = _
              rw [List.length_reverse]; exact this
            rw [hjl] at hS2
            rw [hn]
            obtain ⟨w1, w2⟩ := round_next hS2 hM2 hoW ho2 hW4 hvw3 (X := X9) (by rw [hX9]; exact .head _) (fun q hq => .tail _ hq) (fun q hq => by rw [hX9]; exact Nat.lt_succ_of_lt (news_lt SN21.go hq)) n1 n2 n3 n4
            exact ⟨_, _, _, _, _, rfl, F32, N32, w1, w2⟩
      · first | passes_own | with_unfolding_all passes_own
theorem merged_ok (w : World) : ∀ k, MergedSpec w k
  | 0 => by
    intro dp un gd cn cs L a ccd cl outer A₀ base h₀ m mg mb news s Q E p loose mean askA thA nm addrs D rs vsN nr nn N pairs nmf vals tl B F X N0 T C hk hdp hun hth hnm hA hd1 hd2 hd3 hrs hnames hval htl hnod hlen
    exact absurd hlen (Nat.not_lt_zero _)
  | k + 1 => merged_step (merged_ok w k)
end

section
theorem plainAttrs_rx : PlainAttrs "re.Pattern" :=
  ⟨⟨"object.__getattribute__", by rw [typeLookup_type, builtinLookup_eq_fast]; kernel_rfl, by decide +kernel⟩, by rw [typeLookup_type, builtinLookup_eq_fast]; kernel_rfl⟩
theorem slot_rx_sub : Slot "re.Pattern" "sub" "re.Pattern.sub" :=
  .of (owner := "re.Pattern") (n := "sub") (by rw [typeLookup_type, builtinLookup_eq_fast]; kernel_rfl) (by decide +kernel) (by decide +kernel) (by decide +kernel)
    (by first | exact .inl (by decide +kernel) | exact .inr (by decide +kernel)) (by rw [isSubtype_type]; kernel_rfl)
theorem type_rx_sub : typeOf (.builtin "re.Pattern.sub") = pure (.type "method_descriptor") := by show builtinType _ = _; rw [builtinType_eq_fast]; kernel_rfl
theorem entry_rx_sub : entryFor table "re.Pattern.sub" = some Builtin.«re.Pattern.sub» := entryFor_of_tree (by kernel_rfl)
theorem entry_rx_loop : entryFor table "re.Pattern.sub.loop" = some Builtin.«re.Pattern.sub.loop» := entryFor_of_tree (by kernel_rfl)
theorem plain_rx_loop : plainId "re.Pattern.sub.loop" = true := by decide +kernel
theorem args_rx_sub (a b c : Value) : argsOk "re.Pattern.sub" ⟨[a, b, c], []⟩ := by
  unfold argsOk; kernel_rfl
theorem str_no_call : typeLookup (.type "str") "__call__" = pure none := by rw [typeLookup_type, builtinLookup_eq_fast]; kernel_rfl
end

section
theorem runFor_done {m : Sre.M} (h : m.outcome.isSome = true) : ∀ n, m.runFor n = m
  | 0 => rfl
  | n + 1 => by unfold Sre.M.runFor; rw [if_pos h]
theorem runFor_add (b : Nat) : ∀ (a : Nat) (m : Sre.M), m.runFor (a + b) = (m.runFor a).runFor b
  | 0, m => by rw [Nat.zero_add]; rfl
  | a + 1, m => by
    rw [show a + 1 + b = (a + b) + 1 by omega]
    show (if m.outcome.isSome then m else Sre.M.runFor (a + b) m.step) = Sre.M.runFor b (if m.outcome.isSome then m else Sre.M.runFor a m.step)
    cases h : m.outcome.isSome with
    | true => simp only [if_true]; rw [runFor_done h]
    | false => simp only [Bool.false_eq_true, if_false]; exact runFor_add b a _
section
variable {M : Model} {A : Around} {E : Value → Shared → Prop} {s : Shared}
theorem drive_ok {Q : Sre.M → Shared → Prop} : ∀ (k turns : Nat) (m : Sre.M), (m.runFor (4 * k)).outcome.isSome = true → k < turns → Q (m.runFor (4 * k)) s → wpAny M A (Builtin.Re.reDrive turns m) Q E s := by
  intro k
  induction k with
  | zero =>
    intro turns m ho hk hQ
    obtain ⟨t, rfl⟩ : ∃ t, turns = t + 1 := ⟨turns - 1, by omega⟩
    have h1 : m.runFor 4 = m := runFor_done ho 4
    show wpAny M A (if (m.runFor 4).outcome.isSome then pure (m.runFor 4) else (rule "sre.turn" >>= fun _ => Builtin.Re.reDrive t (m.runFor 4))) Q E s
    rw [h1, if_pos (show m.outcome.isSome = true from ho)]
    exact wpAny_pure hQ
  | succ k ih =>
    intro turns m ho hk hQ
    obtain ⟨t, rfl⟩ : ∃ t, turns = t + 1 := ⟨turns - 1, by omega⟩
    have h1 : m.runFor (4 * (k + 1)) = (m.runFor 4).runFor (4 * k) := by
      rw [show 4 * (k + 1) = 4 + 4 * k by omega]; exact runFor_add _ _ _
    rw [h1] at ho hQ
    show wpAny M A (if (m.runFor 4).outcome.isSome then pure (m.runFor 4) else (rule "sre.turn" >>= fun _ => Builtin.Re.reDrive t (m.runFor 4))) Q E s
    cases h : (m.runFor 4).outcome.isSome with
    | true =>
      rw [if_pos rfl]
      rw [runFor_done h] at hQ
      exact wpAny_pure hQ
    | false =>
      rw [if_neg (by decide)]
      exact wpAny_bind (wpAny_rule (ih t _ ho (by omega) hQ))

/-- where a search ends: matched from, to; or nowhere -/
def endOf (m : Sre.M) : Option (Option (Nat × Nat)) :=
  match m.outcome with
  | some .matched => some (some (m.start, m.handed))
  | some .failed => some none
  | _ => none
def Ended (r : Option (Nat × Nat)) (x : Option Sre.M) : Prop :=
  match r, x with
  | some (b, e), some m => m.start = b ∧ m.handed = e
  | none, none => True
  | _, _ => False
theorem run_ok {Q : Option Sre.M → Shared → Prop} {m : Sre.M} {r : Option (Nat × Nat)} (k : Nat) (he : endOf (m.runFor (4 * k)) = some r) (hk : k < 2 ^ 64) (h : ∀ x, Ended r x → Q x s) : wpAny M A (Builtin.Re.reRunToEnd m) Q E s := by
  unfold Builtin.Re.reRunToEnd
  refine wpAny_bind (drive_ok k _ m ?_ hk ?_)
  · unfold endOf at he
    cases ho : (m.runFor (4 * k)).outcome with
    | none => rw [ho] at he; cases he
    | some _ => rfl
  · refine wpAny_bind (wpAny_forIn_list _ (fun _ _ s' => s' = s) _ ?_ ?_ _ _ rfl)
    · rintro x rest b s' rfl
      split
      · exact wpAny_bind (wpAny_rule (wpAny_pure rfl))
      · exact wpAny_pure rfl
    · rintro b s' rfl
      unfold endOf at he
      cases ho : (m.runFor (4 * k)).outcome with
      | none => rw [ho] at he; cases he
      | some o =>
        rw [ho] at he
        cases o with
        | matched => cases he; exact wpAny_pure (h _ ⟨rfl, rfl⟩)
        | failed => cases he; exact wpAny_pure (h _ trivial)
        | stuck w => cases he
theorem target_ok {pat codeA : Addr} {a0 a1 a3 a4 : Value} {its : Array Value} {n : Nat} {x : Str} {t : Tok} {oC : Obj} {Q : Builtin.Re.ReTarget → Shared → Prop}
    (hp : s.heap.get? pat = some { cls := .type "re.Pattern", data := .fields #[a0, a1, .int 0 0, a3, a4, .ref codeA, .int 0 0] }) (hc : s.heap.get? codeA = some oC) (hd : oC.data = .seq its n)
    (h : Q { pattern := .ref pat, string := .str x t, code := (its.map Builtin.Re.reRawOf).map Int.toNat, text := x.cps, kind := 0, groups := 0, pos := 0, lim := x.cps.size } s) :
    wpAny M A (Builtin.Re.reWholeTarget (.ref pat) (.str x t)) Q E s := by
  unfold Builtin.Re.reWholeTarget
  refine wpAny_bind ?_
  unfold fieldsOf
  refine wpAny_bind (wpAny_load hp (wpAny_pure ?_))
  refine wpAny_bind (show wpAny M A (Builtin.Re.reTextOf (.str x t)) _ E s from wpAny_bind (wpAny_pure (wpAny_pure ?_)))
  refine wpAny_bind ?_
  refine wpAny_pure ?_
  unfold Builtin.Re.reRawItems
  refine wpAny_bind ?_
  refine wpAny_bind (wpAny_seqItems (items := its) (n := n) hc hd (wpAny_pure ?_))
  exact wpAny_pure h
end
end

section
theorem strs_snoc {vs : List Value} {ys : List Str} {y : Str} {t : Tok} (h : StrsAre vs ys) : StrsAre (vs ++ [.str y t]) (ys ++ [y]) := by
  induction h with
  | nil => exact .cons _ _ .nil
  | cons _ _ _ ih => exact .cons _ _ ih
theorem strs_length {vs : List Value} {ys : List Str} (h : StrsAre vs ys) : vs.length = ys.length := by
  induction h with
  | nil => rfl
  | cons _ _ _ ih => simp [ih]
section
variable {M : Model} {A : Around} {E : Value → Shared → Prop} {s : Shared} {h₀ : Heap} {L D : Addr} {m : Str → Option Value} {news : List (Addr × Obj)}
theorem updPush_N {its : Array Value} {n : Nat} {x : Value} {Q : Unit → Shared → Prop} (F : Fr h₀ L s.heap m) (N : News h₀ L s.heap ((D, listOf its n) :: news)) (hne : ∀ p ∈ news, p.1 ≠ D)
    (h : ∀ h', Fr h₀ L h' m → News h₀ L h' ((D, listOf (its.push x) (n + 1)) :: news) → Q () { s with heap := h' }) (hsz : its.size ≤ sizeLine) : wpAny M A (updateSeq D (·.push x)) Q E s := by
  have z := N _ (.head _)
  refine wpAny_updateSeq z.1 rfl (h _ (F.change (Heap.SameBut.update ..) z.2.1 z.2.2) ?_) hsz (by simp; omega)
  exact kl_turn (pre := []) (fun a => a.push x) N (fun _ h => nomatch h) hne rfl (by simp)
end
/-- the next hit, or none -/
def foundAt (code text : Array Nat) (start : Nat) (must : Bool) : Option (Option (Nat × Nat)) := endOf ((Sre.forSearch code text 0 start text.size must).runFor 4000)
/-- the pieces of the text behind a substitution -/
def subP (code text : Array Nat) (repl : Str) : Nat → Nat → Nat → Bool → Option (List Str)
  | 0, _, _, _ => none
  | f + 1, done, start, must =>
    match foundAt code text start must with
    | none => none
    | some none => some (if done < text.size then [⟨text.extract done text.size⟩] else [])
    | some (some (b, e)) => (subP code text repl f e e (e == b)).map fun r => (if done < b then [⟨text.extract done b⟩] else []) ++ repl :: r

theorem loop_ok {prog : Program} {w : World} {A : Around} {R : Result → Shared → Prop} {h₀ : Heap} {L pat codeA lA : Addr} {m : Str → Option Value} {news : List (Addr × Obj)} {a0 a1 a3 a4 : Value} {its : Array Value} {nC : Nat} {oC : Obj} {x repl : Str} {t rt : Tok} {code : Array Nat} {g d os : _}
    (hp : h₀.get? pat = some { cls := .type "re.Pattern", data := .fields #[a0, a1, .int 0 0, a3, a4, .ref codeA, .int 0 0] }) (hc : h₀.get? codeA = some oC) (hd : oC.data = .seq its nC) (hcode : (its.map Builtin.Re.reRawOf).map Int.toNat = code)
    (hx : x.cps.size ≤ 1000) (hne : ∀ p ∈ news, p.1 ≠ lA) {all : List Str} (hall : all ≠ []) (hw : (all.map (·.length)).sum + all.length ≤ 1048576)
    (fin : ∀ h' tk' t', Fr h₀ L h' m → News h₀ L h' news → R (.ok (.ret (.str (Txt.join ⟨x.cps.extract 0 0⟩ all) t'))) ⟨h', g, d, tk', os⟩) :
    ∀ (f n done start : Nat) (must : Bool) (h : Heap) (tk : Nat) (acc : Array Value) (c : Nat) (ys ps : List Str), subP code x.cps repl f done start must = some ps → ys ++ ps = all →
      Fr h₀ L h m → News h₀ L h ((lA, listOf acc c) :: news) → StrsAre acc.toList ys → acc.size ≤ 10000 - 2 * f → 2 * f ≤ 10000 →
      codeAny (model prog w) A (.builtin "re.Pattern.sub.loop" ⟨[.ref pat, .str x t, .str repl rt, rawInt 0, rawInt 0, rawInt n, rawInt done, rawInt start, .bool must, .ref lA, .bool false], []⟩) R ⟨h, g, d, tk, os⟩ := by
  intro f
  induction f with
  | zero => intro n done start must h tk acc c ys ps e; cases e
  | succ f ih =>
    intro n done start must h tk acc c ys ps e hy F N hS hz hf
    refine codeAny_builtin entry_rx_loop ?_
    rw [Around.under_plainId plain_rx_loop _]
    unfold Builtin.«re.Pattern.sub.loop»
    dsimp only [rawInt]
    refine wpAny_bind (target_ok (F.keep _ _ hp) (F.keep _ _ hc) hd ?_)
    rw [hcode]
    refine wpAny_bind ?_
    refine wpAny_pure ?_
    unfold subP at e
    cases hfound : foundAt code x.cps start must with
    | none => rw [hfound] at e; cases e
    | some r =>
      rw [hfound] at e
      refine wpAny_bind (run_ok (r := r) 1000 hfound (by decide) ?_)
      intro y hyE
      cases r with
      | none =>
        cases y with
        | some _ => exact hyE.elim
        | none =>
          dsimp only at e
          have ep : (if done < x.cps.size then [(⟨x.cps.extract done x.cps.size⟩ : Str)] else []) = ps := by injection e
          have key : ∀ (h2 : Heap) (tk2 : Nat) (acc2 : Array Value) (c2 : Nat), Fr h₀ L h2 m → News h₀ L h2 ((lA, listOf acc2 c2) :: news) → StrsAre acc2.toList all →
              wpAny (model prog w) A.in1 (do
                let joiner ← Builtin.Re.reSlice x.cps 0 0 0
                let text ← if ((← seqItems? (.ref lA)).getD #[]).isEmpty then pure joiner else call (.builtin "str.join") [joiner, .ref lA]
                ret text) (fun fin s' => match fin with | .done f => R (.ok f) s' | .again c' => c'.quiet = true ∧ codeAny (model prog w) A c' R s') (fun e s' => R (.error e) s') ⟨h2, g, d, tk2, os⟩ := by
            intro h2 tk2 acc2 c2 F2 N2 hS2
            have z := N2 _ (.head _)
            refine wpAny_bind (wpAny_mkStr ?_ (by show (x.cps.extract 0 0).size ≤ _; simp))
            refine wpAny_bind (wpAny_seqItems z.1 rfl ?_)
            have hemp : acc2.isEmpty = false := by
              have := strs_length hS2
              cases all with
              | nil => exact absurd rfl hall
              | cons a b =>
                simp only [List.length_cons, Array.length_toList] at this
                simp [Array.isEmpty, this]
            show wpAny _ _ (if acc2.isEmpty = true then _ else _) _ _ _
            rw [hemp, if_neg (by decide)]
            refine wpAny_bind (join_listW (News.isList N2 (.head _)) hS2 (by show (x.cps.extract 0 0).size ≤ 16; simp) hw ?_)
            intro t' k
            exact wpAny_pure (fin h2 k t' F2 (fun p hp => N2 p (.tail _ hp)))
          by_cases hdn : done < x.cps.size
          · rw [if_pos hdn] at ep
            show wpAny _ _ (if done < x.cps.size then _ else _) _ _ _
            rw [if_pos hdn]
            refine wpAny_bind (wpAny_mkStr ?_ (by show (x.cps.extract done x.cps.size).size ≤ sizeLine; simp [sizeLine]; omega))
            refine wpAny_bind (updPush_N F N hne ?_ (by simp [sizeLine]; omega))
            intro h' F' N'
            exact key _ _ _ _ F' N' (by rw [Array.toList_push, ← hy, ← ep]; exact strs_snoc hS)
          · rw [if_neg hdn] at ep
            show wpAny _ _ (if done < x.cps.size then _ else _) _ _ _
            rw [if_neg hdn]
            exact key _ _ _ _ F N (by rw [← hy, ← ep, List.append_nil]; exact hS)
      | some be =>
        obtain ⟨b, e'⟩ := be
        cases y with
        | none => exact hyE.elim
        | some mm =>
          obtain ⟨h1, h2⟩ := hyE
          dsimp only at e
          obtain ⟨r, hr, er⟩ : ∃ r, subP code x.cps repl f e' e' (e' == b) = some r ∧ (if done < b then [(⟨x.cps.extract done b⟩ : Str)] else []) ++ repl :: r = ps := by
            cases hq : subP code x.cps repl f e' e' (e' == b) with
            | none => rw [hq] at e; cases e
            | some r => rw [hq] at e; injection e with e; exact ⟨r, rfl, e⟩
          have key : ∀ (h2 : Heap) (tk2 : Nat) (acc2 : Array Value) (c2 : Nat) (ys2 : List Str), Fr h₀ L h2 m → News h₀ L h2 ((lA, listOf acc2 c2) :: news) → StrsAre acc2.toList ys2 → acc2.size ≤ 9999 - 2 * f → ys2 ++ repl :: r = all → 
              wpAny (model prog w) A.in1 (do
                let item ← pure (Value.str repl rt)
                if item != .none then updateSeq lA (·.push item)
                again (.builtin "re.Pattern.sub.loop" ⟨[.ref pat, .str x t, .str repl rt, .int 0 0, .int 0 0, .int (n + 1) 0, .int mm.handed 0, .int mm.handed 0, .bool (mm.handed == mm.start), .ref lA, .bool false], []⟩))
                (fun fin s' => match fin with | .done f => R (.ok f) s' | .again c' => c'.quiet = true ∧ codeAny (model prog w) A c' R s') (fun e s' => R (.error e) s') ⟨h2, g, d, tk2, os⟩ := by
            intro h2' tk2 acc2 c2 ys2 F2 N2 hS2 hz2 hall2
            refine wpAny_bind (wpAny_pure ?_)
            show wpAny _ _ (if (Value.str repl rt != Value.none) = true then _ else _) _ _ _
            rw [if_pos (by rfl)]
            refine wpAny_bind (updPush_N F2 N2 hne ?_ (by simp [sizeLine]; omega))
            intro h' F' N'
            refine wpAny_pure ⟨plainId_quiet plain_rx_loop _, ?_⟩
            rw [h2, h1]
            exact ih (n + 1) e' e' _ _ _ _ _ (ys2 ++ [repl]) r hr (by rw [← hall2]; simp) F' N' (by rw [Array.toList_push]; exact strs_snoc hS2) (by simp; omega) (by omega)
          by_cases hdn : done < b
          · rw [if_pos hdn] at er
            show wpAny _ _ (if done < mm.start then _ else _) _ _ _
            rw [if_pos (by rw [h1]; exact hdn)]
            refine wpAny_bind (wpAny_mkStr ?_ (by show (x.cps.extract done mm.start).size ≤ sizeLine; simp [sizeLine]; omega))
            refine wpAny_bind (updPush_N F N hne ?_ (by simp [sizeLine]; omega))
            intro h' F' N'
            exact key _ _ _ _ (ys ++ [⟨x.cps.extract done b⟩]) F' N' (by rw [Array.toList_push, h1]; exact strs_snoc hS) (by simp; omega) (by rw [← hy, ← er]; simp)
          · rw [if_neg hdn] at er
            show wpAny _ _ (if done < mm.start then _ else _) _ _ _
            rw [if_neg (by rw [h1]; exact hdn)]
            exact key _ _ _ _ ys F N hS (by omega) (by rw [← hy, ← er]; simp)
end

section
theorem named_ok (a b : Value) : Builtin.Re.reNamed "re.Pattern.sub" "sub" ["repl", "string", "count"] 2 [a, b] [] = pure [some a, some b, none] := by rfl
theorem sub_ok {prog : Program} {w : World} {A : Around} {E : Value → Shared → Prop} {s : Shared} {Q : Value → Shared → Prop} {h₀ : Heap} {L pat codeA : Addr} {m : Str → Option Value} {news : List (Addr × Obj)} {a0 a1 a3 a4 : Value} {its : Array Value} {nC : Nat} {oC : Obj} {x repl : Str} {t rt : Tok} {code : Array Nat} {ps : List Str}
    (F : Fr h₀ L s.heap m) (N : News h₀ L s.heap news)
    (hp : h₀.get? pat = some { cls := .type "re.Pattern", data := .fields #[a0, a1, .int 0 0, a3, a4, .ref codeA, .int 0 0] }) (hc : h₀.get? codeA = some oC) (hd : oC.data = .seq its nC) (hcode : (its.map Builtin.Re.reRawOf).map Int.toNat = code)
    (hx : x.cps.size ≤ 1000) (hrepl : repl.cps.contains 92 = false) (hps : subP code x.cps repl 500 0 0 false = some ps) (hne : ps ≠ []) (hw : (ps.map (·.length)).sum + ps.length ≤ 1048576)
    (h : ∀ h' tk' t', Fr h₀ L h' m → News h₀ L h' news → Q (.str (Txt.join ⟨x.cps.extract 0 0⟩ ps) t') { s with heap := h', toks := tk' }) :
    wpAny (model prog w) A (call (.builtin "re.Pattern.sub") [.ref pat, .str repl rt, .str x t]) Q E s := by
  have hp2 := F.keep _ _ hp
  refine wpAny_call (codeAny_call_builtin slot_rx_sub.plain entry_rx_sub (slot_rx_sub.check _ _ _ _ _ _ _ _ ⟨_, hp2, rfl⟩ (args_rx_sub _ _ _) ?_))
  unfold Builtin.«re.Pattern.sub» Builtin.Re.reSubstitute
  dsimp only
  rw [named_ok]
  refine wpAny_bind (wpAny_pure ?_)
  dsimp only
  refine wpAny_bind (wpAny_pure ?_)
  refine wpAny_bind (wpAny_specialOf (T := "str") (r := none) rfl str_no_call ?_)
  refine wpAny_bind (wpAny_bind (wpAny_pure ?_))
  refine wpAny_pure ?_
  refine wpAny_bind (wpAny_pure ?_)
  rw [hrepl]
  show wpAny _ _ (pure (Value.str repl rt, (0 : Int)) >>= _) _ _ _
  refine wpAny_bind (wpAny_pure ?_)
  refine wpAny_bind (wpAny_holding (target_ok hp2 (F.keep _ _ hc) hd ?_))
  show wpAny _ _ (newList [] >>= _) _ _ _
  refine wpAny_bind (newList_K F N (fun l h' F' N' hl => ?_))
  refine wpAny_pure ⟨plainId_quiet plain_rx_loop _, ?_⟩
  exact loop_ok (R := wants Q E) (g := s.gens) (d := s.drawn) (os := s.os) hp hc hd hcode hx (fun p hp => Nat.ne_of_lt (hl p hp)) hne hw (fun h' tk' t' F' N' => h h' tk' t' F' N') 500 0 0 0 false h' s.toks #[] 0 [] ps hps rfl F' N' .nil (by simp) (by decide)
end

section
local macro_rules | `(tactic| walk_at "eval Name") => `(tactic| (k_here; k_dflt (refine' nameX_L ?F ?v ?_ ?a ?b; (case F => k_asm); (case a => rfl); (case b => rfl); (case v => walk_at "my_val"); k_whole)))
local macro_rules | `(tactic| walk_at "call ref") => `(tactic| refine Stop.go ?_)
local macro_rules | `(tactic| walk_at "call builtin:re.Pattern.sub") => `(tactic| refine Stop.go ?_)
local macro_rules | `(tactic| walk_at "Stop") => `(tactic| fail)

def code86 : Array Nat := #[14,4,0,1,1,6,1,16,46,1]
def code91 : Array Nat := #[14,9,4,1,2,16,10,16,13,0,7,7,16,13,16,10,15,18,5,16,10,15,13,11,16,13,5,5,0,16,10,1,15,2,0,1]
def crlf : Str := Str.ofString "\r\n"
def dots : Str := Str.ofString ".."
def joinP (x : Str) (ps : List Str) : Str := Txt.join ⟨x.cps.extract 0 0⟩ ps
section
variable {prog : Program} {w : World} {A : Around} {E : Value → Shared → Prop} {s : Shared}
theorem rx_method {pat : Addr} {vs : Array Value} {pl : Sem Bool} {Q : Value × List Value → Shared → Prop} (hp : s.heap.get? pat = some { cls := .type "re.Pattern", data := .fields vs }) (h : Q (.builtin "re.Pattern.sub", [.ref pat]) s) :
    wpAny (model prog w) A (getMethod (.ref pat) "sub" pl) Q E s :=
  getMethod_builtin ⟨_, hp, rfl⟩ plainAttrs_rx slot_rx_sub type_rx_sub (fun a e => by cases e; exact ⟨_, hp, rfl⟩) h
end
theorem quote_ok {w : World} {dp un : Nat} {gd : Option (List Code)} {cn : Str} {cs : Scope} {L a : Addr} {ccd : Value} {cl : List (Str × Addr)} {outer : List Env} {A₀ : Around} {base h₀ : Heap} {m mg mb : Str → Option Value} {news : List (Addr × Obj)} {s : Shared} {Q E : Value → Shared → Prop} {p : Program} {loose : List Str} {mean : ExcName → Option Value}
  {x y : Str} {t : Tok} {ps qs : List Str}
  (B : Below A₀ base outer h₀) (F : Fr h₀ L s.heap m) (X : (hd.heap_39 w.params).In h₀) (N : News h₀ L s.heap news) (T : Top p loose mean mg mb h₀) (hk : cs.kind = .function)
  (hdp : dp + 20 < recursionLimit) (hun : un + 90 < cLine)
  (hx : x.cps.size ≤ 1000) (h1 : subP code91 x.cps crlf 500 0 0 false = some ps) (h1n : ps ≠ []) (h1w : (ps.map (·.length)).sum + ps.length ≤ 1048576)
  (hy : y = joinP x ps) (hys : y.cps.size ≤ 1000) (h2 : subP code86 y.cps dots 500 0 0 false = some qs) (h2n : qs ≠ []) (h2w : (qs.map (·.length)).sum + qs.length ≤ 1048576)
  (ret : ∀ h' tk' t', Fr h₀ L h' m → News h₀ L h' news → Q (.str (joinP y qs) t') { s with heap := h', toks := tk' })
  : wpAny (model PySem.Challenge.rw_sr0012_01.row.prog w) (ktrTop dp un gd cn cs L a ccd cl outer) (call (.ref 98) [.str x t]) Q E s := by
  refine wpAny_call ?_
  k_dflt walk_at "my_enter"
  obtain ⟨mE, FE, e1⟩ : ∃ m', Fr gE LE hE m' ∧ m' "data" = some (.str x t) := ⟨_, FE, rfl⟩
  have g86 := XE 86 _ (by rfl)
  have g85 := XE 85 _ (by rfl)
  have g91 := XE 91 _ (by rfl)
  have g90 := XE 90 _ (by rfl)
  walk_at "my_steps"
  rename Fr _ _ _ _ => F1
  rename News _ _ _ _ => N1
  refine rx_method (F1.keep _ _ g86) ?_
  walk_at "my_steps"
  rename Fr _ _ _ _ => F2
  rename News _ _ _ _ => N2
  refine rx_method (F2.keep _ _ g91) ?_
  walk_at "my_steps"
  refine Stop.mk ?_
  rename Fr _ _ _ _ => F3
  rename News _ _ _ _ => N3
  refine sub_ok F3 N3 g91 g90 rfl (code := code91) (by decide +kernel) hx (by decide +kernel) h1 h1n h1w ?_
  intro h4 tk4 t4 F4 N4
  change Str at y
  rw [show Txt.join ⟨x.cps.extract 0 0⟩ ps = y from hy.symm]
  walk_at "my_steps"
  refine Stop.mk ?_
  rename Fr _ _ _ _ => F5
  rename News _ _ _ _ => N5
  refine sub_ok F5 N5 g86 g85 rfl (code := code86) (by decide +kernel) hys (by decide +kernel) h2 h2n h2w ?_
  intro h6 tk6 t6 F6 N6
  walk_at "my_steps"
  exact ret _ _ _ (by assumption) (by assumption)
end

section
local macro_rules | `(tactic| walk_at "eval Name") => `(tactic| (k_here; k_dflt (refine' nameX_L ?F ?v ?_ ?a ?b; (case F => k_asm); (case a => rfl); (case b => rfl); (case v => walk_at "my_val"); k_whole)))
local macro_rules | `(tactic| walk_at "call ref") => `(tactic| refine Stop.go ?_)
local macro_rules | `(tactic| walk_at "call builtin:re.Pattern.sub") => `(tactic| refine Stop.go ?_)
local macro_rules | `(tactic| walk_at "exec While") => `(tactic| refine Stop.go ?_)
local macro_rules | `(tactic| walk_at "Stop") => `(tactic| fail)


def pLoop (x : Str) : Nat → Nat → Str → Str
  | 0, _, d => d
  | f + 1, i, d =>
    if (i : Int) < x.cps.size then
      if (Txt.item x (i : Int) == "\"") = true then
        if (x.cps.size : Int) ≤ (i : Int) + 1 then d
        else if (Txt.item x ((i : Int) + 1) != "\"") = true then d
        else pLoop x f (i + 2) (d ++ Txt.item x (i : Int))
      else pLoop x f (i + 1) (d ++ Txt.item x (i : Int))
    else d
theorem pLoop_stop (x : Str) {i : Nat} (d : Str) (h : ¬ (i : Int) < x.cps.size) : ∀ f, pLoop x f i d = d
  | 0 => rfl
  | f + 1 => by unfold pLoop; rw [if_neg h]
theorem item_len (x : Str) (i : Int) : (Txt.item x i).length ≤ 1 := by
  exact Nat.le_refl 1
theorem parse_ok {w : World} {dp un : Nat} {gd : Option (List Code)} {cn : Str} {cs : Scope} {L a : Addr} {ccd : Value} {cl : List (Str × Addr)} {outer : List Env} {A₀ : Around} {base h₀ : Heap} {m mg mb : Str → Option Value} {news : List (Addr × Obj)} {s : Shared} {Q E : Value → Shared → Prop} {p : Program} {loose : List Str} {mean : ExcName → Option Value}
  {x : Str} {t : Tok}
  (B : Below A₀ base outer h₀) (F : Fr h₀ L s.heap m) (X : (hd.heap_39 w.params).In h₀) (N : News h₀ L s.heap news) (T : Top p loose mean mg mb h₀) (hk : cs.kind = .function)
  (hdp : dp + 20 < recursionLimit) (hun : un + 90 < cLine)
  (hx : x.cps.size ≤ 1000) (h5 : 5 ≤ x.cps.size) (hs1 : (Txt.slice x none (some 3) != "257") = false) (hs2 : (Txt.slice x (some 3) (some 5) != " \"") = false) {res : Str} (hres : pLoop x 2000 5 "" = res)
  (ret : ∀ h' tk' t', Fr h₀ L h' m → News h₀ L h' news → Q (.str res t') { s with heap := h', toks := tk' })
  : wpAny (model PySem.Challenge.rw_sr0012_01.row.prog w) (ktrTop dp un gd cn cs L a ccd cl outer) (call (.ref 81) [.str x t]) Q E s := by
  refine wpAny_call ?_
  k_dflt walk_at "my_enter"
  obtain ⟨mE, FE, e1⟩ : ∃ m', Fr gE LE hE m' ∧ m' "resp" = some (.str x t) := ⟨_, FE, rfl⟩
  walk_at "my_steps"
  rename Fr _ _ _ _ => F1
  rename News _ _ _ _ => N1
  refine len_str (by show ¬ ((x.cps.size : Nat) : Int) ≥ 2 ^ 63; omega) ?_
  walk_at "my_steps"
  refine Stop.mk ?_
  rename Fr _ _ _ _ => F2
  rename News _ _ _ _ => N2
  obtain ⟨m2, F2, ti0, td0, tn0, z1, z2, z3, z4⟩ : ∃ m', Fr gE LE _ m' ∧ ∃ ti td tn, m' "resp" = some (.str x t) ∧ m' "i" = some (.int (5 : Nat) ti) ∧ m' "dirname" = some (.str "" td) ∧ m' "n" = some (.int (x.cps.size : Nat) tn) := ⟨_, F2, _, _, _, e1, rfl, rfl, rfl⟩
  refine While_inv2 (h₀ := gE) (L := LE) (news := news) (fun n m' nw => ∃ i d f ti td tn, n = x.cps.size - i ∧ i ≤ x.cps.size ∧ x.cps.size - i ≤ f ∧ d.length ≤ i ∧ pLoop x f i d = res ∧ nw = news ∧ m' "resp" = some (.str x t) ∧ m' "i" = some (.int (i : Nat) ti) ∧ m' "dirname" = some (.str d td) ∧ m' "n" = some (.int (x.cps.size : Nat) tn)) ?kF ?kN (n₀ := x.cps.size - 5) ⟨5, "", 2000, _, _, _, rfl, ?_, by omega, by decide, hres, rfl, z1, z2, z3, z4⟩ ?_ ?_
  case kF => exact F2
  case kN => exact N2
  · exact h5
  · rintro n m3 nw3 h3 tk3 F3 N3 ⟨i, d, f, ti, td, tn, hn, hi, hf, hd, hp, hnw, q1, q2, q3, q4⟩
    subst hnw
    clear F2 N2
    have hxl : x.length = x.cps.size := rfl
    have hil := item_len x (i : Int)
    walk_at "my_steps"
    · rename (Txt.item x (i : Int) == "\"") = true => c1
      rename (x.cps.size : Int) ≤ (i : Int) + 1 => c2
      rename (i : Int) < x.cps.size => c0
      obtain ⟨f, rfl⟩ : ∃ f', f = f' + 1 := ⟨f - 1, by omega⟩
      unfold pLoop at hp
      rw [if_pos c0, if_pos c1, if_pos c2] at hp
      subst hp
      dsimp only [WhileStep2]
      walk_at "my_steps"
      exact ret _ _ _ (by assumption) (by assumption)
    · rename (Txt.item x (i : Int) == "\"") = true => c1
      rename ¬ (x.cps.size : Int) ≤ (i : Int) + 1 => c2
      rename (i : Int) < x.cps.size => c0
      rename (Txt.item x ((i : Int) + 1) != "\"") = true => c3
      obtain ⟨f, rfl⟩ : ∃ f', f = f' + 1 := ⟨f - 1, by omega⟩
      unfold pLoop at hp
      rw [if_pos c0, if_pos c1, if_neg c2, if_pos c3] at hp
      subst hp
      dsimp only [WhileStep2]
      walk_at "my_steps"
      exact ret _ _ _ (by assumption) (by assumption)
    · rename (Txt.item x (i : Int) == "\"") = true => c1
      rename ¬ (x.cps.size : Int) ≤ (i : Int) + 1 => c2
      rename (i : Int) < x.cps.size => c0
      rename (Txt.item x ((i : Int) + 1) != "\"") = false => c3
      obtain ⟨f, rfl⟩ : ∃ f', f = f' + 1 := ⟨f - 1, by omega⟩
      unfold pLoop at hp
      rw [if_pos c0, if_pos c1, if_neg c2, c3, if_neg (by decide)] at hp
      rename Fr gE _ _ _ => F5
      rename News gE _ _ _ => N5
      refine ⟨_, _, _, _, x.cps.size - (i + 2), rfl, F5, N5, by omega, i + 2, _, f, _, _, _, rfl, by omega, by omega, ?_, hp, rfl, q1, rfl, rfl, q4⟩
      show (d ++ Txt.item x (i : Int)).cps.size ≤ i + 2
      have : (d ++ Txt.item x (i : Int)).cps.size = d.length + (Txt.item x (i : Int)).length := Array.size_append
      omega
    · rename (Txt.item x (i : Int) == "\"") = false => c1
      rename (i : Int) < x.cps.size => c0
      obtain ⟨f, rfl⟩ : ∃ f', f = f' + 1 := ⟨f - 1, by omega⟩
      unfold pLoop at hp
      rw [if_pos c0, c1, if_neg (by decide)] at hp
      rename Fr gE _ _ _ => F5
      rename News gE _ _ _ => N5
      refine ⟨_, _, _, _, x.cps.size - (i + 1), rfl, F5, N5, by omega, i + 1, _, f, _, _, _, rfl, by omega, by omega, ?_, hp, rfl, q1, rfl, rfl, q4⟩
      show (d ++ Txt.item x (i : Int)).cps.size ≤ i + 1
      have : (d ++ Txt.item x (i : Int)).cps.size = d.length + (Txt.item x (i : Int)).length := Array.size_append
      omega
    · rename ¬ (i : Int) < x.cps.size => c0
      rw [pLoop_stop x d c0 f] at hp
      subst hp
      exact ret _ _ _ (by assumption) (by assumption)
  · first | passes_own | with_unfolding_all passes_own
end

section
def rep (x : Str) (k : Nat) : Str := ⟨(List.replicate k x.cps).foldl (· ++ ·) #[]⟩
def markOf (k : Nat) : Str := if k = 0 then Str.ofString "\n" else if k = 1 then Str.ofString "\r" else Str.ofString "\r\n"
def replyOf (v k : Nat) : Str := Str.ofString "257 \"" ++ rep (Str.ofString "\"\"") (v / 4) ++ rep (markOf k ++ Str.ofString ".") (v % 4) ++ Str.ofString "\""
def nameOf (v : Nat) : Str := rep (Str.ofString "\"") (v / 4) ++ rep (Str.ofString "\r\n..") (v % 4)
def chk (x want : Str) : Bool :=
  decide (x.cps.size ≤ 1000) && match subP code91 x.cps crlf 500 0 0 false with
  | none => false
  | some ps => !ps.isEmpty && decide ((ps.map (·.length)).sum + ps.length ≤ 1048576) && decide ((joinP x ps).cps.size ≤ 1000) && match subP code86 (joinP x ps).cps dots 500 0 0 false with
    | none => false
    | some qs => !qs.isEmpty && decide ((qs.map (·.length)).sum + qs.length ≤ 1048576) && decide (5 ≤ (joinP (joinP x ps) qs).cps.size ∧ (joinP (joinP x ps) qs).cps.size ≤ 1000) && !(Txt.slice (joinP (joinP x ps) qs) none (some 3) != "257") &&
      !(Txt.slice (joinP (joinP x ps) qs) (some 3) (some 5) != " \"") && pLoop (joinP (joinP x ps) qs) 2000 5 "" == want
theorem chkA0 : ((List.range 3).all fun k => chk (replyOf 0 k) (nameOf 0)) = true := by decide +kernel
theorem chkA1 : ((List.range 3).all fun k => chk (replyOf 1 k) (nameOf 1)) = true := by decide +kernel
theorem chkA2 : ((List.range 3).all fun k => chk (replyOf 2 k) (nameOf 2)) = true := by decide +kernel
theorem chkA3 : ((List.range 3).all fun k => chk (replyOf 3 k) (nameOf 3)) = true := by decide +kernel
theorem chkA4 : ((List.range 3).all fun k => chk (replyOf 4 k) (nameOf 4)) = true := by decide +kernel
theorem chkA5 : ((List.range 3).all fun k => chk (replyOf 5 k) (nameOf 5)) = true := by decide +kernel
theorem chkA6 : ((List.range 3).all fun k => chk (replyOf 6 k) (nameOf 6)) = true := by decide +kernel
theorem chkA7 : ((List.range 3).all fun k => chk (replyOf 7 k) (nameOf 7)) = true := by decide +kernel
theorem chkA8 : ((List.range 3).all fun k => chk (replyOf 8 k) (nameOf 8)) = true := by decide +kernel
theorem chkA9 : ((List.range 3).all fun k => chk (replyOf 9 k) (nameOf 9)) = true := by decide +kernel
theorem chkA10 : ((List.range 3).all fun k => chk (replyOf 10 k) (nameOf 10)) = true := by decide +kernel
theorem chkA11 : ((List.range 3).all fun k => chk (replyOf 11 k) (nameOf 11)) = true := by decide +kernel
theorem chkA12 : ((List.range 3).all fun k => chk (replyOf 12 k) (nameOf 12)) = true := by decide +kernel
theorem chkA13 : ((List.range 3).all fun k => chk (replyOf 13 k) (nameOf 13)) = true := by decide +kernel
theorem chkA14 : ((List.range 3).all fun k => chk (replyOf 14 k) (nameOf 14)) = true := by decide +kernel
theorem chkA15 : ((List.range 3).all fun k => chk (replyOf 15 k) (nameOf 15)) = true := by decide +kernel
theorem chkA16 : ((List.range 3).all fun k => chk (replyOf 16 k) (nameOf 16)) = true := by decide +kernel
theorem chkA17 : ((List.range 3).all fun k => chk (replyOf 17 k) (nameOf 17)) = true := by decide +kernel
theorem chkA18 : ((List.range 3).all fun k => chk (replyOf 18 k) (nameOf 18)) = true := by decide +kernel
theorem chkA19 : ((List.range 3).all fun k => chk (replyOf 19 k) (nameOf 19)) = true := by decide +kernel
theorem chkA20 : ((List.range 3).all fun k => chk (replyOf 20 k) (nameOf 20)) = true := by decide +kernel
theorem chkA21 : ((List.range 3).all fun k => chk (replyOf 21 k) (nameOf 21)) = true := by decide +kernel
theorem chkA22 : ((List.range 3).all fun k => chk (replyOf 22 k) (nameOf 22)) = true := by decide +kernel
theorem chkA23 : ((List.range 3).all fun k => chk (replyOf 23 k) (nameOf 23)) = true := by decide +kernel
theorem chk_row : ∀ v, v < 24 → ((List.range 3).all fun k => chk (replyOf v k) (nameOf v)) = true
  | 0, _ => chkA0
  | 1, _ => chkA1
  | 2, _ => chkA2
  | 3, _ => chkA3
  | 4, _ => chkA4
  | 5, _ => chkA5
  | 6, _ => chkA6
  | 7, _ => chkA7
  | 8, _ => chkA8
  | 9, _ => chkA9
  | 10, _ => chkA10
  | 11, _ => chkA11
  | 12, _ => chkA12
  | 13, _ => chkA13
  | 14, _ => chkA14
  | 15, _ => chkA15
  | 16, _ => chkA16
  | 17, _ => chkA17
  | 18, _ => chkA18
  | 19, _ => chkA19
  | 20, _ => chkA20
  | 21, _ => chkA21
  | 22, _ => chkA22
  | 23, _ => chkA23
  | n + 24, h => absurd h (by omega)
theorem name_lt : ((List.range 24).all fun v => (List.range 24).all fun u => slt (nameOf v) (nameOf u) == decide (v < u)) = true := by decide +kernel
end

section
local macro_rules | `(tactic| walk_at "eval Name") => `(tactic| (k_here; k_dflt (refine' nameX_L ?F ?v ?_ ?a ?b; (case F => k_asm); (case a => rfl); (case b => rfl); (case v => walk_at "my_val"); k_whole)))
local macro_rules | `(tactic| walk_at "call ref") => `(tactic| refine Stop.go ?_)
local macro_rules | `(tactic| walk_at "call builtin:re.Pattern.sub") => `(tactic| refine Stop.go ?_)
local macro_rules | `(tactic| walk_at "pyIter ref") => `(tactic| refine Stop.go ?_)
local macro_rules | `(tactic| walk_at "binaryOp Mult int int") => `(tactic| refine Stop.go ?_)
local macro_rules | `(tactic| walk_at "Stop") => `(tactic| fail)


def factP : Nat → Nat
  | 0 => 1
  | n + 1 => factP n * (n + 1)
theorem factP_le : ∀ n < 11, factP n ≤ 3628800 := by decide
theorem orders_ok {w : World} {dp un : Nat} {gd : Option (List Code)} {cn : Str} {cs : Scope} {L a : Addr} {ccd : Value} {cl : List (Str × Addr)} {outer : List Env} {A₀ : Around} {base h₀ : Heap} {m mg mb : Str → Option Value} {news : List (Addr × Obj)} {s : Shared} {Q E : Value → Shared → Prop} {p : Program} {loose : List Str} {mean : ExcName → Option Value}
  {many : Nat} {t : Tok}
  (B : Below A₀ base outer h₀) (F : Fr h₀ L s.heap m) (X : (hd.heap_39 w.params).In h₀) (N : News h₀ L s.heap news) (T : Top p loose mean mg mb h₀) (hk : cs.kind = .function)
  (hdp : dp + 20 < recursionLimit) (hun : un + 90 < cLine) (hm : many ≤ 10)
  (ret : ∀ h' tk' t', Fr h₀ L h' m → News h₀ L h' news → Q (.int (factP many : Nat) t') { s with heap := h', toks := tk' })
  : wpAny (model PySem.Challenge.rw_sr0012_01.row.prog w) (ktrTop dp un gd cn cs L a ccd cl outer) (call (.ref 117) [.int (many : Nat) t]) Q E s := by
  refine wpAny_call ?_
  k_dflt walk_at "my_enter"
  obtain ⟨mE, FE, e1⟩ : ∃ m', Fr gE LE hE m' ∧ m' "many" = some (.int (many : Nat) t) := ⟨_, FE, rfl⟩
  walk_at "my_steps"
  refine Stop.mk ?_
  rename IsRange _ _ _ _ _ _ _ _ => hR
  rename Fr _ _ _ _ => F4
  rename News _ _ _ _ => N4
  refine iter_rangeUnr (n := many) (by rfl) hR (small_one (by omega) (by omega) (by omega) (by omega)) (by rw [rangeSize_nat]; omega) F4 N4 ?_
  intro I hI
  refine rangeRest_of (fun i m' nw => (∃ t, m' "product" = some (.int (factP i : Nat) t)) ∧ nw = news) ?_ ?_ _ 0 (by omega) _ _ ⟨⟨_, rfl⟩, rfl⟩
  · rintro i m2 nw t5 h5 tk5 it hi ⟨⟨tq, q1⟩, rfl⟩ hit F5 N5
    rw [Int.zero_add] at F5
    walk_at "my_steps"
    refine Stop.mk ?_
    rename Fr _ _ _ _ => F6
    rename News _ _ _ _ => N6
    have hf := factP_le i (by omega)
    refine PyProof.Rows.mul_int ?_ (IntMulOk.of_left (intBits_le_64 (by omega) (by omega)))
    walk_at "my_steps"
    refine Stop.mk ?_
    rename Fr _ _ _ _ => F7
    rename News _ _ _ _ => N7
    have he : ((factP i : Nat) : Int) * ((i : Int) + 1) = ((factP (i + 1) : Nat) : Int) := by
      show _ = ((factP i * (i + 1) : Nat) : Int)
      push_cast; rfl
    rw [he] at F7
    refine ⟨by first | rfl | trivial, _, _, _, nw, rfl, F7, N7, fun p hp => Nat.ne_of_lt (hI p hp), ⟨_, rfl⟩, rfl⟩
  · rintro m2 nw h5 tk5 ⟨⟨tq, q1⟩, rfl⟩ F5 N5
    clear F4 N4
    walk_at "my_steps"
    exact ret _ _ _ (by assumption) (by assumption)
end

section
section
variable {prog : Program} {w : World} {A : Around} {E : Value → Shared → Prop} {s : Shared} {h₀ : Heap} {L : Addr} {m : Str → Option Value} {news : List (Addr × Obj)}
/-- a part of a list that no name holds -/
theorem slice_tmp {value slice : PySem.Expr} {l : Addr} {items : Array Value} {vl vu : Value} {lo hi : Option Int} {Q : Value → Shared → Prop}
    (F : Fr h₀ L s.heap m) (N : News h₀ L s.heap news) (hl : s.heap.IsList l items) (pl : IsPart vl lo) (pu : IsPart vu hi)
    (h : ∀ h', Fr h₀ L h' m → News h₀ L h' ((s.heap.objs.size + 1, { cls := .type "list", data := .seq (slicePick items lo hi none) }) :: news) → Q (.ref (s.heap.objs.size + 1)) { s with heap := h' })
    (hs : subscripted slice false (.ref l) (.ref s.heap.objs.size) = operate [.ref s.heap.objs.size, .ref l] (getItem (.ref l) (.ref s.heap.objs.size)) := by with_unfolding_all rfl)
    (hsz : items.size ≤ sizeLine := by size_fits) :
    wpAny (model prog w) A (subscriptTail value slice (.ref l) (.ref s.heap.objs.size)) Q E { s with heap := s.heap.push { cls := .type "slice", data := .fields #[vl, vu, .none] } } := by
  refine tail_any (Heap.IsList.typeIs (s := { s with heap := s.heap.push { cls := .type "slice", data := .fields #[vl, vu, .none] } }) (hl.push _)) list_getitem_lookup
    (wpAny_getItem_list_slice (hl.push _) (Heap.IsSliceOf.new ..) pl pu .none (by simp) ?_ hsz) hs
  have N1 := News.push (F.push { cls := .type "slice", data := .fields #[vl, vu, .none] }) (N.grown fun _ _ e => Heap.get?_push_of_some _ e) { cls := .type "list", data := .seq (slicePick items lo hi none) }
  rw [Heap.size_push] at N1
  show Q (.ref (s.heap.push _).objs.size) _
  rw [Heap.size_push]
  exact h _ ((F.push _).push _) N1
end
section
variable {prog : Program} {w : World} {A : Around} {E : Value → Shared → Prop} {s : Shared}
/-- an item of a tuple that no name holds -/
theorem item_tup_tmp {value slice : PySem.Expr} {l : Addr} {items : Array Value} {k : Nat} {u : Tok} {y : Value} {Q : Value → Shared → Prop}
    (hl : s.heap.get? l = some { cls := .type "tuple", data := .seq items }) (hk : k < 1000) (hy : items[k]? = some y) (h : Q y s)
    (hs : subscripted slice false (.ref l) (.int (k : Nat) u) = operate [.ref l, .int (k : Nat) u] (getItem (.ref l) (.int (k : Nat) u)) := by with_unfolding_all rfl) :
    wpAny (model prog w) A (subscriptTail value slice (.ref l) (.int (k : Nat) u)) Q E s := by
  have hlt : k < items.size := (Array.getElem?_eq_some_iff.mp hy).1
  refine tail_any ⟨_, hl, rfl⟩ PySem.F.slot_tuple_getitem.lookup ?_ hs
  refine getItem_meets ⟨_, hl, rfl⟩ (by decide) PySem.F.slot_tuple_getitem PySem.F.entry_tuple_getitem (PySem.F.args_tuple_getitem_2 _ _) (MeetsSeq.tuple_getitem_at l items 0 k u k y (by omega) (by omega) ?_ hy) ⟨hl, h⟩ -- omega) (by omega) (k := k) ?_ hy h
  unfold seqIndex?
  have h1 : ¬ ((k : Int) < 0) := by omega
  simp only [h1, if_false]
  rw [if_pos (by simp; omega)]
  simp
theorem rep_size (a : Array Nat) : ∀ (k : Nat) (b : Array Nat), ((List.replicate k a).foldl (· ++ ·) b).size = b.size + k * a.size
  | 0, b => by simp
  | k + 1, b => by
    rw [List.replicate_succ, List.foldl_cons, rep_size a k, Array.size_append, Nat.succ_mul]
    omega
theorem rep_len (x : Str) (k : Nat) : (rep x k).length = k * x.length := by
  show ((List.replicate k x.cps).foldl (· ++ ·) #[]).size = _
  rw [rep_size]; simp [Str.length]
theorem mul_K {x : Str} {t u : Tok} {k : Nat} {Q : Value → Shared → Prop} (hk : k < 1000) (hx : 0 < x.length) (hx2 : x.length < 1000) (h : ∀ t' tk, Q (.str (rep x k) t') { s with toks := tk }) :
    wpAny (model prog w) A (binaryOp .Mult (.str x t) (.int (k : Nat) u)) Q E s := by
  have hm : x.length * k ≤ 1000 * 1000 := Nat.mul_le_mul (by omega) (by omega)
  refine PySem.P.mul_str ?_ ?_ ?_ ?_
  · simp only [Bool.or_eq_false_iff, decide_eq_false_iff_not]; omega
  · intro h1 _ h2
    have h3 : (2 ^ 63 - 1 : Int) / (k : Int) ≥ 1000 := by
      refine (Int.le_ediv_iff_mul_le (by omega)).mpr ?_
      omega
    omega
  · intro _ _
    rw [Int.toNat_natCast]
    unfold Builtin.Str.tooLong
    simp only [decide_eq_false_iff_not]
    have : sizeLine = 16777216 := by decide
    omega
  · by_cases h1 : (k : Int) < 1
    · rw [if_pos h1]
      have : k = 0 := by omega
      subst this
      exact ⟨by decide, h _ _⟩
    · rw [if_neg h1]
      by_cases h2 : k = 1
      · subst h2
        rw [if_pos (by rfl)]
        have e : rep x 1 = x := by unfold rep; simp [List.replicate]
        have := h t s.toks
        rw [e] at this
        exact this
      · rw [if_neg (by simp; omega)]
        rw [Int.toNat_natCast]
        refine ⟨?_, h _ _⟩
        have := rep_len x k
        rw [Nat.mul_comm] at this
        show (rep x k).length ≤ sizeLine
        unfold sizeLine; omega
end
theorem mark_at (k : Nat) (t1 t2 t3 : Tok) : ∃ t, (#[Value.str "\n" t1, Value.str "\r" t2, Value.str "\r\n" t3] : Array Value)[k % 3]? = some (.str (markOf (k % 3)) t) := by
  have h : k % 3 = 0 ∨ k % 3 = 1 ∨ k % 3 = 2 := by omega
  rcases h with h | h | h <;> rw [h]
  · exact ⟨t1, rfl⟩
  · exact ⟨t2, rfl⟩
  · exact ⟨t3, rfl⟩
theorem mark_len (k : Nat) : 0 < (markOf k).length ∧ (markOf k).length ≤ 2 := by
  unfold markOf
  split
  · decide
  · split <;> decide
theorem app_len (x y : Str) : (x ++ y).length = x.length + y.length := Array.size_append
theorem chk_spec {x want : Str} (h : chk x want = true) : ∃ ps qs, x.cps.size ≤ 1000 ∧ subP code91 x.cps crlf 500 0 0 false = some ps ∧ ps ≠ [] ∧ (ps.map (·.length)).sum + ps.length ≤ 1048576 ∧ (joinP x ps).cps.size ≤ 1000 ∧
    subP code86 (joinP x ps).cps dots 500 0 0 false = some qs ∧ qs ≠ [] ∧ (qs.map (·.length)).sum + qs.length ≤ 1048576 ∧ (5 ≤ (joinP (joinP x ps) qs).cps.size ∧ (joinP (joinP x ps) qs).cps.size ≤ 1000) ∧ (Txt.slice (joinP (joinP x ps) qs) none (some 3) != "257") = false ∧
    (Txt.slice (joinP (joinP x ps) qs) (some 3) (some 5) != " \"") = false ∧ pLoop (joinP (joinP x ps) qs) 2000 5 "" = want := by
  unfold chk at h
  rw [Bool.and_eq_true] at h
  obtain ⟨h0, h⟩ := h
  cases h1 : subP code91 x.cps crlf 500 0 0 false with
  | none => rw [h1] at h; cases h
  | some ps =>
    rw [h1] at h
    dsimp only at h
    simp only [Bool.and_eq_true] at h
    obtain ⟨⟨⟨h2, h3⟩, h4⟩, h⟩ := h
    cases h5 : subP code86 (joinP x ps).cps dots 500 0 0 false with
    | none => rw [h5] at h; cases h
    | some qs =>
      rw [h5] at h
      dsimp only at h
      simp only [Bool.and_eq_true] at h
      obtain ⟨⟨⟨⟨⟨h6, h7⟩, h8⟩, h9⟩, h10⟩, h11⟩ := h
      refine ⟨ps, qs, of_decide_eq_true h0, rfl, ?_, of_decide_eq_true h3, of_decide_eq_true h4, h5, ?_, of_decide_eq_true h7, of_decide_eq_true h8, by simpa using h9, by simpa using h10, ?_⟩
      · rintro rfl; cases h2
      · rintro rfl; cases h6
      · exact eq_of_beq h11
theorem chk_at {v k : Nat} (hv : v < 24) : chk (replyOf v (k % 3)) (nameOf v) = true := by
  have h := chk_row v hv
  exact List.all_eq_true.mp h (k % 3) (List.mem_range.mpr (Nat.mod_lt _ (by decide)))
theorem name_at {v u : Nat} (hv : v < 24) (hu : u < 24) : slt (nameOf v) (nameOf u) = decide (v < u) := by
  have h := List.all_eq_true.mp name_lt v (List.mem_range.mpr hv)
  exact eq_of_beq (List.all_eq_true.mp h u (List.mem_range.mpr hu))
theorem rangeKs_nodup (n : Nat) : (rangeKs 0 n).Nodup := by
  unfold rangeKs
  exact List.Pairwise.map _ (fun a b h e => h (by omega)) List.nodup_range
theorem rangeKs_get {n i : Nat} (h : i < n) : (rangeKs 0 n)[i]? = some (i : Int) := by
  unfold rangeKs
  rw [List.getElem?_map, List.getElem?_range h]
  simp
theorem take_snoc {α β : Type} (l : List α) (d : α) (f : α → β) {i : Nat} (h : i < l.length) : (l.take (i + 1)).map f = (l.take i).map f ++ [f (l.getD i d)] := by
  rw [List.take_add_one, List.getElem?_eq_getElem h, List.map_append, List.getD_eq_getElem?_getD, List.getElem?_eq_getElem h]
  rfl
/-- texts, one for each number below i -/
def TextsTo (vs : List Value) (i : Nat) (f : Nat → Str) : Prop := vs.length = i ∧ ∀ j < i, ∃ t, vs[j]? = some (.str (f j) t)
theorem TextsTo.nil (f : Nat → Str) : TextsTo [] 0 f := ⟨rfl, fun j h => absurd h (Nat.not_lt_zero j)⟩
theorem TextsTo.snoc {vs : List Value} {i : Nat} {f : Nat → Str} {t : Tok} (h : TextsTo vs i f) : TextsTo (vs ++ [.str (f i) t]) (i + 1) f := by
  refine ⟨by rw [List.length_append, h.1]; rfl, fun j hj => ?_⟩
  by_cases e : j < i
  · obtain ⟨u, hu⟩ := h.2 j e
    exact ⟨u, by rw [List.getElem?_append_left (by rw [h.1]; exact e)]; exact hu⟩
  · have : j = i := by omega
    subst this
    exact ⟨t, by rw [List.getElem?_append_right (by rw [h.1]; exact Nat.le_refl _), h.1]; simp⟩
/-- the law's ledger while the names are made -/
structure NInv (L0 many vaA nmA I : Nat) (oc2 oc3 : Obj) (vv : List Value) (nv : Nat) (f : Nat → Str) (i : Nat) (m : Str → Option Value) (nw : List (Addr × Obj)) : Prop where
  many : ∃ t, m "many" = some (.int (many : Nat) t)
  c1 : ∃ o, (L0 + 1, o) ∈ nw ∧ o.data = .cell (some (.ref vaA))
  c2 : (L0 + 1 + 1, oc2) ∈ nw
  c3 : (L0 + 1 + 1 + 1, oc3) ∈ nw
  c4 : ∃ o, (L0 + 1 + 1 + 1 + 1, o) ∈ nw ∧ o.data = .cell (some (.ref nmA))
  va : (vaA, listOf vv.toArray nv) ∈ nw
  nm : ∃ vs n, (nmA, listOf vs.toArray n) ∈ nw ∧ TextsTo vs i f
  t1 : (100, tabObj #[]) ∈ nw
  t2 : (119, tabObj #[]) ∈ nw
  off : ∀ p ∈ nw, p.1 ≠ I
end

section
theorem sorted_eq {l r : List Int} (hl : l.Pairwise (· ≤ ·)) (hr : r.Pairwise (· ≤ ·)) (hp : l.Perm r) : l = r :=
  List.Perm.eq_of_pairwise (le := (· ≤ ·)) (fun a b _ _ h1 h2 => Int.le_antisymm h1 h2) hl hr hp
theorem rangeKs_sorted (n : Nat) : (rangeKs 0 n).Pairwise (· ≤ ·) := by
  unfold rangeKs
  rw [List.pairwise_map]
  exact List.pairwise_lt_range.imp (fun h => by omega)
/-- the range's numbers, looked up: the list itself -/
theorem range_get (vl : List Int) : (rangeKs 0 vl.length).map (fun o => vl.getD o.toNat 0) = vl := by
  apply List.ext_getElem?
  intro i
  rw [List.getElem?_map]
  by_cases h : i < vl.length
  · rw [rangeKs_get h]
    simp [List.getD_eq_getElem?_getD, List.getElem?_eq_getElem h]
  · rw [List.getElem?_eq_none (by rw [rangeKs_length]; omega), List.getElem?_eq_none (by omega)]
    rfl
theorem due_eq {vl rl dl : List Int} {n : Nat} (hn : vl.length = n) (h0 : ∀ x ∈ vl, 0 ≤ x) (hp : rl.Perm (rangeKs 0 n)) (hs : rl.Pairwise fun a b => (vl.getD a.toNat 0).toNat ≤ (vl.getD b.toNat 0).toNat) (hd : dl.Perm vl) (hds : dl.Pairwise (· ≤ ·)) :
    rl.map (fun o => vl.getD o.toNat 0) = dl := by
  subst hn
  have h1 : (rl.map (fun o => vl.getD o.toNat 0)).Perm vl := by
    have := hp.map (fun o => vl.getD o.toNat 0)
    rw [range_get] at this
    exact this
  refine sorted_eq ?_ hds (h1.trans hd.symm)
  rw [List.pairwise_map]
  refine hs.imp_of_mem fun {a b} ha hb hab => ?_
  have ha2 : 0 ≤ vl.getD a.toNat 0 := h0 _ (h1.subset (List.mem_map.mpr ⟨a, ha, rfl⟩))
  have hb2 : 0 ≤ vl.getD b.toNat 0 := h0 _ (h1.subset (List.mem_map.mpr ⟨b, hb, rfl⟩))
  omega
theorem name_ok : ((List.range 24).all fun v => PyData.strOk (nameOf v)) = true := by decide +kernel
theorem name_ok_at {v : Nat} (hv : v < 24) : PyData.strOk (nameOf v) = true := List.all_eq_true.mp name_ok v (List.mem_range.mpr hv)
theorem costT_22 : ∀ n < 11, costT n ≤ 22 := by decide
theorem cost_orders : ∀ n < 11, 6 ≤ n → 2 ^ costT n < 2 * factP n := by decide
theorem dat_ints {news : List (Addr × Obj)} {vs : List Value} {ns : List Int} (h : IntsAre vs ns) : DatAll news vs (ns.map Dat.int) := by
  induction h with
  | nil => exact .nil
  | cons n t _ ih => exact .cons (.int n t) ih
theorem dat_texts {news : List (Addr × Obj)} {vs : List Value} {ys : List Str} (h : StrsAre vs ys) : DatAll news vs (ys.map Dat.str) := by
  induction h with
  | nil => exact .nil
  | cons n t _ ih => exact .cons (.str n t) ih
section
variable {prog : Program} {w : World} {A : Around} {E : Value → Shared → Prop} {s : Shared} {h₀ : Heap} {L a b : Addr} {news : List (Addr × Obj)}
theorem ne_ints_same {vs us : List Value} {n k : Nat} {ns : List Int} {Q : Value → Shared → Prop} (N : News h₀ L s.heap news) (ha : (a, listOf vs.toArray n) ∈ news) (hv : IntsAre vs ns) (hb : (b, listOf us.toArray k) ∈ news) (hu : IntsAre us ns) (hun : A.units + 64 < cLine)
    (h : Q (.bool false) s) : wpAny (model prog w) A (compareOp .NotEq (.ref a) (.ref b)) Q E s := by
  refine kqd_ne (n₁ := news) (n₂ := news) (xs := vs) (ys := us) (ds := ns.map Dat.int) (es := ns.map Dat.int) N ha rfl rfl (dat_ints hv) (fun _ h => h) hb rfl rfl (dat_ints hu) (fun _ h => h) ?_ ?_ hun ?_
  · intro d hd; obtain ⟨p, _, rfl⟩ := List.mem_map.mp hd; rfl
  · intro d hd; obtain ⟨p, _, rfl⟩ := List.mem_map.mp hd; rfl
  · simpa using h
theorem ne_texts_same {vs us : List Value} {n k : Nat} {ys : List Str} {Q : Value → Shared → Prop} (N : News h₀ L s.heap news) (ha : (a, listOf vs.toArray n) ∈ news) (hv : StrsAre vs ys) (hb : (b, listOf us.toArray k) ∈ news) (hu : StrsAre us ys) (hun : A.units + 64 < cLine)
    (hl : ∀ y ∈ ys, kqdOk 8 (.str y) = true)
    (h : Q (.bool false) s) : wpAny (model prog w) A (compareOp .NotEq (.ref a) (.ref b)) Q E s := by
  refine kqd_ne (n₁ := news) (n₂ := news) (xs := vs) (ys := us) (ds := ys.map Dat.str) (es := ys.map Dat.str) N ha rfl rfl (dat_texts hv) (fun _ h => h) hb rfl rfl (dat_texts hu) (fun _ h => h) ?_ ?_ hun ?_
  · intro d hd; obtain ⟨p, hp, rfl⟩ := List.mem_map.mp hd; exact hl p hp
  · intro d hd; obtain ⟨p, hp, rfl⟩ := List.mem_map.mp hd; exact hl p hp
  · simpa using h
end
theorem PairsAt.get {news : List (Addr × Obj)} {as : List Addr} {ps : List (Int × Int)} (h : PairsAt news as ps) : ∀ q ∈ as.zip ps, ∃ t u n, (q.1, listOf #[.int q.2.1 t, .int q.2.2 u] n) ∈ news := by
  induction h with
  | nil => intro q hq; cases hq
  | cons hm _ ih =>
    intro q hq
    rcases List.mem_cons.mp hq with rfl | hq
    · exact ⟨_, _, _, hm⟩
    · exact ih q hq
open Classical in
noncomputable def isPair (as : List Addr) (ps : List (Int × Int)) (px : Int × Int) (v : Value) : Bool := decide (∃ q ∈ as.zip ps, v = .ref q.1 ∧ q.2 = px)
theorem isPair_at {h₀ hp : Heap} {L : Addr} {news : List (Addr × Obj)} {as : List Addr} {ps : List (Int × Int)} {px : Int × Int} (N : News h₀ L hp news) (h : PairsAt news as ps) : ∀ q ∈ as.zip ps, isPair as ps px (.ref q.1) = decide (q.2 = px) := by
  intro q hq
  unfold isPair
  rw [decide_eq_decide]
  constructor
  · rintro ⟨r, hr, e, e2⟩
    injection e with e
    obtain ⟨t, u, n, hm⟩ := h.get q hq
    obtain ⟨t', u', n', hm'⟩ := h.get r hr
    rw [← e] at hm'
    have e3 := news_fun N hm hm'
    injection e3 with _ _ e3 _
    injection e3 with e3 _
    injection e3 with e3
    injection e3 with e3 e4
    injection e4 with e4 _
    injection e3 with e3 _
    injection e4 with e4 _
    rw [← e2]
    exact Prod.ext e3 e4
  · intro e
    exact ⟨q, hq, rfl, e⟩
theorem count_pairs {h₀ hp : Heap} {L : Addr} {news : List (Addr × Obj)} {as : List Addr} {ps : List (Int × Int)} {px : Int × Int} (N : News h₀ L hp news) (h : PairsAt news as ps) (hn : ps.Nodup) (hx : px ∈ ps) : (as.map Value.ref).countP (isPair as ps px) = 1 := by
  have hl := h.length
  have h1 : as.map Value.ref = (as.zip ps).map fun q => Value.ref q.1 := by
    have : as = (as.zip ps).map (·.1) := (List.map_fst_zip (by omega)).symm
    conv => lhs; rw [this]
    rw [List.map_map]; rfl
  rw [h1, List.countP_map]
  have h2 : (as.zip ps).countP ((isPair as ps px) ∘ fun q => Value.ref q.1) = (as.zip ps).countP (fun q => decide (q.2 = px)) := by
    refine List.countP_congr fun q hq => ?_
    show isPair as ps px (.ref q.1) = true ↔ _
    rw [isPair_at N h q hq]
  rw [h2]
  have h3 : (as.zip ps).countP (fun q => decide (q.2 = px)) = ps.countP (fun p => decide (p = px)) := by
    have : ps = (as.zip ps).map (·.2) := (List.map_snd_zip (by omega)).symm
    conv => rhs; rw [this]
    rw [List.countP_map]; rfl
  rw [h3]
  have h4 : ps.count px = 1 := hn.count.trans (if_pos hx)
  rw [← h4]
  unfold List.count
  exact List.countP_congr fun p _ => by simp
section
variable {prog : Program} {w : World} {A : Around} {E : Value → Shared → Prop} {s : Shared} {h₀ : Heap} {L : Addr} {m : Str → Option Value} {env : Env} {ct elt : PySem.Expr} {x : Str} {scope : Scope} {cl : List (Str × Addr)} {S : List (Addr × Obj) → Prop} {P : Nat → Value → Prop} {Fin : List Value → List (Addr × Obj) → Prop} {n : Nat}
/-- a tested comprehension's turns -/
theorem compRestT_of (Inv : Nat → List Value → List (Addr × Obj) → Prop)
    (turn : ∀ i ys news v I oI C oC D m₂ h tk (E' : Value → Shared → Prop), i < n → Inv i ys news → P i v → LCg.NsObj oC m₂ → m₂ x = some v → Fr h₀ L h m → News h₀ L h ((I, oI) :: (C, oC) :: (D, LCg.lst ys) :: news) → LCg.Off3 I C D news → ((@Ne Nat I C) ∧ (@Ne Nat I D) ∧ (@Ne Nat C D)) →
      wpAny (model prog w) A (isTrue ct (compEnvC scope cl C env) (eval ct (compEnvC scope cl C env))) (fun ok s₂ => if ok = true then
          wpAny (model prog w) A (eval elt (compEnvC scope cl C env)) (fun y s₃ => Stop (∃ h' tk' news', s₃ = { s with heap := h', toks := tk' } ∧ Fr h₀ L h' m ∧ News h₀ L h' ((I, oI) :: (C, oC) :: (D, LCg.lst ys) :: news') ∧ (∀ p ∈ news', p.1 ≠ I ∧ p.1 ≠ C ∧ p.1 ≠ D) ∧ S news' ∧ Inv (i + 1) (ys ++ [y]) news')) E' s₂
        else Stop (∃ h' tk' news', s₂ = { s with heap := h', toks := tk' } ∧ Fr h₀ L h' m ∧ News h₀ L h' ((I, oI) :: (C, oC) :: (D, LCg.lst ys) :: news') ∧ (∀ p ∈ news', p.1 ≠ I ∧ p.1 ≠ C ∧ p.1 ≠ D) ∧ S news' ∧ Inv (i + 1) ys news')) E' { s with heap := h, toks := tk })
    (done : ∀ ys news, Inv n ys news → Fin ys news) :
    ∀ j i, i + j = n → ∀ ys news, Inv i ys news → LCt.CompRestT prog w A h₀ L m env ct elt x scope cl s S P Fin j i ys news := by
  intro j
  induction j with
  | zero =>
    intro i hi ys news hI
    have e : i = n := by omega
    subst e
    exact LCt.CompRestT.zero (done _ _ hI)
  | succ j ih =>
    intro i hi ys news hI
    refine LCt.CompRestT.succ fun v I oI C oC D m₂ h tk E' hP ho hx F N off hne => ?_
    refine wpAny_mono (turn i ys news v I oI C oC D m₂ h tk E' (by omega) hI hP ho hx F N off hne) (fun ok s₂ hh => ?_) fun _ _ x => x
    cases ok with
    | true =>
      rw [if_pos rfl] at hh ⊢
      refine wpAny_mono hh (fun y s₃ hh => ?_) fun _ _ x => x
      obtain ⟨⟨h', tk', news', rfl, F', N', off', hS, hI'⟩⟩ := hh
      exact ⟨h', tk', news', rfl, F', N', LCg.Off3.of off', hS, ih (i + 1) (by omega) _ _ hI'⟩
    | false =>
      rw [if_neg (by decide)] at hh ⊢
      obtain ⟨⟨h', tk', news', rfl, F', N', off', hS, hI'⟩⟩ := hh
      exact ⟨h', tk', news', rfl, F', N', LCg.Off3.of off', hS, ih (i + 1) (by omega) _ _ hI'⟩
end
section
variable {prog : Program} {w : World} {A : Around} {E : Value → Shared → Prop} {s : Shared} {h₀ : Heap} {L askA a : Addr} {news : List (Addr × Obj)}
theorem count_ok {as : List Addr} {ps : List (Int × Int)} {px : Int × Int} {nq : Nat} {Q : Value → Shared → Prop} (N : News h₀ L s.heap news) (hl : (askA, listOf (as.map Value.ref).toArray nq) ∈ news) (hp : PairsAt news as ps) (hx : (a, px) ∈ as.zip ps) (hn : ps.Nodup) (hu : A.in1.units + 64 < cLine)
    (h : Q (.int (1 : Int) s.toks) { s with toks := s.toks + 1 }) : wpAny (model prog w) A (call (.builtin "list.count") [.ref askA, .ref a]) Q E s := by
  have hq := (N _ hl).1
  refine call_meets PySem.F.slot_list_count ⟨_, hq, rfl⟩ PySem.F.entry_list_count (PySem.F.args_list_count_2 _ _) (SeqAt.list_countAt askA (as.map Value.ref).toArray nq none #[] (.ref a) (isPair as ps px)) ⟨hq, ?_, ?_⟩
  · intro y hy
    have hl2 := hp.length
    obtain ⟨b, hb, rfl⟩ : ∃ b ∈ as, Value.ref b = y := by simpa using hy
    obtain ⟨i, hi⟩ := List.getElem?_of_mem hb
    obtain ⟨hi1, hi2⟩ := List.getElem?_eq_some_iff.mp hi
    have hz : (b, ps[i]'(by omega)) ∈ as.zip ps := by
      have : (as.zip ps)[i]? = some (b, ps[i]'(by omega)) := by
        rw [List.getElem?_zip_eq_some]
        exact ⟨hi, List.getElem?_eq_getElem (by omega)⟩
      exact List.mem_of_getElem? this
    rw [isPair_at N hp _ hz]
    obtain ⟨t1, u1, n1, h1⟩ := hp.get _ hz
    obtain ⟨t2, u2, n2, h2⟩ := hp.get _ hx
    have := keq_ints (A := A) (s := s) (vs := [_, _]) (us := [_, _]) (News.isList N h1) (.cons _ _ (.cons _ _ .nil)) (News.isList N h2) (.cons _ _ (.cons _ _ .nil)) hu
    have e : decide ([(ps[i]'(by omega)).1, (ps[i]'(by omega)).2] = [px.1, px.2]) = decide (ps[i]'(by omega) = px) := by
      rw [decide_eq_decide]
      constructor
      · intro e
        injection e with e1 e2
        injection e2 with e2 _
        exact Prod.ext e1 e2
      · intro e; rw [e]
    rw [e] at this
    exact this
  · have hm : px ∈ ps := (List.of_mem_zip hx).2
    rw [List.toList_toArray, count_pairs N hp hn hm]
    exact h
end
end

section
section
variable {prog : Program} {w : World} {A : Around} {E : Value → Shared → Prop} {s : Shared} {env : Env} {h₀ : Heap} {x : Str} {px : Pos} {body : List Stmt} {Q : Flow → Shared → Prop}
/-- a for loop over a range whose name may be a cell -/
theorem iter_rangeTurns {r : Addr} {n : Nat} {t u v : Tok} {m₀ : Str → Option Value} {news : List (Addr × Obj)}
    (hh : A.handled = none) (F : Fr h₀ env.locals s.heap m₀) (N : News h₀ env.locals s.heap news) (hr : IsRange s.heap r 0 (n : Nat) 1 t u v) (hsm : Builtin.Range.small 0 (n : Nat) 1 = true)
    (rest₀ : ∀ I : Addr, (∀ p ∈ news, p.1 < I) → ItemsRest prog w A E h₀ env (.Name x px) body Q s [(I, "range_iterator")] [] ((List.range n).map fun i => Itm.tok (fun t => .int ((i : Nat) : Int) t)) m₀ news) :
    wpAny (model prog w) A (pyIter (.ref r)) (fun it s₂ => TurnsAt prog w A h₀ env (.Name x px) body Q E it s₂) E s := by
  refine wpAny_pyIter_range hr hsm ?_
  refine ktu_core (tk0 := s.toks) (keep := []) (KTurns.ofWalks (LCg.range_walks (I := s.heap.objs.size) hh 0 n).bound fun i v s Q E st q => wpAny_pure q) (by simp) (fun i v h hp => ?_) (fun i h st => ?_) (fun b hb => ?_) (fun b hb => by simpa using hb) (fun b hb => ?_) ?_ (fun p hp hI => ?_) ?_ (F.push _) (fun p hp => ⟨Heap.get?_push_of_some _ (N p hp).1, (N p hp).2⟩) trivial (rest₀ _ fun p hp => Heap.lt_size (N p hp).1)
  · obtain ⟨hi, t, rfl⟩ := hp
    refine ⟨Itm.tok (fun t => .int ((i : Nat) : Int) t), ?_, t, by rw [Int.zero_add]⟩
    rw [List.getElem?_map, List.getElem?_range hi]; rfl
  · exact ⟨[(s.heap.objs.size, _)], ⟨⟨rfl, rfl⟩, trivial⟩, fun p hp => by rw [List.mem_singleton.mp hp]; exact st⟩
  · have hb' : b = s.heap.objs.size := by simpa using hb
    rw [hb']
    exact ⟨List.mem_cons_self .., next_is_new F⟩
  · exact .inl (by simpa using hb)
  · intro hI
    exact absurd F.ns.lt ((List.mem_singleton.mp hI) ▸ Nat.lt_irrefl _)
  · exact absurd (Heap.lt_size (N p hp).1) ((List.mem_singleton.mp hI) ▸ Nat.lt_irrefl _)
  · show IsRangeIter _ _ _ _ _
    rw [rangeSize_nat]
    simpa using Heap.get?_push_size _ rfl
/-- such a loop's turns by an invariant -/
theorem rangeTurns_of {I : Addr} {n : Nat} (Inv : Nat → (Str → Option Value) → List (Addr × Obj) → Prop)
    (turn : ∀ i m news oI t h tk, i < n → Inv i m news → (∀ p ∈ news, p.1 ≠ I) → Fr h₀ env.locals h m → News h₀ env.locals h ((I, oI) :: news) →
      wpAny (model prog w) A (assign (.Name x px) env (.int ((i : Nat) : Int) t)) (fun _ s₂ => wpAny (model prog w) A (execs body env) (fun f s₃ => Stop (f = .next ∧ ∃ h' tk' m' news', s₃ = { s with heap := h', toks := tk' } ∧ Fr h₀ env.locals h' m' ∧ News h₀ env.locals h' ((I, oI) :: news') ∧ (∀ p ∈ news', p.1 ≠ I) ∧ Inv (i + 1) m' news')) E s₂) E { s with heap := h, toks := tk })
    (done : ∀ m news h tk, Inv n m news → Fr h₀ env.locals h m → News h₀ env.locals h news → Q .next { s with heap := h, toks := tk }) :
    ∀ j i, i + j = n → ∀ m news, Inv i m news → (∀ p ∈ news, p.1 ≠ I) → ItemsRest prog w A E h₀ env (.Name x px) body Q s [(I, "range_iterator")] [] ((List.range' i j).map fun i => Itm.tok (fun t => .int ((i : Nat) : Int) t)) m news := by
  intro j
  induction j with
  | zero =>
    intro i hi m news hI hoI
    have e : i = n := by omega
    subst e
    exact ItemsRest.zero fun h tk F N => done m news h tk hI F N
  | succ j ih =>
    intro i hi m news hI hoI
    rw [List.range'_succ, List.map_cons]
    refine ItemsRest.tok fun t h tk F => AllObj.cons fun oI hc => AllObj.nil fun N => ?_
    refine wpAny_mono (turn i m news oI t h tk (by omega) hI hoI F N) (fun _ s₂ hh => ?_) fun _ _ x => x
    refine wpAny_mono hh (fun f s₃ hh => ?_) fun _ _ x => x
    obtain ⟨⟨rfl, h', tk', m', news', rfl, F', N', off, hI'⟩⟩ := hh
    refine ⟨h', tk', m', news', rfl, F', N', fun p hp q hq => ?_, trivial, ih (i + 1) (by omega) m' news' hI' off⟩
    rw [List.mem_singleton.mp hq]; exact off p hp
end
section
variable {prog : Program} {w : World} {A : Around} {E : Value → Shared → Prop} {s : Shared}
theorem pow2_K {n : Nat} {t u : Tok} {Q : Value → Shared → Prop} (hn : n ≤ 22) (h : ∀ t' tk, Q (.int ((2 ^ n : Nat) : Int) t') { s with toks := tk }) :
    wpAny (model prog w) A (binaryOp .Pow (.int 2 t) (.int (n : Nat) u)) Q E s := by
  refine AutoIntOpsIf.pow ?_
  rw [if_pos (by omega)]
  by_cases h0 : n = 0
  · subst h0
    rw [if_pos (by rfl)]
    exact h _ _
  · rw [if_neg (by simp; omega), if_neg (by decide), if_neg (by decide)]
    have hb : Builtin.Int.intBits 2 = 2 := by decide
    rw [hb]
    have : ¬ Builtin.Int.intTooBig (((2 : Nat) : Int) * (n : Int)) = true := by
      unfold Builtin.Int.intTooBig
      have : bitsLine = 134217728 := by decide
      simp only [decide_eq_true_eq]
      omega
    rw [if_neg this]
    have e : (2 : Int) ^ ((n : Nat) : Int).toNat = ((2 ^ n : Nat) : Int) := by
      rw [Int.toNat_natCast]; push_cast; rfl
    rw [e]
    exact h _ _
end
section
variable {M : Model} {A : Around} {E : Value → Shared → Prop} {s : Shared} {h₀ : Heap} {L a c P : Addr} {m mg mb : Str → Option Value} {cn : Str} {cs : Scope} {cl : List (Str × Addr)} {news : List (Addr × Obj)}
  {p : Program} {loose : List Str} {mean : ExcName → Option Value} {params : Arguments} {body : PySem.Expr} {scope : Scope} {ps : Array Value} {pos : Pos} {clos : List (Str × Addr)}
/-- a code that stands in the ledger -/
def CodeAt (news : List (Addr × Obj)) (q : Str) (c' : Addr) : Prop := ∃ oc vs t, (c', oc) ∈ news ∧ oc.data = .fields vs ∧ vs[1]? = some (.str q t)
theorem CodeAt.keep {news news' : List (Addr × Obj)} {q : Str} {c' : Addr} (h : CodeAt news q c') (hs : ∀ p ∈ news, (∃ vs q t, p.2.data = .fields vs ∧ vs[1]? = some (.str q t)) → p ∈ news') : CodeAt news' q c' :=
  let ⟨oc, vs, t, h1, h2, h3⟩ := h
  ⟨oc, vs, t, hs _ h1 ⟨vs, _, _, h2, h3⟩, h2, h3⟩
/-- a lambda is made in a def that has others -/
theorem kla_gen {Q : Value → Shared → Prop} (F : Fr h₀ L s.heap m) (N : News h₀ L s.heap news) (T : Top p loose mean mg mb h₀) (C : CodeHd h₀ c P) (hP : (P, tabObj ps) ∈ news) (ht : TriplesOk ps.toList)
    (hT : codeAmong pos ps.toList = none ∨ ∃ c', codeAmong pos ps.toList = some (.ref c') ∧ CodeAt news ((envX cn cs L a (.ref c) cl).qual ++ "<lambda>") c')
    (hd : defaultsOf params (envX cn cs L a (.ref c) cl) = ([], [])) (hcl : closureFor scope (envX cn cs L a (.ref c) cl) = pure clos)
    (h : ∀ f c' ctv h' tk news' ps', Fr h₀ L h' m → News h₀ L h' news' → (∀ q ∈ news, q.1 ≠ P → q ∈ news') → (P, tabObj ps') ∈ news' →
      ((codeAmong pos ps.toList = none ∧ ps' = ps ++ #[rawInt pos.line, rawInt pos.col, .ref c'] ∧ ∀ q ∈ news, q.1 < c') ∨ (codeAmong pos ps.toList = some (.ref c') ∧ ps' = ps)) →
      (f, kla_obj "<lambda>" ((envX cn cs L a (.ref c) cl).qual ++ "<lambda>") params body scope clos ((mg "__name__").getD .none) c' ctv) ∈ news' → CodeAt news' ((envX cn cs L a (.ref c) cl).qual ++ "<lambda>") c' →
      (∀ q ∈ news, q.1 < f) → Q (.ref f) { s with heap := h', toks := tk }) :
    wpAny M A (eval (.Lambda params body scope pos) (envX cn cs L a (.ref c) cl)) Q E s := by
  refine kla_eval hd ?_
  rcases hT with hT | ⟨c', hT, oc, vs, t, hm, hoc, hv⟩
  · refine kla_nest F (news_split N hP) T C rfl (.head less_ne) ht hT hcl ?_
    intro f c' oc vs t ctv h' tk F' N' d1 d2 l1 l2
    have l3 : ∀ q ∈ news, q.1 < c' := fun q hq => by
      by_cases e : q.1 = P
      · have := l1 (P, tabObj ps) (.head _)
        rw [e]; exact this
      · exact l1 q (.tail _ (less_of hq e))
    exact h f c' ctv h' tk _ _ F' N' (fun q hq hn => .tail _ (.tail _ (.tail _ (less_of hq hn)))) (.tail _ (.tail _ (.head _))) (.inl ⟨hT, rfl, l3⟩) (.head _) ⟨oc, vs, t, .tail _ (.head _), d1, d2⟩ (fun q hq => Nat.lt_trans (l3 q hq) l2)
  · refine kla_hit (c' := c') F N T C rfl hP ht hT hcl ?_
    intro f ctv h' tk F' N' l1
    exact h f c' ctv h' tk _ ps F' N' (fun q hq _ => .tail _ hq) (.tail _ hP) (.inr ⟨hT, rfl⟩) (.head _) ⟨oc, vs, t, .tail _ hm, hoc, hv⟩ l1
end
end

section
theorem cut_count {l : List Int} {q : Int → Bool} {k : Nat} (hk : k ≤ l.length) (h1 : ∀ j, j < k → q (l.getD j 0) = true) (h2 : ∀ j, k ≤ j → j < l.length → q (l.getD j 0) = false) : l.countP q = k := by
  conv => lhs; rw [← List.take_append_drop k l]
  rw [List.countP_append]
  have e1 : (l.take k).countP q = k := by
    have : (l.take k).countP q = (l.take k).length := List.countP_eq_length.mpr fun a ha => by
      obtain ⟨j, hj, rfl⟩ := List.getElem_of_mem ha
      rw [List.length_take] at hj
      have := h1 j (by omega)
      rw [List.getD_eq_getElem?_getD, List.getElem?_eq_getElem (by omega)] at this
      rw [List.getElem_take]
      simpa using this
    rw [this, List.length_take]; omega
  have e2 : (l.drop k).countP q = 0 := List.countP_eq_zero.mpr fun a ha => by
    obtain ⟨j, hj, rfl⟩ := List.getElem_of_mem ha
    rw [List.length_drop] at hj
    have := h2 (k + j) (by omega) (by omega)
    rw [List.getD_eq_getElem?_getD, List.getElem?_eq_getElem (by omega)] at this
    rw [List.getElem_drop]
    simpa using this
  omega
/-- the place that the binary look finds, among numbers in order -/
theorem bis_count {rl dl : List Int} {f : Int → Int} {p q : Int → Bool} (hd : rl.map f = dl) (hs : dl.Pairwise (· ≤ ·)) (hpq : ∀ o ∈ rl, p o = !q (f o)) (hq : ∀ a b, a ≤ b → q b = true → q a = true) : (bisR p rl 0 rl.length).1 = dl.countP q := by
  have hlen : dl.length = rl.length := by rw [← hd, List.length_map]
  have hget : ∀ j, j < rl.length → dl.getD j 0 = f (rl.getD j 0) := fun j hj => by
    rw [← hd, List.getD_eq_getElem?_getD, List.getElem?_map, List.getElem?_eq_getElem hj, List.getD_eq_getElem?_getD, List.getElem?_eq_getElem hj]; rfl
  have hp : ∀ j, j < rl.length → p (rl.getD j 0) = !q (dl.getD j 0) := fun j hj => by
    rw [hget j hj]
    exact hpq _ (by rw [List.getD_eq_getElem?_getD, List.getElem?_eq_getElem hj]; exact List.getElem_mem _)
  have hsg := List.pairwise_iff_getElem.mp hs
  obtain ⟨c1, c2, c3, c4⟩ := bisR_cut p rl _ 0 rl.length rfl (Nat.zero_le _) (fun i j _ hij hj hpi => by
    rw [hp i (by omega)] at hpi
    rw [hp j hj]
    cases hqj : q (dl.getD j 0) with
    | false => rfl
    | true =>
      by_cases e : i = j
      · subst e; rw [hqj] at hpi; cases hpi
      · have h1 := hsg i j (by omega) (by omega) (by omega)
        rw [List.getD_eq_getElem?_getD, List.getElem?_eq_getElem (by omega)] at hpi hqj
        have := hq _ _ h1 (by simpa using hqj)
        simp at hpi
        rw [hpi] at this; cases this)
  refine (cut_count (by omega) (fun j hj => ?_) (fun j hj hl => ?_)).symm
  · have h1 := c3 j (Nat.zero_le _) hj
    rw [hp j (by omega)] at h1
    simpa using h1
  · have h1 := c4 j hj (by omega)
    rw [hp j (by omega)] at h1
    simpa using h1
def CodeP (P : Addr → Prop) (news : List (Addr × Obj)) (c : Addr) : Prop := CodeAt news "law.<locals>.<lambda>" c ∧ P c
/-- the law's table of codes: empty, the first lambda's, or both -/
def Tab2 (P : Addr → Prop) (news : List (Addr × Obj)) (k : Nat) (ps : Array Value) : Prop :=
  (k = 0 ∧ ps = #[]) ∨ (k = 1 ∧ ∃ c1, ps = #[rawInt 127, rawInt 50, .ref c1] ∧ CodeP P news c1) ∨
    (k = 2 ∧ ∃ c1 c2, ps = #[rawInt 127, rawInt 50, .ref c1, rawInt 128, rawInt 51, .ref c2] ∧ CodeP P news c1 ∧ CodeP P news c2)
theorem Tab2.imp {P P' : Addr → Prop} {news news' : List (Addr × Obj)} {k : Nat} {ps : Array Value} (h : Tab2 P news k ps) (hc : ∀ c, CodeP P news c → CodeP P' news' c) : Tab2 P' news' k ps := by
  rcases h with h | ⟨h, c1, e, h1⟩ | ⟨h, c1, c2, e, h1, h2⟩
  · exact .inl h
  · exact .inr (.inl ⟨h, c1, e, hc _ h1⟩)
  · exact .inr (.inr ⟨h, c1, c2, e, hc _ h1, hc _ h2⟩)
theorem Tab2.keep {P : Addr → Prop} {news news' : List (Addr × Obj)} {k : Nat} {ps : Array Value} (h : Tab2 P news k ps) (hs : ∀ p ∈ news, (∃ vs q t, p.2.data = .fields vs ∧ vs[1]? = some (.str q t)) → p ∈ news') : Tab2 P news' k ps :=
  h.imp fun c hc => ⟨hc.1.keep hs, hc.2⟩
/-- at a turn's start, the iterator is none of the codes -/
theorem Tab2.off {P : Addr → Prop} {news : List (Addr × Obj)} {k I : Nat} {ps : Array Value} (h : Tab2 P news k ps) (hoI : ∀ p ∈ news, p.1 ≠ I) : Tab2 (fun c => c ≠ I) news k ps :=
  h.imp fun c hc => ⟨hc.1, let ⟨oc, _, _, hm, _⟩ := hc.1; hoI _ hm⟩
/-- at its end, it is laid aside -/
theorem Tab2.less {news : List (Addr × Obj)} {k I : Nat} {ps : Array Value} (h : Tab2 (fun c => c ≠ I) news k ps) : Tab2 (fun _ => True) (less I news) k ps :=
  h.imp fun c hc => ⟨let ⟨oc, vs, t, hm, h1, h2⟩ := hc.1; ⟨oc, vs, t, less_of hm hc.2, h1, h2⟩, trivial⟩
theorem Tab2.triples {P : Addr → Prop} {news : List (Addr × Obj)} {k : Nat} {ps : Array Value} (h : Tab2 P news k ps) : TriplesOk ps.toList := by
  rcases h with ⟨_, rfl⟩ | ⟨_, c1, rfl, _⟩ | ⟨_, c1, c2, rfl, _, _⟩ <;> simp [TriplesOk, rawInt]
theorem Tab2.ne {P : Addr → Prop} {g hp : Heap} {L : Addr} {news : List (Addr × Obj)} {k : Nat} {ps : Array Value} (h : Tab2 P news k ps) (N : News g L hp news) (ht : (119, tabObj ps) ∈ news) {p : Addr × Obj} (hp : p ∈ news) (hf : ∃ vs q t, p.2.data = .fields vs ∧ vs[1]? = some (.str q t)) : p.1 ≠ 119 := by
  refine news_ne (a := p.1) (o := p.2) N hp ht fun e => ?_
  obtain ⟨vs, q, t, h1, h2⟩ := hf
  rw [e] at h1
  injection h1 with h1
  subst h1
  rcases h with ⟨_, rfl⟩ | ⟨_, c1, rfl, _⟩ | ⟨_, c1, c2, rfl, _, _⟩ <;> simp [rawInt] at h2
/-- the table behind the first lambda -/
theorem Tab2.first {P : Addr → Prop} {g hp : Heap} {L : Addr} {news news' : List (Addr × Obj)} {k : Nat} {ps ps' : Array Value} {c' : Addr} {pos : Pos} (hl : pos.line = 127) (hc : pos.col = 50) (h : Tab2 P news k ps) (hk : k = 0 ∨ k = 2) (N : News g L hp news) (ht : (119, tabObj ps) ∈ news) (hs : ∀ q ∈ news, q.1 ≠ 119 → q ∈ news')
    (hP : (∀ q ∈ news, q.1 < c') → P c')
    (hcase : (codeAmong pos ps.toList = none ∧ ps' = ps ++ #[rawInt pos.line, rawInt pos.col, .ref c'] ∧ ∀ q ∈ news, q.1 < c') ∨ (codeAmong pos ps.toList = some (.ref c') ∧ ps' = ps)) (hcode : CodeAt news' "law.<locals>.<lambda>" c') : (k = 0 ∧ Tab2 P news' 1 ps') ∨ (k = 2 ∧ Tab2 P news' 2 ps') := by
  have hk' := h.keep fun p hp hf => hs p hp (h.ne N ht hp hf)
  rcases h with ⟨h0, rfl⟩ | ⟨h1, _⟩ | ⟨h2, c1, c2, rfl, _, _⟩
  · rcases hcase with ⟨_, e, hlt⟩ | ⟨e, _⟩
    · refine .inl ⟨h0, .inr (.inl ⟨rfl, c', ?_, hcode, hP hlt⟩)⟩
      rw [e, hl, hc]; rfl
    · simp [codeAmong] at e
  · omega
  · refine .inr ⟨h2, ?_⟩
    rcases hcase with ⟨e, _⟩ | ⟨_, e⟩
    · simp [codeAmong, rawInt, hl, hc] at e
    · rw [e, ← h2]; exact hk'
theorem Tab2.second {P : Addr → Prop} {g hp : Heap} {L : Addr} {news news' : List (Addr × Obj)} {k : Nat} {ps ps' : Array Value} {c' : Addr} {pos : Pos} (hl : pos.line = 128) (hc : pos.col = 51) (h : Tab2 P news k ps) (hk : k = 1 ∨ k = 2) (N : News g L hp news) (ht : (119, tabObj ps) ∈ news) (hs : ∀ q ∈ news, q.1 ≠ 119 → q ∈ news')
    (hP : (∀ q ∈ news, q.1 < c') → P c')
    (hcase : (codeAmong pos ps.toList = none ∧ ps' = ps ++ #[rawInt pos.line, rawInt pos.col, .ref c'] ∧ ∀ q ∈ news, q.1 < c') ∨ (codeAmong pos ps.toList = some (.ref c') ∧ ps' = ps)) (hcode : CodeAt news' "law.<locals>.<lambda>" c') : Tab2 P news' 2 ps' := by
  have hk' := h.keep fun p hp hf => hs p hp (h.ne N ht hp hf)
  rcases h with ⟨h0, rfl⟩ | ⟨h1, c1, rfl, _⟩ | ⟨h2, c1, c2, rfl, _, _⟩
  · omega
  · rcases hcase with ⟨_, e, hlt⟩ | ⟨e, _⟩
    · rcases hk' with ⟨q, _⟩ | ⟨_, d1, e1, hd1⟩ | ⟨q, _⟩
      · omega
      · refine .inr (.inr ⟨rfl, d1, c', ?_, hd1, hcode, hP hlt⟩)
        rw [e, e1, hl, hc]; rfl
      · omega
    · simp [codeAmong, rawInt, hl, hc] at e
  · rcases hcase with ⟨e, _⟩ | ⟨_, e⟩
    · simp [codeAmong, rawInt, hl, hc] at e
    · rw [e, ← h2]; exact hk'
theorem countP_snoc (l : List Int) (q : Int → Bool) {j : Nat} (h : j < l.length) : (l.take (j + 1)).countP q = (l.take j).countP q + (if q (l.getD j 0) = true then 1 else 0) := by
  rw [List.take_add_one, List.getElem?_eq_getElem h, List.countP_append, List.getD_eq_getElem?_getD, List.getElem?_eq_getElem h]
  simp [List.countP_cons]
/-- the two looks' numbers -/
theorem less_count {vl rl dl : List Int} {n i : Nat} (hn : vl.length = n) (hv : ∀ x ∈ vl, 0 ≤ x ∧ x < 24) (hr : ∀ o ∈ rl, 0 ≤ o ∧ o < (n : Int)) (hd : rl.map (fun o => vl.getD o.toNat 0) = dl) (hs : dl.Pairwise (· ≤ ·)) (hi : i < n) :
    (bisR (fun o => !slt (nameOf (vl.getD o.toNat 0).toNat) (nameOf (vl.getD i 0).toNat)) rl 0 rl.length).1 = dl.countP (fun v => decide (v < vl.getD i 0)) := by
  have hm : ∀ j, j < n → 0 ≤ vl.getD j 0 ∧ vl.getD j 0 < 24 := fun j hj => hv _ (by rw [List.getD_eq_getElem?_getD, List.getElem?_eq_getElem (by omega)]; exact List.getElem_mem _)
  refine bis_count hd hs (fun o ho => ?_) (fun a b hab hb => ?_)
  · have h1 := hm i hi
    have h2 := hm o.toNat (by have := hr o ho; omega)
    rw [name_at (by omega) (by omega)]
    congr 1
    rw [decide_eq_decide]; omega
  · have := of_decide_eq_true hb
    exact decide_eq_true (by omega)
theorem upto_count {vl rl dl : List Int} {n i : Nat} (hn : vl.length = n) (hv : ∀ x ∈ vl, 0 ≤ x ∧ x < 24) (hr : ∀ o ∈ rl, 0 ≤ o ∧ o < (n : Int)) (hd : rl.map (fun o => vl.getD o.toNat 0) = dl) (hs : dl.Pairwise (· ≤ ·)) (hi : i < n) :
    (bisR (fun o => slt (nameOf (vl.getD i 0).toNat) (nameOf (vl.getD o.toNat 0).toNat)) rl 0 rl.length).1 = dl.countP (fun v => decide (v ≤ vl.getD i 0)) := by
  have hm : ∀ j, j < n → 0 ≤ vl.getD j 0 ∧ vl.getD j 0 < 24 := fun j hj => hv _ (by rw [List.getD_eq_getElem?_getD, List.getElem?_eq_getElem (by omega)]; exact List.getElem_mem _)
  refine bis_count hd hs (fun o ho => ?_) (fun a b hab hb => ?_)
  · have h1 := hm i hi
    have h2 := hm o.toNat (by have := hr o ho; omega)
    rw [name_at (by omega) (by omega), ← decide_not, decide_eq_decide]; omega
  · have := of_decide_eq_true hb
    exact decide_eq_true (by omega)
/-- what stands in the ledger all through the law's last loop -/
structure LB (L0 vaA nmA orA duA : Nat) (ov2 oo on2 : Obj) (vv nv ol dvv : List Value) (n1 n2 n3 n4 : Nat) (nw : List (Addr × Obj)) : Prop where
  c1 : (L0 + 1, ov2) ∈ nw
  c3 : (L0 + 1 + 1 + 1, oo) ∈ nw
  c4 : (L0 + 1 + 1 + 1 + 1, on2) ∈ nw
  va : (vaA, listOf vv.toArray n1) ∈ nw
  nm : (nmA, listOf nv.toArray n2) ∈ nw
  od : (orA, listOf ol.toArray n3) ∈ nw
  du : (duA, listOf dvv.toArray n4) ∈ nw
  t1 : ∃ ps, (100, tabObj ps) ∈ nw
theorem LB.sub {L0 vaA nmA orA duA : Nat} {ov2 oo on2 : Obj} {vv nv ol dvv : List Value} {n1 n2 n3 n4 : Nat} {nw nw' : List (Addr × Obj)} (h : LB L0 vaA nmA orA duA ov2 oo on2 vv nv ol dvv n1 n2 n3 n4 nw) (hs : ∀ q ∈ nw, q ∈ nw') : LB L0 vaA nmA orA duA ov2 oo on2 vv nv ol dvv n1 n2 n3 n4 nw' :=
  ⟨hs _ h.c1, hs _ h.c3, hs _ h.c4, hs _ h.va, hs _ h.nm, hs _ h.od, hs _ h.du, let ⟨ps, e⟩ := h.t1; ⟨ps, hs _ e⟩⟩
theorem LB.keep {L0 vaA nmA orA duA : Nat} {ov2 oo on2 : Obj} {vv nv ol dvv : List Value} {n1 n2 n3 n4 : Nat} {nw nw' : List (Addr × Obj)} {g hp : Heap} {L : Addr} {ps : Array Value} (h : LB L0 vaA nmA orA duA ov2 oo on2 vv nv ol dvv n1 n2 n3 n4 nw) (N : News g L hp nw) (hL : 119 < L0)
    (t2 : (119, tabObj ps) ∈ nw) (hs : ∀ q ∈ nw, q.1 ≠ 119 → q ∈ nw') : LB L0 vaA nmA orA duA ov2 oo on2 vv nv ol dvv n1 n2 n3 n4 nw' := by
  have hl : ∀ {x : Nat} {vs : List Value} {n : Nat}, (x, listOf vs.toArray n) ∈ nw → x ≠ 119 := fun hm => news_ne N hm t2 (fun e => by cases e)
  refine ⟨hs _ h.c1 ?_, hs _ h.c3 ?_, hs _ h.c4 ?_, hs _ h.va (hl h.va), hs _ h.nm (hl h.nm), hs _ h.od (hl h.od), hs _ h.du (hl h.du), ?_⟩
  · show (L0 + 1 : Nat) ≠ 119; omega
  · show (L0 + 1 + 1 + 1 : Nat) ≠ 119; omega
  · show (L0 + 1 + 1 + 1 + 1 : Nat) ≠ 119; omega
  · obtain ⟨ps, e⟩ := h.t1
    exact ⟨ps, hs _ e (show (100 : Nat) ≠ 119 by decide)⟩
theorem LB.store {L0 vaA nmA orA duA : Nat} {ov2 oo oo' on2 : Obj} {vv nv ol dvv : List Value} {n1 n2 n3 n4 : Nat} {nw nw' : List (Addr × Obj)} {g hp : Heap} {L : Addr} {v : Option Value} (h : LB L0 vaA nmA orA duA ov2 oo on2 vv nv ol dvv n1 n2 n3 n4 nw) (N : News g L hp nw) (hoo : oo.data = .cell v)
    (hc : (L0 + 1 + 1 + 1, oo') ∈ nw') (hs : ∀ q ∈ nw, q.1 ≠ L0 + 1 + 1 + 1 → q ∈ nw') : LB L0 vaA nmA orA duA ov2 oo' on2 vv nv ol dvv n1 n2 n3 n4 nw' := by
  have hl : ∀ {x : Nat} {o : Obj}, (x, o) ∈ nw → (∀ v, o.data ≠ .cell v) → x ≠ L0 + 1 + 1 + 1 := fun hm hd => news_ne N hm h.c3 (fun e => hd v (by rw [e]; exact hoo))
  refine ⟨hs _ h.c1 ?_, hc, hs _ h.c4 ?_, hs _ h.va (hl h.va fun v e => by cases e), hs _ h.nm (hl h.nm fun v e => by cases e), hs _ h.od (hl h.od fun v e => by cases e), hs _ h.du (hl h.du fun v e => by cases e), ?_⟩
  · show (L0 + 1 : Nat) ≠ L0 + 1 + 1 + 1; omega
  · show (L0 + 1 + 1 + 1 + 1 : Nat) ≠ L0 + 1 + 1 + 1; omega
  · obtain ⟨ps, e⟩ := h.t1
    exact ⟨ps, hs _ e (hl e fun v e => by cases e)⟩
theorem LB.less {L0 vaA nmA orA duA I : Nat} {ov2 oo oo0 on2 : Obj} {vv nv ol dvv : List Value} {n1 n2 n3 n4 : Nat} {nw nw0 : List (Addr × Obj)} (h : LB L0 vaA nmA orA duA ov2 oo on2 vv nv ol dvv n1 n2 n3 n4 nw) (h0 : LB L0 vaA nmA orA duA ov2 oo0 on2 vv nv ol dvv n1 n2 n3 n4 nw0) (hoI : ∀ p ∈ nw0, p.1 ≠ I) : LB L0 vaA nmA orA duA ov2 oo on2 vv nv ol dvv n1 n2 n3 n4 (less I nw) :=
  ⟨less_of h.c1 (hoI _ h0.c1), less_of h.c3 (show (L0 + 1 + 1 + 1 : Nat) ≠ I from hoI _ h0.c3), less_of h.c4 (hoI _ h0.c4), less_of h.va (hoI _ h0.va), less_of h.nm (hoI _ h0.nm), less_of h.od (hoI _ h0.od), less_of h.du (hoI _ h0.du), let ⟨ps, e⟩ := h.t1; let ⟨ps0, e0⟩ := h0.t1; ⟨ps, less_of e (show (100 : Nat) ≠ I from hoI _ e0)⟩⟩
/-- the law's last loop, before a turn -/
def LInv (L0 vaA nmA orA duA : Nat) (ov2 on2 : Obj) (vv nv ol dvv : List Value) (n1 n2 n3 n4 : Nat) (i : Nat) (m : Str → Option Value) (nw : List (Addr × Obj)) : Prop :=
  m "order" = some (.ref orA) ∧ m "due" = some (.ref duA) ∧ (∃ oo v, oo.data = .cell v ∧ LB L0 vaA nmA orA duA ov2 oo on2 vv nv ol dvv n1 n2 n3 n4 nw) ∧ ∃ k ps, (119, tabObj ps) ∈ nw ∧ (k = 0 ∨ k = 2) ∧ Tab2 (fun _ => True) nw k ps
end

section
local macro_rules | `(tactic| walk_at "eval Name") => `(tactic| (k_here; k_dflt (refine' nameX_L ?F ?v ?_ ?a ?b; (case F => k_asm); (case a => rfl); (case b => rfl); (case v => walk_at "my_val"); k_whole)))
local macro_rules | `(tactic| walk_at "call ref") => `(tactic| refine Stop.go ?_)
local macro_rules | `(tactic| walk_at "call ref") => `(tactic| refine Stop.go ?_)
local macro_rules | `(tactic| walk_at "pyIter ref") => `(tactic| refine Stop.go ?_)
local macro_rules | `(tactic| walk_at "exec Assign cons ListComp") => `(tactic| ((fail_if_success (have hq : Stop True := by assumption)); refine Stop.go ?_))
local macro_rules | `(tactic| walk_at "eval Name") => `(tactic| ((with_reducible show wpAny _ _ (eval (PySem.Expr.Name _ _) (compEnvC _ _ _ _)) _ _ _); (fail_if_success (have hq : Stop True := by assumption)); refine Stop.go ?_))
local macro_rules | `(tactic| walk_at "exec Assign") => `(tactic| ((with_reducible show wpAny _ _ (exec (PySem.Stmt.Assign _ (PySem.Expr.BinOp _ _ _ _) _) _) _ _ _); (fail_if_success (fail_if_success (have hq : Stop True := by assumption))); refine Stop.go ?_))
local macro_rules | `(tactic| walk_at "exec Assign") => `(tactic| ((with_reducible show wpAny _ _ (exec (PySem.Stmt.Assign _ (PySem.Expr.List _ _) _) _) _ _ _); (fail_if_success (fail_if_success (have hq : Stop True := by assumption))); refine Stop.go ?_))
local macro_rules | `(tactic| walk_at "binaryOp ref ref") => `(tactic| refine Stop.go ?_)
local macro_rules | `(tactic| walk_at "subscriptTail") => `(tactic| ((with_reducible show wpAny _ _ (subscriptTail (PySem.Expr.BinOp _ _ _ _) (PySem.Expr.Slice _ _ _ _) _ _) _ _ _); refine Stop.go ?_))
local macro_rules | `(tactic| walk_at "subscriptTail") => `(tactic| ((with_reducible show wpAny _ _ (subscriptTail (PySem.Expr.Tuple _ _ _) _ _ _) _ _ _); refine Stop.go ?_))
local macro_rules | `(tactic| walk_at "my_mem") => `(tactic| first | assumption | exact List.Mem.tail _ (by assumption) | exact List.Mem.tail _ (List.Mem.tail _ (by assumption)) | exact List.Mem.tail _ (List.Mem.tail _ (List.Mem.tail _ (by assumption))) | exact List.Mem.tail _ (List.Mem.tail _ (List.Mem.tail _ (List.Mem.tail _ (by assumption)))))
local macro_rules | `(tactic| walk_at "eval Name") => `(tactic| (k_here; k_dflt (refine' nameX_C ?kN ?kc ?km ?kd ?_ ?k1 ?k2 ?k3; (case k1 => rfl); (case k2 => rfl); (case k3 => decide); (case kc => rfl); (case kN => k_asm); (case km => walk_at "my_mem"); (case kd => assumption); k_whole)))
local macro_rules | `(tactic| walk_at "subscriptTail Name Name ref int") => `(tactic| refine Stop.go ?_)
local macro_rules | `(tactic| walk_at "subscriptTail") => `(tactic| ((with_reducible show wpAny _ _ (subscriptTail (PySem.Expr.Name _ _) (PySem.Expr.Name _ _) _ _) _ _ _); refine Stop.go ?_))
local macro_rules | `(tactic| walk_at "call type:range") => `(tactic| ((fail_if_success (fail_if_success (have hq : Stop False := by assumption))); refine Stop.go ?_))
local macro_rules | `(tactic| walk_at "call type:list") => `(tactic| refine Stop.go ?_)
local macro_rules | `(tactic| walk_at "call builtin:sorted") => `(tactic| refine Stop.go ?_)
local macro_rules | `(tactic| walk_at "compareOp NotEq ref ref") => `(tactic| refine Stop.go ?_)
local macro_rules | `(tactic| walk_at "getMethod ref") => `(tactic| ((with_reducible show wpAny _ _ (getMethod (Value.ref _) (PySem.Str.ofString "count") _) _ _ _); refine Stop.go ?_))
local macro_rules | `(tactic| walk_at "call builtin:list.count") => `(tactic| refine Stop.go ?_)
local macro_rules | `(tactic| walk_at "call builtin:len") => `(tactic| refine Stop.go ?_)
local macro_rules | `(tactic| walk_at "binaryOp Pow int int") => `(tactic| refine Stop.go ?_)
local macro_rules | `(tactic| walk_at "binaryOp Mult int int") => `(tactic| refine Stop.go ?_)
local macro_rules | `(tactic| walk_at "exec For") => `(tactic| ((fail_if_success (fail_if_success (have hq : Stop (1 = 1) := by assumption))); refine Stop.go ?_))
local macro_rules | `(tactic| walk_at "eval Name") => `(tactic| (k_here; k_dflt (refine' nameX_F ?kN ?kc ?km ?kd ?_ ?k1 ?k2 ?k3 ?k4; (case k1 => rfl); (case k2 => rfl); (case k3 => decide); (case k4 => decide); (case kc => rfl); (case kN => k_asm); (case km => walk_at "my_mem"); (case kd => assumption); k_whole)))
local macro_rules | `(tactic| walk_at "binaryOp Mult str int") => `(tactic| refine Stop.go ?_)
local macro_rules | `(tactic| walk_at "binaryOp Add str str") => `(tactic| refine Stop.go ?_)
local macro_rules | `(tactic| walk_at "call builtin:list.append") => `(tactic| refine Stop.go ?_)
local macro_rules | `(tactic| walk_at "call builtin:sum") => `(tactic| refine Stop.go ?_)
local macro_rules | `(tactic| walk_at "eval ListComp") => `(tactic| ((fail_if_success (have hq : Stop True := by assumption)); refine Stop.go ?_))
local macro_rules | `(tactic| walk_at "Stop") => `(tactic| fail)



theorem law_all : PySem.Challenge.rw_sr0012_01.Holds := hd (by
  k_go0
  rename_i w s₀ s₁ mg mb G Y fa o pm doc ho hg X V T B TE TW hcd ns hs hlay0 hL hr hl2 la lb scA vs lc hLs ra w1 r0 hI hrd hc63 hTr hD h₁ tk₁ oc4 oc3 oc2 oc1 d4 d3 d2 d1 X0 XG TG KG F C105 N l0
  refine wpAny_mono (Q := fun f s' => Stop (f = .ret (.bool true) ∧ ∃ h' tk' ps qs m' news', s' = ⟨h', s₁.gens, s₁.drawn, tk', s₁.os⟩ ∧ Fr (ghostOf s₁.heap [(104, 100), (121, 119)]) s₁.heap.objs.size h' m' ∧ News (ghostOf s₁.heap [(104, 100), (121, 119)]) s₁.heap.objs.size h' news' ∧ (100, tabObj ps) ∈ news' ∧ (119, tabObj qs) ∈ news')) ?_ ?_ (fun _ _ x => x)
  · clear Y G hT8 X V B TE TW hcd hD ho hg T hs hlay0 hL hr hl2 hT9 ra w1 r0 hrd hLs
    generalize hg0 : ghostOf s₁.heap [(104, 100), (121, 119)] = g0 at *
    generalize hL0 : s₁.heap.objs.size = L0 at *
    obtain ⟨mE, FE, e1⟩ : ∃ m', Fr g0 L0 h₁ m' ∧ m' "script" = some (.ref scA) := ⟨_, F, rfl⟩
    clear F
    replace d4 : oc4.data = .cell none := d4
    replace d3 : oc3.data = .cell none := d3
    replace d2 : oc2.data = .cell none := d2
    replace d1 : oc1.data = .cell none := d1
    clear X0 lc la lb hTr
    dsimp only
    (try k_fold)
    obtain ⟨nw0, hnw0⟩ : ∃ l, l = [(L0 + 1 + 1 + 1 + 1, oc4), (L0 + 1 + 1 + 1, oc3), (L0 + 1 + 1, oc2), (L0 + 1, oc1), (100, tabObj #[]), (119, tabObj #[])] := ⟨_, rfl⟩
    rw [← hnw0] at N
    have b4 : (L0 + 1 + 1 + 1 + 1, oc4) ∈ nw0 := by rw [hnw0]; exact .head _
    have b3 : (L0 + 1 + 1 + 1, oc3) ∈ nw0 := by rw [hnw0]; exact .tail _ (.head _)
    have b2 : (L0 + 1 + 1, oc2) ∈ nw0 := by rw [hnw0]; exact .tail _ (.tail _ (.head _))
    have b1 : (L0 + 1, oc1) ∈ nw0 := by rw [hnw0]; exact .tail _ (.tail _ (.tail _ (.head _)))
    have bT : (100, tabObj #[]) ∈ nw0 := by rw [hnw0]; exact .tail _ (.tail _ (.tail _ (.tail _ (.head _))))
    have bU : (119, tabObj #[]) ∈ nw0 := by rw [hnw0]; exact .tail _ (.tail _ (.tail _ (.tail _ (.tail _ (.head _)))))
    clear hnw0
    have hlen63 : vs.length ≤ 63 := by have := hI.length; omega
    have hgo : Stop True := ⟨trivial⟩
    walk_at "my_steps"
    clear hgo
    refine Stop.mk ?_
    rename IntsAre _ (List.map _ _) => hY
    rename Fr _ _ _ _ => F3
    rename News _ _ _ _ => N3
    rename (_ ≠ _ ∧ LCg.Off1 _ nw0) => off3
    obtain ⟨drA, m3, F3, e2, N3⟩ : ∃ drA m', Fr g0 L0 _ m' ∧ m' "draws" = some (.ref drA) ∧ News g0 L0 _ ((drA, LCg.lst _) :: nw0) := ⟨_, _, F3, rfl, news_sub N3 (fun p hp => by
      rcases List.mem_cons.mp hp with rfl | hp
      · exact .head _
      · exact .tail _ (.tail _ hp))⟩
    have hdl : (List.map (fun k' => Int.fmod k' 1000) (List.take 10 ns)).length ≤ 10 := by simp; omega
    generalize hdr : List.map (fun k' => Int.fmod k' 1000) (List.take 10 ns) = dr at *
    walk_at "my_steps"
    refine Stop.mk ?_
    rename Fr _ _ _ _ => F4
    rename News _ _ _ _ => N4
    refine LSm.sum_ints F4 N4 (by rfl) (News.isList N4 (.head _)) hY ?_
    intro h5 tk5 t5 F5 N5
    walk_at "my_steps"
    refine Stop.mk ?_
    rename Fr _ _ _ _ => F6
    rename News _ _ _ _ => N6
    obtain ⟨many, hmany, hm6, hm10⟩ : ∃ n : Nat, 6 + Int.fmod dr.sum 5 = (n : Int) ∧ 6 ≤ n ∧ n ≤ 10 := by
      have h1 := Int.fmod_eq_emod_of_nonneg dr.sum (b := 5) (by decide)
      have h2 := Int.emod_nonneg dr.sum (b := 5) (by decide)
      have h3 := Int.emod_lt_of_pos dr.sum (b := 5) (by decide)
      exact ⟨(6 + Int.fmod dr.sum 5).toNat, by omega, by omega, by omega⟩
    rw [hmany] at F6
    obtain ⟨m6, tmany, F6, e3, e4⟩ : ∃ m' t, Fr g0 L0 _ m' ∧ m' "draws" = some (.ref drA) ∧ m' "many" = some (.int (many : Nat) t) := ⟨_, _, F6, e2, rfl⟩
    clear hmany
    have hgo : Stop True := ⟨trivial⟩
    walk1
    clear hgo
    refine LCg.ListComp_U (F₀ := F6) (by with_unfolding_all rfl) (by decide) (by rfl) (by decide) (by rfl) ?_
    walk1
    walk1
    walk1
    refine List_ ?_
    refine spliced_lits _ _ _ _ (by rfl) (fun lv tk7 hlv => ?_)
    have hlv2 : IntsAre lv [17, 4, 22, 9, 13, 0, 20, 6, 11, 2] := hlv.ints (by rfl)
    clear hlv
    have hlvl : lv.length = 10 := hlv2.length
    have hyl : ys.length ≤ 10 := by rw [hY.length]; exact hdl
    refine newList_K F6 N6 (fun lA h7 F7 N7 hl7 => ?_) (sz_of (by omega))
    refine add_lists F7 N7 (vs := ys) (ws := lv) (News.isList N7 (.tail _ (.head _))) (News.isList N7 (.head _)) ?_ (sz_of (by omega))
    intro h8 F8 N8
    walk_at "my_steps"
    refine Stop.mk ?_
    rename Fr _ _ _ _ => F9
    rename News _ _ _ _ => N9
    refine slice_tmp F9 N9 (News.isList N9 (.head _)) .none (.int _ _) ?_ (hsz := sz_of (by simp; omega))
    intro h10 F10 N10
    rw [show slicePick (ys ++ lv).toArray none (some (many : Int)) none = ((ys ++ lv).take many).toArray from slicePick_upto' (ys ++ lv).toArray many] at N10
    have hI10 : IntsAre ((ys ++ lv).take many) ((dr ++ [17, 4, 22, 9, 13, 0, 20, 6, 11, 2]).take many) := (Mine.IntsAre.app hY hlv2).take many
    have hl10 : ((dr ++ [17, 4, 22, 9, 13, 0, 20, 6, 11, 2]).take many).length = many := by simp; omega
    have hl10v : ((ys ++ lv).take many).length = many := by rw [hI10.length, hl10]
    generalize (dr ++ [17, 4, 22, 9, 13, 0, 20, 6, 11, 2]).take many = dv at hI10 hl10
    refine LCg.CompSrc.ledger (by rfl) F10 N10 (.head _) (sz_of (by simp; omega)) (fun g => ?_)
    refine compRest_of (fun i ys nw' => (∀ q ∈ nw0, q ∈ nw') ∧ LCg.SrcAt g0 (_ : Addr) _ nw' ∧ IntsAre ys ((dv.take i).map fun x => Int.fmod x 24)) ?_ ?_ _ 0 (Nat.zero_add _) [] _ ⟨fun q hq => .tail _ (.tail _ (.tail _ (.tail _ hq))), .inr ⟨_, .head _, rfl, _, rfl⟩, .nil⟩
    · rintro i ys nw7 v I7 oI C7 oC7 D7 m7 h12 tk12 E' hi ⟨j1, j3, j4⟩ hP ho hx F12 N12 off hne
      obtain ⟨to, rfl⟩ := hI10.int_at i v (by simpa using hP)
      have SN := Stop.mk N12
      walk_at "my_steps"
      refine Stop.mk ?_
      refine LCgL.ld_own SN.go (.tail _ (.head _)) ho hx ?_
      walk_at "my_steps"
      refine Stop.mk ?_
      rename Fr _ _ _ _ => F14
      rename News _ _ _ _ => N14
      refine ⟨_, _, nw7, rfl, F14, N14, off.mem, j3, j1, j3, ?_⟩
      rw [take_snoc dv 0 _ (by rw [hl10, ← hl10v]; simpa using hi)]
      exact Mine.IntsAre.app j4 (.cons _ _ .nil)
    · rintro vv nw7 ⟨j1, j3, j4⟩
      intro vaA h12 tk12 F12 N12 off
      rw [List.size_toArray, hl10v, ← hl10, List.take_length] at j4
      have hvl0 : (dv.map fun x => Int.fmod x 24).length = many := by rw [List.length_map, hl10]
      have hvr0 : ∀ x ∈ dv.map (fun x => Int.fmod x 24), 0 ≤ x ∧ x < 24 := fun x hx => by
        obtain ⟨y, _, rfl⟩ := List.mem_map.mp hx
        have h1 := Int.fmod_eq_emod_of_nonneg y (b := 24) (by decide)
        have h2 := Int.emod_nonneg y (b := 24) (by decide)
        have h3 := Int.emod_lt_of_pos y (b := 24) (by decide)
        show 0 ≤ y.fmod 24 ∧ y.fmod 24 < 24
        omega
      generalize dv.map (fun x => Int.fmod x 24) = vl at j4 hvl0 hvr0
      have hof := off1_mem off
      refine storeX_CM F12 N12 (by rfl) (.tail _ (j1 _ b1)) d1 ?_ (by rfl) (by rfl)
      intro h13 nw13 oV F13 N13 hcV hcdV hkV
      have a1 : (vaA, LCg.lst vv) ∈ nw13 := hkV _ (.head _) (Ne.symm (hof _ (j1 _ b1)))
      have a2 : (L0 + 1 + 1, oc2) ∈ nw13 := hkV _ (.tail _ (j1 _ b2)) (neN (a := L0 + 1 + 1) (b := L0 + 1) (by omega))
      have a3 : (L0 + 1 + 1 + 1, oc3) ∈ nw13 := hkV _ (.tail _ (j1 _ b3)) (neN (a := L0 + 1 + 1 + 1) (b := L0 + 1) (by omega))
      have a4 : (L0 + 1 + 1 + 1 + 1, oc4) ∈ nw13 := hkV _ (.tail _ (j1 _ b4)) (neN (a := L0 + 1 + 1 + 1 + 1) (b := L0 + 1) (by omega))
      have aT : (100, tabObj #[]) ∈ nw13 := hkV _ (.tail _ (j1 _ bT)) (neN (a := 100) (b := L0 + 1) (by have := ltN l0.1; omega))
      have aU : (119, tabObj #[]) ∈ nw13 := hkV _ (.tail _ (j1 _ bU)) (neN (a := 119) (b := L0 + 1) (by have := ltN l0.2; omega))
      walk_at "my_steps"
      rename Fr _ _ _ _ => F15
      rename News _ _ _ _ => N15
      rename ∀ (p : Addr × Obj), p ∈ nw13 → p.fst < _ => hl15
      rename_i nmA hF15
      refine storeX_CM F15 N15 (by rfl) (.tail _ a4) d4 ?_ (by rfl) (by rfl)
      intro h16 nw16 oN F16 N16 hcN hcdN hkN
      have hvn : vaA ≠ nmA := Nat.ne_of_lt (hl15 _ a1)
      have g1 : (nmA, listOf #[] 0) ∈ nw16 := hkN _ (.head _) (Ne.symm (Nat.ne_of_lt (hl15 _ a4)))
      have gk : ∀ q ∈ nw13, q.1 ≠ L0 + 1 + 1 + 1 + 1 → q ∈ nw16 := fun q hq h => hkN _ (.tail _ hq) h
      walk_at "my_steps"
      refine Stop.mk ?_
      rename IsRange _ _ _ _ _ _ _ _ => hR
      rename Fr _ _ _ _ => F17
      rename News _ _ _ _ => N17
      refine iter_rangeUnr (n := many) (by rfl) hR (small_one (by omega) (by omega) (by omega) (by omega)) (by rw [rangeSize_nat]; omega) F17 N17 ?_
      intro I hI
      refine rangeRest_of (NInv L0 many vaA nmA I oc2 oc3 vv _ (fun k => nameOf (vl.getD k 0).toNat)) ?_ ?_ _ 0 (by omega) _ _
        ⟨⟨tmany, e4⟩, ⟨oV, gk _ hcV (neN (a := L0 + 1) (b := L0 + 1 + 1 + 1 + 1) (by omega)), hcdV⟩, gk _ a2 (neN (a := L0 + 1 + 1) (b := L0 + 1 + 1 + 1 + 1) (by omega)), gk _ a3 (neN (a := L0 + 1 + 1 + 1) (b := L0 + 1 + 1 + 1 + 1) (by omega)), ⟨oN, hcN, hcdN⟩,
          gk _ a1 (Ne.symm (hof _ (j1 _ b4))), ⟨[], 0, g1, .nil _⟩, gk _ aT (neN (a := 100) (b := L0 + 1 + 1 + 1 + 1) (by have := ltN l0.1; omega)), gk _ aU (neN (a := 119) (b := L0 + 1 + 1 + 1 + 1) (by have := ltN l0.2; omega)), fun p hp => Nat.ne_of_lt (hI p hp)⟩
      · rintro k m18 nw18 t18 h18 tk18 it hk ⟨⟨tm, z1⟩, ⟨ov2, z2, z3⟩, z4, z5, ⟨on2, z6, z7⟩, z8, ⟨nv, nn, z9, z10⟩, z11, z12, z13⟩ hit F18 N18
        rw [Int.zero_add] at F18
        walk_at "my_steps"
        refine Stop.mk ?_
        rename Fr _ _ _ _ => F19
        rename News _ _ _ _ => N19
        obtain ⟨tq, htq⟩ := mark_at k tk18 (tk18 + 1) (tk18 + 1 + 1)
        have hk3 : Int.fmod (k : Int) 3 = ((k % 3 : Nat) : Int) := by rw [Int.fmod_eq_emod_of_nonneg _ (by decide)]; omega
        rw [hk3]
        refine item_tup_tmp (N19 _ (.head _)).1 (by omega) htq ?_
        walk_at "my_steps"
        refine Stop.mk ?_
        rename Fr _ _ _ _ => F20
        rename News _ _ _ _ => N20
        replace N20 := news_sub (news' := (I, it) :: nw18) N20 (fun p hp => .tail _ hp)
        have hz9 : (nmA, listOf nv.toArray nn) ∈ (I, it) :: nw18 := .tail _ z9
        have hz8 : (vaA, listOf vv.toArray vv.length) ∈ (I, it) :: nw18 := .tail _ z8
        clear N19 F19
        obtain ⟨V, hV, hV24⟩ : ∃ V : Nat, vl.getD k 0 = (V : Int) ∧ V < 24 := by
          have h1 := hvr0 (vl.getD k 0) (by rw [List.getD_eq_getElem?_getD, List.getElem?_eq_getElem (by omega)]; exact List.getElem_mem _)
          exact ⟨(vl.getD k 0).toNat, by omega, by omega⟩
        have hVk : vl.getD (k : Int).toNat 0 = (V : Int) := by rw [Int.toNat_natCast]; exact hV
        have hfd : Int.fdiv (V : Int) 4 = ((V / 4 : Nat) : Int) := by rw [Int.fdiv_eq_ediv_of_nonneg _ (by decide)]; omega
        have hfm : Int.fmod (V : Int) 4 = ((V % 4 : Nat) : Int) := by rw [Int.fmod_eq_emod_of_nonneg _ (by decide)]; omega
        have hr1 : (rep (Str.ofString "\"\"") (V / 4)).length ≤ 100 := by rw [rep_len, show (Str.ofString "\"\"").length = 2 by decide]; omega
        have hmk := mark_len (k % 3)
        have hdot : (Str.ofString ".").length = 1 := by decide
        have hr2 : (rep (markOf (k % 3) ++ Str.ofString ".") (V % 4)).length ≤ 100 := by
          rw [rep_len, app_len]
          have h4 : V % 4 ≤ 3 := by omega
          have := Nat.mul_le_mul h4 (show (markOf (k % 3)).length + (Str.ofString ".").length ≤ 3 by omega)
          omega
        have h257 : (Str.ofString "257 \"").length = 5 := by decide
        have hqt : (Str.ofString "\"").length = 1 := by decide
        have hszl : sizeLine = 16777216 := by decide
        refine item_anyK (News.isList N20 hz8) j4 (by omega) (by omega) (by omega) (fun tv => ?_) (by with_unfolding_all rfl)
        rw [hVk]
        walk_at "my_steps"
        refine Stop.mk ?_
        rw [hfd]
        refine mul_K (by omega) (by decide) (by decide) (fun t21 tk21 => ?_)
        walk_at "my_steps"
        refine Stop.mk ?_
        refine PyProof.Rows.add_str (fun t22 tk22 => ?_) (by omega)
        walk_at "my_steps"
        refine Stop.mk ?_
        refine PyProof.Rows.add_str (fun t23 tk23 => ?_) (by omega)
        walk_at "my_steps"
        refine Stop.mk ?_
        rename Fr _ _ _ _ => F21
        rename News _ _ _ _ => N21
        refine item_anyK (News.isList N21 hz8) j4 (by omega) (by omega) (by omega) (fun tv2 => ?_) (by with_unfolding_all rfl)
        rw [hVk]
        walk_at "my_steps"
        refine Stop.mk ?_
        rw [hfm]
        refine mul_K (by omega) (by rw [app_len]; omega) (by rw [app_len]; omega) (fun t24 tk24 => ?_)
        walk_at "my_steps"
        refine Stop.mk ?_
        refine PyProof.Rows.add_str (fun t25 tk25 => ?_) (by rw [app_len]; omega)
        walk_at "my_steps"
        refine Stop.mk ?_
        refine PyProof.Rows.add_str (fun t26 tk26 => ?_) (by rw [app_len, app_len]; omega)
        walk_at "my_steps"
        refine Stop.mk ?_
        rename Fr _ _ _ _ => F22
        rename News _ _ _ _ => N22
        obtain ⟨ps, qs, u1, u2, u3, u4, u5, u6, u7, u8, u9, u10, u11, u12⟩ := chk_spec (chk_at (v := V) (k := k) hV24)
        have SN22 := Stop.mk N22
        refine quote_ok (x := replyOf V (k % 3)) KG F22 XG N22 TG (by rfl) (by show 302 + 20 < recursionLimit; decide) (by show 7 + 90 < cLine; decide) u1 u2 u3 u4 rfl u5 u6 u7 u8 ?_
        intro h23 tk23 t27 F23 N23
        walk_at "my_steps"
        refine Stop.mk ?_
        rename Fr _ _ _ _ => F24
        rename News _ _ _ _ => N24
        refine parse_ok KG F24 XG N24 TG (by rfl) (by show 302 + 20 < recursionLimit; decide) (by show 7 + 90 < cLine; decide) u9.2 u9.1 u10 u11 u12 ?_
        intro h25 tk25 t28 F25 N25
        walk_at "my_steps"
        refine Stop.mk ?_
        rename Fr _ _ _ _ => F26
        rename News _ _ _ _ => N26
        have hnvl : nv.length = k := z10.1
        refine append_M F26 N26 hz9 ?_ (sz_of (by simp; omega))
        intro h27 nw19 F27 N27 v1 v2
        have SN27 := Stop.mk N27
        walk_at "my_steps"
        refine Stop.mk ?_
        rename Fr _ _ _ _ => F28
        rename News _ _ _ _ => N28
        obtain ⟨m28, F28, w1⟩ : ∃ m', Fr g0 L0 _ m' ∧ m' "many" = some (.int (many : Nat) tm) := ⟨_, F28, z1⟩
        have hIn : I ≠ nmA := Ne.symm (z13 _ z9)
        have hI19 : (I, it) ∈ nw19 := v2 _ (.head _) hIn
        have kp : ∀ q ∈ nw18, q.1 ≠ nmA → q ∈ less I nw19 := fun q hq h => less_of (v2 _ (.tail _ hq) h) (z13 q hq)
        have N18' : News g0 L0 _ nw18 := news_sub SN22.go fun p hp => .tail _ hp
        exact ⟨by first | rfl | trivial, _, _, _, _, rfl, F28, news_split SN27.go hI19, less_ne, ⟨tm, w1⟩,
          ⟨ov2, kp _ z2 (news_ne N18' z2 z9 (fun e => by rw [e] at z3; cases z3)), z3⟩, kp _ z4 (news_ne N18' z4 z9 (fun e => by rw [e] at d2; cases d2)), kp _ z5 (news_ne N18' z5 z9 (fun e => by rw [e] at d3; cases d3)),
          ⟨on2, kp _ z6 (news_ne N18' z6 z9 (fun e => by rw [e] at z7; cases z7)), z7⟩, kp _ z8 hvn, ⟨nv ++ [.str (nameOf V) t28], nn + 1, less_of (by simpa using v1) (Ne.symm hIn), by
            have h9 : (fun k => nameOf (vl.getD k 0).toNat) k = nameOf V := by show nameOf (vl.getD k 0).toNat = nameOf V; rw [hV, Int.toNat_natCast]
            rw [← h9]
            exact z10.snoc⟩, kp _ z11 (news_ne N18' z11 z9 (fun e => by cases e)), kp _ z12 (news_ne N18' z12 z9 (fun e => by cases e)), less_ne⟩
      · rintro m18 nw18 h18 tk18 ⟨⟨tm, z1⟩, ⟨ov2, z2, z3⟩, z4, z5, ⟨on2, z6, z7⟩, z8, ⟨nv, nn, z9, z10⟩, z11, z12, z13⟩ F18 N18
        clear F17 N17
        walk_at "my_steps"
        rename Fr _ _ _ _ => F20
        rename News _ _ _ _ => N20
        rename ∀ (p : Addr × Obj), p ∈ nw18 → p.fst < _ => hl20
        rename_i askA hF20
        refine storeX_CM F20 N20 (by rfl) (.tail _ z4) d2 ?_ (by rfl) (by rfl)
        intro h21 nw21 oA F21 N21 hcA hcdA hkA
        have SN21 := Stop.mk N21
        have gk21 : ∀ q ∈ nw18, q.1 ≠ L0 + 1 + 1 → q ∈ nw21 := fun q hq h => hkA _ (.tail _ hq) h
        have y1 : (askA, listOf #[] 0) ∈ nw21 := hkA _ (.head _) (Ne.symm (Nat.ne_of_lt (hl20 _ z4)))
        have y2 := gk21 _ z2 (neN (a := L0 + 1) (b := L0 + 1 + 1) (by omega))
        have y3 := gk21 _ z5 (neN (a := L0 + 1 + 1 + 1) (b := L0 + 1 + 1) (by omega))
        have y4 := gk21 _ z6 (neN (a := L0 + 1 + 1 + 1 + 1) (b := L0 + 1 + 1) (by omega))
        have N18' : News g0 L0 _ nw18 := news_sub N20 fun p hp => .tail _ hp
        have y5 := gk21 _ z8 (news_ne N18' z8 z4 (fun e => by rw [← e] at d2; cases d2))
        have y6 := gk21 _ z9 (news_ne N18' z9 z4 (fun e => by rw [← e] at d2; cases d2))
        have y7 := gk21 _ z11 (neN (a := 100) (b := L0 + 1 + 1) (by have := ltN l0.1; omega))
        have y8 := gk21 _ z12 (neN (a := 119) (b := L0 + 1 + 1) (by have := ltN l0.2; omega))
        walk_at "my_steps"
        refine range1_rows F21 N21 ?_
        intro h23 tk23 t23 u23 w23 hR23 F23 N23 hk23
        walk_at "my_steps"
        refine Stop.mk ?_
        rename Fr _ _ _ _ => F24
        rename News _ _ _ _ => N24
        refine kll_range (n := many) (by rfl) F24 N24 hR23 (small_one (by omega) (by omega) (by omega) (by omega)) (by rw [rangeSize_nat]; omega) (by omega) ?_
        intro thA us uc h25 tk25 F25 N25 hl25 hI25
        walk_at "my_steps"
        refine Stop.mk ?_
        rename Fr _ _ _ _ => F26
        rename News _ _ _ _ => N26
        have htA : thA ≠ askA := Ne.symm (Nat.ne_of_lt (hl25 _ y1))
        have hnA : nmA ≠ askA := Nat.ne_of_lt (hl20 _ z9)
        refine merged_ok w 11 _ _ _ _ _ _ _ _ _ _ _ _ _ _ _ _ _ _ _ _ _ _ _ askA thA nmA [] [askA] us nv uc nn many [] (fun k => nameOf (vl.getD k 0).toNat) (fun k => (vl.getD k 0).toNat) (rangeKs 0 many) KG F26 XG N26 TG C105 (by rfl) (by show 302 + (11 + 30) < recursionLimit; decide) (by show 7 + (3 * 11 + 150) < cLine; decide)
          (.head _) (.tail _ y6) ⟨⟨0, .tail _ y1⟩, ⟨#[], .tail _ y7, .inl rfl⟩, .nil, (fun a ha => nomatch ha), .head _⟩ (by simpa using htA) (by simpa using hnA) ?_ hI25 z10 ?_ ?_ (rangeKs_nodup many) (by rw [rangeKs_length]; omega) (by rw [rangeKs_length]; omega) (by rw [rangeKs_length]; show 0 + 100 * many < 1200; omega) (by omega) ?_
        · intro d hd
          rw [List.mem_singleton.mp hd]
          exact ⟨_, .tail _ y1⟩
        · intro i j hi hj
          have hlt : ∀ i, i < many → (vl.getD i 0).toNat < 24 := fun i hi => by
            have h1 := hvr0 (vl.getD i 0) (by rw [List.getD_eq_getElem?_getD, List.getElem?_eq_getElem (by omega)]; exact List.getElem_mem _)
            omega
          exact name_at (hlt i hi) (hlt j hj)
        · intro o ho
          have := mem_rangeKs ho
          omega
        intro orA rl vr no new ps tO h27 tk27 nw27 F27 N27 k1 k2 k3 k4 k5 k6 k7
        obtain ⟨ol, rfl⟩ : ∃ ol : List Value, vr = ol.toArray := ⟨vr.toList, by simp⟩
        replace k5 : IntsAre ol rl := by simpa using k5
        walk_at "my_steps"
        refine Stop.mk ?_
        rename Fr _ _ _ _ => F28
        rename News _ _ _ _ => N28
        obtain ⟨m28, F28, x1, x2⟩ : ∃ m', Fr g0 L0 _ m' ∧ m' "order" = some (.ref orA) ∧ m' "many" = some (.int (many : Nat) tm) := ⟨_, F28, rfl, z1⟩
        have hrl : rl.length = many := by rw [k7.perm.length_eq, rangeKs_length]
        have hrr : ∀ o ∈ rl, 0 ≤ o ∧ o < (many : Int) := fun o ho => by have := mem_rangeKs (k7.perm.subset ho); omega
        have gk27 : ∀ q ∈ nw21, q.1 ≠ askA → q.1 ≠ 100 → q ∈ nw27 := fun q hq a b => k1 _ (.tail _ hq) a b
        have lA : ∀ {x : Nat} {o : Obj}, o.data = .cell (some (.ref askA)) ∨ o.data = .cell (some (.ref vaA)) ∨ o.data = .cell (some (.ref nmA)) ∨ o.data = .cell none → (x, o) ∈ nw21 → x ≠ askA ∧ x ≠ 100 := fun {x o} ho hm =>
          ⟨news_ne SN21.go hm y1 (fun e => by rw [e] at ho; rcases ho with h | h | h | h <;> cases h), news_ne SN21.go hm y7 (fun e => by rw [e] at ho; rcases ho with h | h | h | h <;> cases h)⟩
        have r1 := gk27 _ y2 (lA (.inr (.inl z3)) y2).1 (lA (.inr (.inl z3)) y2).2
        have r2 := gk27 _ hcA (lA (.inl hcdA) hcA).1 (lA (.inl hcdA) hcA).2
        have r3 := gk27 _ y3 (lA (.inr (.inr (.inr d3))) y3).1 (lA (.inr (.inr (.inr d3))) y3).2
        have r4 := gk27 _ y4 (lA (.inr (.inr (.inl z7))) y4).1 (lA (.inr (.inr (.inl z7))) y4).2
        have hvaA : vaA ≠ askA := Nat.ne_of_lt (hl20 _ z8)
        have r5 := gk27 _ y5 hvaA (news_ne SN21.go y5 y7 (fun e => by cases e))
        have r6 := gk27 _ y6 hnA (news_ne SN21.go y6 y7 (fun e => by cases e))
        have r8 := gk27 _ y8 (news_ne SN21.go y8 y1 (fun e => by cases e)) (show (119 : Nat) ≠ 100 by decide)
        refine kso_sorted F28 N28 (News.isList N28 k4) k5 (by omega) ?_
        intro sA sv sn sc h29 F29 N29 hl29 hI29 hlen29 hp29 hs29 hf29
        have hsn : sn = rangeKs 0 many := sorted_eq hs29 (rangeKs_sorted many) (hp29.trans k7.perm)
        subst hsn
        walk_at "my_steps"
        refine Stop.mk ?_
        rename IsRange _ _ _ _ _ _ _ _ => hR31
        rename Fr _ _ _ _ => F32
        rename News _ _ _ _ => N32
        refine kll_range (n := many) (by rfl) F32 N32 hR31 (small_one (by omega) (by omega) (by omega) (by omega)) (by rw [rangeSize_nat]; omega) (by omega) ?_
        intro raA ru rc h33 tk33 F33 N33 hl33 hI33
        walk_at "my_steps"
        refine Stop.mk ?_
        rename Fr _ _ _ _ => F34
        rename News _ _ _ _ => N34
        refine ne_ints_same N34 (.tail _ (.head _)) hI29 (.head _) hI33 (by show 7 + 64 < cLine; decide) ?_
        replace N34 := news_sub (news' := nw27) N34 (fun p hp => .tail _ (.tail _ hp))
        walk_at "my_steps"
        refine Stop.mk ?_
        rename Fr _ _ _ _ => F35
        rename News _ _ _ _ => N35
        refine kso_sorted F35 N35 (News.isList N35 r5) j4 (by omega) ?_
        intro duA dvv dl dc h36 F36 N36 hl36 hI36 hlen36 hp36 hs36 hf36
        walk_at "my_steps"
        refine Stop.mk ?_
        rename Fr _ _ _ _ => F37
        rename News _ _ _ _ => N37
        obtain ⟨m37, F37, x3, x4, x5⟩ : ∃ m', Fr g0 L0 _ m' ∧ m' "order" = some (.ref orA) ∧ m' "many" = some (.int (many : Nat) tm) ∧ m' "due" = some (.ref duA) := ⟨_, F37, x1, x2, rfl⟩
        have hnmt : ∀ i, i < many → ∃ t, nv[i]? = some (.str (nameOf (vl.getD i 0).toNat) t) := z10.2
        refine LCg.ListComp_U (F₀ := F37) (by with_unfolding_all rfl) (by decide) (by rfl) (by decide) (by rfl) ?_
        walk_at "my_steps"
        rename Fr _ _ _ _ => F38
        rename News _ _ _ _ => N38
        refine LCg.CompSrc.ledger (by rfl) F38 N38 (.tail _ k4) (sz_of (by have := k5.length; simp; omega)) (fun g => ?_)
        refine compRest_of (fun i ys nw' => (∀ q ∈ (duA, listOf dvv.toArray dc) :: nw27, q ∈ nw') ∧ LCg.SrcAt g0 orA ol.toArray nw' ∧ StrsAre ys ((rl.take i).map fun o => nameOf (vl.getD o.toNat 0).toNat)) ?_ ?_ _ 0 (Nat.zero_add _) [] _ ⟨fun q hq => hq, .inr ⟨_, .tail _ k4, rfl, _, rfl⟩, .nil⟩
        · rintro i ys nw40 v I40 oI C40 oC D40 m40 h40 tk40 E' hi ⟨j41, j43, j44⟩ hP ho hx F40 N40 off hne
          obtain ⟨to, rfl⟩ := k5.int_at i v (by simpa using hP)
          have SN := Stop.mk N40
          have hi2 : i < rl.length := by have := k5.length; simp at hi; omega
          have hor := hrr (rl.getD i 0) (by rw [List.getD_eq_getElem?_getD, List.getElem?_eq_getElem hi2]; exact List.getElem_mem _)
          walk_at "my_steps"
          refine Stop.mk ?_
          refine lcf_cell SN.go (by rfl) (.tail _ (.tail _ (.tail _ (j41 _ (.tail _ r4))))) z7 ?_ (by rfl) (by rfl)
          walk_at "my_steps"
          refine Stop.mk ?_
          refine LCgL.ld_own SN.go (.tail _ (.head _)) ho hx ?_
          obtain ⟨tx, htx⟩ := hnmt (rl.getD i 0).toNat (by omega)
          walk_at "my_steps"
          refine Stop.mk ?_
          rename Fr _ _ _ _ => F41
          rename News _ _ _ _ => N41
          refine item_litK (News.isList N41 (.tail _ (.tail _ (.tail _ (j41 _ (.tail _ r6)))))) hor.1 (by omega) htx ?_ (by with_unfolding_all rfl)
          walk_at "my_steps"
          refine Stop.mk ?_
          rename Fr _ _ _ _ => F42
          rename News _ _ _ _ => N42
          refine ⟨_, _, nw40, rfl, F42, N42, off.mem, j43, j41, j43, ?_⟩
          rw [take_snoc rl 0 _ hi2]
          exact strs_snoc j44
        · rintro ys nw40 ⟨j41, j43, j44⟩
          intro naA h40 tk40 F40 N40 off40
          rw [List.size_toArray, k5.length, List.take_length] at j44
          have hnaA := off1_mem off40
          walk_at "my_steps"
          refine Stop.mk ?_
          rename Fr _ _ _ _ => F43
          rename News _ _ _ _ => N43
          have hdul : dl.length = many := by rw [hp36.length_eq, hvl0]
          have hdr : ∀ i, i < dl.length → 0 ≤ dl.getD i 0 ∧ dl.getD i 0 < 24 := fun i hi => hvr0 _ (hp36.subset (by rw [List.getD_eq_getElem?_getD, List.getElem?_eq_getElem hi]; exact List.getElem_mem _))
          refine LCg.ListComp_U (F₀ := F43) (by with_unfolding_all rfl) (by decide) (by rfl) (by decide) (by rfl) ?_
          walk_at "my_steps"
          rename Fr _ _ _ _ => F44
          rename News _ _ _ _ => N44
          have hdu44 : (duA, listOf dvv.toArray dc) ∈ (naA, LCg.lst ys) :: nw40 := .tail _ (j41 _ (.head _))
          refine LCg.CompSrc.ledger (by rfl) F44 N44 hdu44 (sz_of (by have := hI36.length; simp; omega)) (fun g => ?_)
          refine compRest_of (fun i zs nw' => (∀ q ∈ (naA, LCg.lst ys) :: nw40, q ∈ nw') ∧ LCg.SrcAt g0 duA dvv.toArray nw' ∧ StrsAre zs ((dl.take i).map fun v => nameOf v.toNat)) ?_ ?_ _ 0 (Nat.zero_add _) [] _ ⟨fun q hq => hq, .inr ⟨_, hdu44, rfl, _, rfl⟩, .nil⟩
          · rintro i zs nw45 v I45 oI C45 oC D45 m45 h45 tk45 E' hi ⟨j51, j53, j54⟩ hP ho hx F45 N45 off hne
            obtain ⟨to, rfl⟩ := hI36.int_at i v (by simpa using hP)
            have SN := Stop.mk N45
            have hi2 : i < dl.length := by have := hI36.length; simp at hi; omega
            obtain ⟨V, hV, hV24⟩ : ∃ V : Nat, dl.getD i 0 = (V : Int) ∧ V < 24 := by
              have h1 := hdr i hi2
              exact ⟨(dl.getD i 0).toNat, by omega, by omega⟩
            have hfd : Int.fdiv (V : Int) 4 = ((V / 4 : Nat) : Int) := by rw [Int.fdiv_eq_ediv_of_nonneg _ (by decide)]; omega
            have hfm : Int.fmod (V : Int) 4 = ((V % 4 : Nat) : Int) := by rw [Int.fmod_eq_emod_of_nonneg _ (by decide)]; omega
            have hq1 : (rep (Str.ofString "\"") (V / 4)).length ≤ 100 := by rw [rep_len, show (Str.ofString "\"").length = 1 by decide]; omega
            have hq2 : (rep (Str.ofString "\r\n..") (V % 4)).length ≤ 100 := by rw [rep_len, show (Str.ofString "\r\n..").length = 4 by decide]; omega
            have hszl : sizeLine = 16777216 := by decide
            walk_at "my_steps"
            refine Stop.mk ?_
            refine LCgL.ld_own SN.go (.tail _ (.head _)) ho hx ?_
            rw [hV]
            walk_at "my_steps"
            refine Stop.mk ?_
            rw [hfd]
            refine mul_K (by omega) (by decide) (by decide) (fun t46 tk46 => ?_)
            walk_at "my_steps"
            refine Stop.mk ?_
            refine LCgL.ld_own SN.go (.tail _ (.head _)) ho hx ?_
            rw [hV]
            walk_at "my_steps"
            refine Stop.mk ?_
            rw [hfm]
            refine mul_K (by omega) (by decide) (by decide) (fun t47 tk47 => ?_)
            walk_at "my_steps"
            refine Stop.mk ?_
            refine PyProof.Rows.add_str (fun t48 tk48 => ?_) (by omega)
            walk_at "my_steps"
            refine Stop.mk ?_
            rename Fr _ _ _ _ => F49
            rename News _ _ _ _ => N49
            refine ⟨_, _, nw45, rfl, F49, N49, off.mem, j53, j51, j53, ?_⟩
            rw [take_snoc dl 0 _ hi2, hV]
            exact strs_snoc j54
          · rintro zs nw45 ⟨j51, j53, j54⟩
            intro exA h45 tk45 F45 N45 off45
            rw [List.size_toArray, hI36.length, List.take_length] at j54
            have hexA := off1_mem off45
            have hdue := due_eq hvl0 (fun x hx => (hvr0 x hx).1) k7.perm k7.sorted hp36 hs36
            have hsame : (dl.map fun v => nameOf v.toNat) = rl.map fun o => nameOf (vl.getD o.toNat 0).toNat := by
              rw [← hdue, List.map_map]; rfl
            rw [hsame] at j54
            walk_at "my_steps"
            refine Stop.mk ?_
            rename Fr _ _ _ _ => F50
            rename News _ _ _ _ => N50
            refine ne_texts_same N50 (.tail _ (j51 _ (.head _))) j44 (.head _) j54 (by show 7 + 64 < cLine; decide) ?_ ?_
            · intro y hy
              obtain ⟨o, ho, rfl⟩ := List.mem_map.mp hy
              have h1 := hrr o ho
              have h2 := hvr0 (vl.getD o.toNat 0) (by rw [List.getD_eq_getElem?_getD, List.getElem?_eq_getElem (by omega)]; exact List.getElem_mem _)
              exact name_ok_at (by omega)
            have j61 : ∀ q ∈ (duA, listOf dvv.toArray dc) :: nw27, q ∈ nw45 := fun q hq => j51 _ (.tail _ (j41 _ hq))
            replace N50 := news_sub (news' := (duA, listOf dvv.toArray dc) :: nw27) N50 (fun p hp => .tail _ (j61 _ hp))
            walk_at "my_steps"
            refine Stop.mk ?_
            rename Fr _ _ _ _ => F51
            rename News _ _ _ _ => N51
            simp only [List.nil_append] at k2
            obtain ⟨nq27, a27⟩ := k2.ask
            have hP27 := k2.pairs
            have hl27 := hP27.length
            have hfew : ps.length ≤ costT many := by have := k7.few; rw [rangeKs_length] at this; exact this
            have hc22 := costT_22 many (by omega)
            have hpsn := k7.nodup
            refine LCt.ListComp_T (F₀ := F51) (by with_unfolding_all rfl) (by decide) (by rfl) (by decide) (by rfl) ?_
            walk_at "my_steps"
            rename Fr _ _ _ _ => F52
            rename News _ _ _ _ => N52
            have a52 : (askA, listOf (new.map Value.ref).toArray nq27) ∈ (duA, listOf dvv.toArray dc) :: nw27 := .tail _ a27
            refine LCt.CompSrcT.ledger (by rfl) F52 N52 a52 (sz_of (by simp; omega)) (fun g => ?_)
            refine compRestT_of (fun i zs nw' => (∀ q ∈ (duA, listOf dvv.toArray dc) :: nw27, q ∈ nw') ∧ LCg.SrcAt g0 askA (new.map Value.ref).toArray nw' ∧ zs = []) ?_ ?_ _ 0 (Nat.zero_add _) [] _ ⟨fun q hq => hq, .inr ⟨_, a52, rfl, _, rfl⟩, rfl⟩
            · rintro i zs nw53 v I53 oI C53 oC D53 m53 h53 tk53 E' hi ⟨j71, j73, rfl⟩ hP ho hx F53 N53 off hne
              obtain ⟨a, ha, rfl⟩ : ∃ a, new[i]? = some a ∧ Value.ref a = v := by simpa using hP
              have hia := (List.getElem?_eq_some_iff.mp ha).1
              have hz : (a, ps[i]'(by omega)) ∈ new.zip ps := List.mem_of_getElem? (i := i) (by rw [List.getElem?_zip_eq_some]; exact ⟨ha, List.getElem?_eq_getElem (by omega)⟩)
              have SN := Stop.mk N53
              have a53 : (askA, listOf (new.map Value.ref).toArray nq27) ∈ (I53, oI) :: (C53, oC) :: (D53, LCg.lst []) :: nw53 := .tail _ (.tail _ (.tail _ (j71 _ (.tail _ a27))))
              walk_at "my_steps"
              refine Stop.mk ?_
              refine lcf_cell SN.go (by rfl) (.tail _ (.tail _ (.tail _ (j71 _ (.tail _ r2))))) hcdA ?_ (by rfl) (by rfl)
              walk_at "my_steps"
              refine Stop.mk ?_
              refine kf_method SN.go a53 PySem.F.slot_list_count PySem.F.type_list_count ?_
              walk_at "my_steps"
              refine Stop.mk ?_
              refine LCgL.ld_own SN.go (.tail _ (.head _)) ho hx ?_
              walk_at "my_steps"
              refine Stop.mk ?_
              rename Fr _ _ _ _ => F54
              rename News _ _ _ _ => N54
              have hPx : PairsAt ((I53, oI) :: (C53, oC) :: (D53, LCg.lst []) :: nw53) new ps := hP27.mono fun p hp _ => .tail _ (.tail _ (.tail _ (j71 _ (.tail _ hp))))
              refine count_ok (h₀ := g0) (L := L0) SN.go a53 hPx hz hpsn ?hu ?_
              case hu => show 8 + 64 < cLine; decide
              refine wpAny_Constant_int ?_
              refine PySem.P.ne_int ?_
              rw [show ((1 : Int) != 1) = false from rfl]
              walk_at "my_steps"
              show Stop _
              refine Stop.mk ?_
              rename Fr _ _ _ _ => F57
              rename News _ _ _ _ => N57
              exact ⟨_, _, nw53, rfl, F57, N57, off.mem, j73, j71, j73, rfl⟩
            · rintro zs nw53 ⟨j71, j73, rfl⟩
              intro peA h53 tk53 F53 N53 off53
              walk_at "my_steps"
              refine Stop.mk ?_
              rename Fr _ _ _ _ => F54
              rename News _ _ _ _ => N54
              refine ne_empty (vs := []) (ps := []) N54 (.tail _ (.head _)) .nil (.head _) (by show 7 + 64 < cLine; decide) ?_
              simp only [decide_true, Bool.not_true]
              replace N54 := news_sub (news' := (duA, listOf dvv.toArray dc) :: nw27) N54 (fun p hp => .tail _ (.tail _ (j71 _ hp)))
              walk_at "my_steps"
              refine Stop.mk ?_
              rename Fr _ _ _ _ => F55
              rename News _ _ _ _ => N55
              refine len_list (News.isList N55 a52) (by simp; omega) ?_
              walk_at "my_steps"
              refine Stop.mk ?_
              have hnl : (new.map Value.ref).toArray.size = ps.length := by simp [hl27]
              rw [hnl]
              have hcost : 2 ^ ps.length < 2 * factP many := Nat.lt_of_le_of_lt (Nat.pow_le_pow_right (by decide) hfew) (cost_orders many (by omega) hm6)
              have hfle := factP_le many (by omega)
              refine pow2_K (by omega) (fun t56 tk56 => ?_)
              generalize 2 ^ ps.length = PW at hcost ⊢
              walk_at "my_steps"
              refine Stop.mk ?_
              rename Fr _ _ _ _ => F56
              rename News _ _ _ _ => N56
              refine orders_ok KG F56 XG N56 TG (by rfl) (by show 302 + 20 < recursionLimit; decide) (by show 7 + 90 < cLine; decide) hm10 ?_
              intro h57 tk57 t57 F57 N57
              generalize factP many = FM at hcost hfle ⊢
              have hcz : (PW : Int) < 2 * (FM : Int) := by omega
              walk_at "my_steps"
              refine Stop.mk ?_
              refine PyProof.Rows.mul_int ?_ (IntMulOk.of_left (intBits_le_64 (by omega) (by omega)))
              refine PyProof.Rows.ge_int ?_
              rw [decide_eq_false (by omega)]
              first | walk1 | (leave1; try dsimp only)
              first | walk1 | (leave1; try dsimp only)
              first | walk1 | (leave1; try dsimp only)
              first | walk1 | (leave1; try dsimp only)
              refine wpAny_execs_cons ?_
              rename Fr _ _ _ _ => F58
              rename News _ _ _ _ => N58
              refine For_turns F58 ?_
              walk_at "my_steps"
              refine Stop.mk ?_
              rename IsRange _ _ _ _ _ _ _ _ => hR58
              rename Fr _ _ _ _ => F59
              rename News _ _ _ _ => N59
              refine iter_rangeTurns (n := many) (by rfl) F59 N59 hR58 (small_one (by omega) (by omega) (by omega) (by omega)) ?_
              intro I9 hI9
              rw [List.range_eq_range']
              have hL119 : 119 < L0 := l0.2
              obtain ⟨ps9, e9, _⟩ := k2.tab
              have hLB : LB L0 vaA nmA orA duA ov2 oc3 on2 vv nv ol dvv _ _ _ _ ((duA, listOf dvv.toArray dc) :: nw27) := ⟨.tail _ r1, .tail _ r3, .tail _ r4, .tail _ r5, .tail _ r6, .tail _ k4, .head _, ps9, .tail _ e9⟩
              have hdue2 := hdue
              refine rangeTurns_of (n := many) (LInv L0 vaA nmA orA duA ov2 on2 vv nv ol dvv vv.length nn no dc) ?_ ?_ _ 0 (by omega) _ _ ⟨x3, x5, ⟨oc3, _, d3, hLB⟩, 0, #[], .tail _ r8, .inl rfl, .inl ⟨rfl, rfl⟩⟩ (fun p hp => Nat.ne_of_lt (hI9 p hp))
              · rintro i m60 nw60 oI9 t60 h60 tk60 hi ⟨q1, q2, ⟨oo, vo, hoo, hB⟩, kk, ps0, ht2, hkk, hT2⟩ hoI F60 N60
                walk_at "my_steps"
                have SN60 := Stop.mk N60
                refine storeX_CM F60 N60 (by rfl) (.tail _ hB.c3) hoo ?_ (by rfl) (by rfl)
                intro h61 nw61 o61 F61 N61 hc61 hd61 hk61
                have N60' : Stop (News g0 L0 h60 nw60) := ⟨news_sub SN60.go fun p hp => .tail _ hp⟩
                have hB61 : LB L0 vaA nmA orA duA ov2 o61 on2 vv nv ol dvv vv.length nn no dc nw61 := hB.store N60'.go hoo hc61 fun q hq hn => hk61 _ (.tail _ hq) hn
                have ht61 : (119, tabObj ps0) ∈ nw61 := hk61 _ (.tail _ ht2) (neN (a := 119) (b := L0 + 1 + 1 + 1) (by have := ltN l0.2; omega))
                have hI61 : (I9, oI9) ∈ nw61 := hk61 _ (.head _) (Ne.symm (hoI _ hB.c3))
                have hT61 : Tab2 (fun c => c ≠ I9) nw61 kk ps0 := (hT2.off hoI).keep fun q hq ⟨fv, _, _, hfv, _⟩ => hk61 _ (.tail _ hq) (news_ne (a := q.1) (o := q.2) N60'.go hq hB.c3 (fun e => by rw [e, hoo] at hfv; cases hfv))
                have b61c1 := hB61.c1
                have b61c4 := hB61.c4
                obtain ⟨tx, htx⟩ := hnmt i hi
                have SN61 := Stop.mk N61
                walk_at "my_steps"
                refine Stop.mk ?_
                rename Fr _ _ _ _ => F62
                rename News _ _ _ _ => N62
                refine item_litK (News.isList N62 hB61.nm) (by omega) (by omega) htx ?_ (by with_unfolding_all rfl)
                walk_at "my_steps"
                rename Fr _ _ _ _ => F63
                rename News _ _ _ _ => N63
                refine kla_gen F63 N63 TG codeHd ht61 hT61.triples ?_ rfl rfl ?_
                · rcases hT61 with ⟨_, rfl⟩ | ⟨hk1, _⟩ | ⟨_, c1, c2, rfl, h1, _⟩
                  · exact .inl rfl
                  · omega
                  · exact .inr ⟨c1, by simp [codeAmong, rawInt], h1.1⟩
                intro f1 c1' ctv1 h64 tk64 nw64 ps1 F64 N64 hk64 ht64 hcase hf64 hcode64 hlt64
                have hB64 := hB61.keep SN61.go hL119 ht61 hk64
                have hI64 : (I9, oI9) ∈ nw64 := hk64 _ hI61 (Ne.symm (hoI _ ht2))
                have hT64 := hT61.first rfl rfl hkk SN61.go ht61 hk64 (fun hlt => Ne.symm (Nat.ne_of_lt (hlt _ hI61))) hcase hcode64
                have SN64 := Stop.mk N64
                walk_at "my_steps"
                refine Stop.mk ?_
                rename Fr _ _ _ _ => F65
                rename News _ _ _ _ => N65
                have key1 : KeySpec w f1 5 40 100 (fun as nw => ∀ q ∈ nw64, q ∈ nw) (fun o => 0 ≤ o ∧ o < (many : Int)) (fun o => nameOf (vl.getD o.toNat 0).toNat) := by
                  intro dp2 un2 gd2 cn2 cs2 L2 a2 ccd2 cl2 outer2 A2 base2 h2 m2' p2 loose2 mean2 mg2 mb2 nwk as o t s2 Q2 E2 B2 F2 X2 N2 T2 hk2 hdp2 hun2 hIk hlm2 hok2 ret2
                  obtain ⟨to, hxo⟩ := hnmt o.toNat (by omega)
                  obtain ⟨oc1, cvs, ct, hc1, hcd1, hcv1⟩ := hcode64
                  have nf := hIk _ hf64
                  have nc := hIk _ hc1
                  have nn4 := hIk _ hB64.c4
                  have nnm := hIk _ hB64.nm
                  refine wpAny_call ?_
                  k_dflt walk_at "my_enterL"
                  obtain ⟨mL, FL, gq1⟩ : ∃ m', Fr gL LL hL m' ∧ m' "other" = some (.int o t) := ⟨_, FL, rfl⟩
                  walk_at "my_steps"
                  refine Stop.mk ?_
                  rename Fr _ _ _ _ => FK
                  rename News _ _ _ _ => NK
                  refine item_litK (News.isList NK nnm) hok2.1 (by omega) hxo ?_ (by with_unfolding_all rfl)
                  walk_at "my_steps"
                  exact ret2 _ _ _ nwk (by assumption) (by assumption) hIk
                refine bisLd_ok key1 KG F65 XG N65 TG (by rfl) (by show 302 + (5 + 5) < recursionLimit; decide) (by show 7 + (40 + 20) < cLine; decide) (as := []) (fun q hq => hq) (fun as nw h => h _ hB64.od) (fun as nw h => ⟨_, _, _, _, _, _, _, _, _, h _ hf64⟩) k5 hrr (by omega) (by simp; omega) ?_
                intro t66 h66 tk66 nw66 F66 N66 hI66
                rw [less_count hvl0 hvr0 hrr hdue hs36 hi]
                have hB66 := hB64.sub hI66
                have b66c1 := hB66.c1
                have b66c4 := hB66.c4
                have b66c3 := hB66.c3
                have ht66 := hI66 _ ht64
                have SN66 := Stop.mk N66
                obtain ⟨kk2, hkk2, hT66⟩ : ∃ k, (k = 1 ∨ k = 2) ∧ Tab2 (fun c => c ≠ I9) nw66 k ps1 := by
                  rcases hT64 with ⟨_, h⟩ | ⟨_, h⟩
                  · exact ⟨1, .inl rfl, h.keep fun p hp _ => hI66 _ hp⟩
                  · exact ⟨2, .inr rfl, h.keep fun p hp _ => hI66 _ hp⟩
                walk_at "my_steps"
                refine Stop.mk ?_
                rename Fr _ _ _ _ => F67
                rename News _ _ _ _ => N67
                refine item_litK (News.isList N67 hB66.nm) (by omega) (by omega) htx ?_ (by with_unfolding_all rfl)
                walk_at "my_steps"
                rename Fr _ _ _ _ => F68
                rename News _ _ _ _ => N68
                refine kla_gen F68 N68 TG codeHd ht66 hT66.triples ?_ rfl rfl ?_
                · rcases hT66 with ⟨hk1, _⟩ | ⟨_, c1, rfl, _⟩ | ⟨_, c1, c2, rfl, _, h2⟩
                  · omega
                  · exact .inl (by simp [codeAmong, rawInt])
                  · exact .inr ⟨c2, by simp [codeAmong, rawInt], h2.1⟩
                intro f2 c2' ctv2 h69 tk69 nw69 ps2 F69 N69 hk69 ht69 hcase2 hf69 hcode69 hlt69
                have hB69 := hB66.keep SN66.go hL119 ht66 hk69
                have hI69 : (I9, oI9) ∈ nw69 := hk69 _ (hI66 _ hI64) (Ne.symm (hoI _ ht2))
                have hT69 := hT66.second rfl rfl hkk2 SN66.go ht66 hk69 (fun hlt => Ne.symm (Nat.ne_of_lt (hlt _ (hI66 _ hI64)))) hcase2 hcode69
                walk_at "my_steps"
                refine Stop.mk ?_
                rename Fr _ _ _ _ => F70
                rename News _ _ _ _ => N70
                have key2 : KeySpec w f2 5 40 100 (fun as nw => ∀ q ∈ nw69, q ∈ nw) (fun o => 0 ≤ o ∧ o < (many : Int)) (fun o => nameOf (vl.getD o.toNat 0).toNat) := by
                  intro dp2 un2 gd2 cn2 cs2 L2 a2 ccd2 cl2 outer2 A2 base2 h2 m2' p2 loose2 mean2 mg2 mb2 nwk as o t s2 Q2 E2 B2 F2 X2 N2 T2 hk2 hdp2 hun2 hIk hlm2 hok2 ret2
                  obtain ⟨to, hxo⟩ := hnmt o.toNat (by omega)
                  obtain ⟨oc1, cvs, ct, hc1, hcd1, hcv1⟩ := hcode69
                  have nf := hIk _ hf69
                  have nc := hIk _ hc1
                  have nn4 := hIk _ hB69.c4
                  have nnm := hIk _ hB69.nm
                  refine wpAny_call ?_
                  k_dflt walk_at "my_enterL"
                  obtain ⟨mL, FL, gq1⟩ : ∃ m', Fr gL LL hL m' ∧ m' "other" = some (.int o t) := ⟨_, FL, rfl⟩
                  walk_at "my_steps"
                  refine Stop.mk ?_
                  rename Fr _ _ _ _ => FK
                  rename News _ _ _ _ => NK
                  refine item_litK (News.isList NK nnm) hok2.1 (by omega) hxo ?_ (by with_unfolding_all rfl)
                  walk_at "my_steps"
                  exact ret2 _ _ _ nwk (by assumption) (by assumption) hIk
                refine bisRd_ok key2 KG F70 XG N70 TG (by rfl) (by show 302 + (5 + 5) < recursionLimit; decide) (by show 7 + (40 + 20) < cLine; decide) (as := []) (fun q hq => hq) (fun as nw h => h _ hB69.od) (fun as nw h => ⟨_, _, _, _, _, _, _, _, _, h _ hf69⟩) k5 hrr (by omega) (by simp; omega) ?_
                intro t71 h71 tk71 nw71 F71 N71 hI71
                rw [upto_count hvl0 hvr0 hrr hdue hs36 hi]
                have hB71 := hB69.sub hI71
                have b71c1 := hB71.c1
                have b71c3 := hB71.c3
                have ht71 := hI71 _ ht69
                have hT71 : Tab2 (fun c => c ≠ I9) nw71 2 ps2 := hT69.keep fun p hp _ => hI71 _ hp
                have hii71 := hI71 _ hI69
                walk_at "my_steps"
                refine Stop.mk ?_
                rename Fr _ _ _ _ => F72
                rename News _ _ _ _ => N72
                obtain ⟨m72, F72, v1, v2, ⟨tu9, v4⟩⟩ : ∃ m', Fr g0 L0 _ m' ∧ m' "order" = some (.ref orA) ∧ m' "due" = some (.ref duA) ∧ ∃ t, m' "upto" = some (.int (dl.countP (fun v => decide (v ≤ vl.getD i 0)) : Nat) t) := ⟨_, F72, q1, q2, _, rfl⟩
                have b71du := hB71.du
                refine LCt.ListComp_T (F₀ := F72) (by with_unfolding_all rfl) (by decide) (by rfl) (by decide) (by rfl) ?_
                walk_at "my_steps"
                rename Fr _ _ _ _ => F83
                rename News _ _ _ _ => N83
                refine LCt.CompSrcT.ledger (by rfl) F83 N83 b71du (sz_of (by have := hI36.length; simp; omega)) (fun g => ?_)
                refine compRestT_of (fun j zs nw' => (∀ q ∈ nw71, q ∈ nw') ∧ LCg.SrcAt g0 duA dvv.toArray nw' ∧ zs.length = (dl.take j).countP (fun v => decide (v < vl.getD i 0))) ?_ ?_ _ 0 (Nat.zero_add _) [] _ ⟨fun q hq => hq, .inr ⟨_, b71du, rfl, _, rfl⟩, rfl⟩
                · rintro j zs nw84 v I84 oI C84 oC D84 m84 h84 tk84 E' hj ⟨j81, j83, j84⟩ hP ho hx F84 N84 off hne
                  obtain ⟨to, rfl⟩ := hI36.int_at j v (by simpa using hP)
                  have SN := Stop.mk N84
                  have hj2 : j < dl.length := by have := hI36.length; simp at hj; omega
                  have hcs := countP_snoc dl (fun v => decide (v < vl.getD i 0)) hj2
                  walk_at "my_steps"
                  refine Stop.mk ?_
                  refine LCgL.ld_own SN.go (.tail _ (.head _)) ho hx ?_
                  walk_at "my_steps"
                  refine Stop.mk ?_
                  refine lcf_cell SN.go (by rfl) (.tail _ (.tail _ (.tail _ (j81 _ b71c1)))) z3 ?_ (by rfl) (by rfl)
                  walk_at "my_steps"
                  refine Stop.mk ?_
                  refine lcf_cell SN.go (by rfl) (.tail _ (.tail _ (.tail _ (j81 _ b71c3)))) hd61 ?_ (by rfl) (by rfl)
                  walk_at "my_steps"
                  refine Stop.mk ?_
                  refine item_anyK (News.isList SN.go (.tail _ (.tail _ (.tail _ (j81 _ hB71.va))))) j4 (by omega) (by omega) (by omega) (fun tv => ?_) (by with_unfolding_all rfl)
                  rw [Int.toNat_natCast]
                  refine PySem.P.lt_int ?_
                  by_cases hlt : dl.getD j 0 < vl.getD i 0
                  · rw [decide_eq_true hlt]
                    walk_at "my_steps"
                    refine Stop.mk ?_
                    refine LCgL.ld_own SN.go (.tail _ (.head _)) ho hx ?_
                    refine Stop.mk ?_
                    refine ⟨_, _, nw84, rfl, F84, SN.go, off.mem, j83, j81, j83, ?_⟩
                    rw [hcs, if_pos (decide_eq_true hlt), List.length_append, j84]; rfl
                  · rw [decide_eq_false hlt]
                    walk_at "my_steps"
                    show Stop _
                    refine Stop.mk ?_
                    refine ⟨_, _, nw84, rfl, F84, SN.go, off.mem, j83, j81, j83, ?_⟩
                    rw [hcs, if_neg (by simpa using hlt), j84]; rfl
                · rintro zs nw84 ⟨j81, j83, j84⟩
                  intro ls8A h85 tk85 F85 N85 off85
                  rw [List.size_toArray, hI36.length, List.take_length] at j84
                  walk_at "my_steps"
                  refine Stop.mk ?_
                  rename Fr _ _ _ _ => F86
                  rename News _ _ _ _ => N86
                  have hzl : zs.length ≤ 10 := by rw [j84]; exact Nat.le_trans List.countP_le_length (by omega)
                  refine len_list (News.isList N86 (.head _)) (by simp; omega) ?_
                  rw [show zs.toArray.size = dl.countP (fun v => decide (v < vl.getD i 0)) by rw [List.size_toArray, j84]]
                  replace N86 := news_sub (news' := nw71) N86 (fun p hp => .tail _ (j81 _ hp))
                  refine PySem.P.ne_int ?_
                  rw [bne_self_eq_false]
                  walk_at "my_steps"
                  refine Stop.mk ?_
                  rename Fr _ _ _ _ => F90
                  rename News _ _ _ _ => N90
                  refine LCt.ListComp_T (F₀ := F90) (by with_unfolding_all rfl) (by decide) (by rfl) (by decide) (by rfl) ?_
                  walk_at "my_steps"
                  rename Fr _ _ _ _ => F93
                  rename News _ _ _ _ => N93
                  refine LCt.CompSrcT.ledger (by rfl) F93 N93 b71du (sz_of (by have := hI36.length; simp; omega)) (fun g => ?_)
                  refine compRestT_of (fun j zs nw' => (∀ q ∈ nw71, q ∈ nw') ∧ LCg.SrcAt g0 duA dvv.toArray nw' ∧ zs.length = (dl.take j).countP (fun v => decide (v ≤ vl.getD i 0))) ?_ ?_ _ 0 (Nat.zero_add _) [] _ ⟨fun q hq => hq, .inr ⟨_, b71du, rfl, _, rfl⟩, rfl⟩
                  · rintro j zs nw94 v I94 oI C94 oC D94 m94 h94 tk94 E' hj ⟨j81, j83, j84⟩ hP ho hx F94 N94 off hne
                    obtain ⟨to, rfl⟩ := hI36.int_at j v (by simpa using hP)
                    have SN := Stop.mk N94
                    have hj2 : j < dl.length := by have := hI36.length; simp at hj; omega
                    have hcs := countP_snoc dl (fun v => decide (v ≤ vl.getD i 0)) hj2
                    walk_at "my_steps"
                    refine Stop.mk ?_
                    refine LCgL.ld_own SN.go (.tail _ (.head _)) ho hx ?_
                    walk_at "my_steps"
                    refine Stop.mk ?_
                    refine lcf_cell SN.go (by rfl) (.tail _ (.tail _ (.tail _ (j81 _ b71c1)))) z3 ?_ (by rfl) (by rfl)
                    walk_at "my_steps"
                    refine Stop.mk ?_
                    refine lcf_cell SN.go (by rfl) (.tail _ (.tail _ (.tail _ (j81 _ b71c3)))) hd61 ?_ (by rfl) (by rfl)
                    walk_at "my_steps"
                    refine Stop.mk ?_
                    refine item_anyK (News.isList SN.go (.tail _ (.tail _ (.tail _ (j81 _ hB71.va))))) j4 (by omega) (by omega) (by omega) (fun tv => ?_) (by with_unfolding_all rfl)
                    rw [Int.toNat_natCast]
                    refine PySem.P.le_int ?_
                    by_cases hlt : dl.getD j 0 ≤ vl.getD i 0
                    · rw [decide_eq_true hlt]
                      walk_at "my_steps"
                      refine Stop.mk ?_
                      refine LCgL.ld_own SN.go (.tail _ (.head _)) ho hx ?_
                      refine Stop.mk ?_
                      refine ⟨_, _, nw94, rfl, F94, SN.go, off.mem, j83, j81, j83, ?_⟩
                      rw [hcs, if_pos (decide_eq_true hlt), List.length_append, j84]; rfl
                    · rw [decide_eq_false hlt]
                      walk_at "my_steps"
                      show Stop _
                      refine Stop.mk ?_
                      refine ⟨_, _, nw94, rfl, F94, SN.go, off.mem, j83, j81, j83, ?_⟩
                      rw [hcs, if_neg (by simpa using hlt), j84]; rfl
                  · rintro zs nw94 ⟨j81, j83, j84⟩
                    intro ls9A h95 tk95 F95 N95 off95
                    rw [List.size_toArray, hI36.length, List.take_length] at j84
                    walk_at "my_steps"
                    refine Stop.mk ?_
                    rename Fr _ _ _ _ => F96
                    rename News _ _ _ _ => N96
                    have hzl : zs.length ≤ 10 := by rw [j84]; exact Nat.le_trans List.countP_le_length (by omega)
                    refine len_list (News.isList N96 (.head _)) (by simp; omega) ?_
                    rw [show zs.toArray.size = dl.countP (fun v => decide (v ≤ vl.getD i 0)) by rw [List.size_toArray, j84]]
                    replace N96 := news_sub (news' := nw71) N96 (fun p hp => .tail _ (j81 _ hp))
                    refine PySem.P.ne_int ?_
                    rw [bne_self_eq_false]
                    walk_at "my_steps"
                    refine Stop.mk ?_
                    rename Fr _ _ _ _ => F99
                    rename News _ _ _ _ => N99
                    exact ⟨by first | rfl | trivial, _, _, _, less I9 nw71, rfl, F99, news_split N99 hii71, less_ne, v1, v2, ⟨o61, _, hd61, hB71.less hB hoI⟩, 2, ps2, less_of ht71 (show (119 : Nat) ≠ I9 from hoI _ ht2), .inr rfl, hT71.less⟩
              · rintro m60 nw60 h60 tk60 ⟨q1, q2, ⟨oo, vo, hoo, hB⟩, kk, ps0, ht2, hkk, hT2⟩ F60 N60
                obtain ⟨ps8, e8⟩ := hB.t1
                walk_at "my_steps"
                refine Stop.mk ?_
                rename Fr _ _ _ _ => F61
                rename News _ _ _ _ => N61
                exact ⟨rfl, _, _, ps8, ps0, _, nw60, rfl, F61, N61, e8, ht2⟩
  · rintro f s' ⟨⟨rfl, h', tk', ps, qs, m', news', rfl, F', N', t1, t2⟩⟩
    refine ⟨?_, ⟨_, (N' _ t1).1⟩, ⟨_, (N' _ t2).1⟩, trivial⟩
    wrow_close)
end

end Mine

theorem PySem.Challenge.cw_sr0012_01_holds : PySem.Challenge.rw_sr0012_01.Holds :=
  Mine.law_all
