import PyProof.Rows.All
import Wide.All
import OpenK.AllK
import Wide.FinOn
import Lean
import PySem.Challenge.RW_gm0004_01
open PySem PySem.W PySem.Calls PyProof.Rows
set_option Elab.async false
set_option maxRecDepth 100000
set_option maxHeartbeats 8000000
set_option rowWalk.seconds 3000
namespace Mine
open_top hd for PySem.Challenge.rw_gm0004_01
/-- the walks below are walked with the lines of the top off (a switch of the library that the head turns on) -/
theorem lines_off : True := by
  w_top off
  trivial
end Mine
/-! part C0 -/
set_option maxRecDepth 100000
set_option maxHeartbeats 8000000
namespace Mine
/-- what a called def needs of its caller -/
structure Cx (w : World) (mean : ExcName → Option Value) (mg mb : Str → Option Value) (dp un : Nat) (cs : Scope) (outer : List Env) (A₀ : Around) (base h₀ : Heap) (L : Addr) (m : Str → Option Value) (news : List (Addr × Obj)) (s : Shared) (need : Nat) : Prop where
  B : Below A₀ base outer h₀
  F : Fr h₀ L s.heap m
  X : (hd.heap_39 w.params).In h₀
  N : News h₀ L s.heap news
  T : Top hd.view_39 (looseW hd.view_39 [Str.ofString "insort_left", Str.ofString "bisect_left"]) mean mg mb h₀
  hk : cs.kind = .function
  hdp : dp + need < recursionLimit
  hun : un + 8 * need < cLine
theorem my_isList {h₀ h : Heap} {L l : Addr} {news : List (Addr × Obj)} {items : Array Value} {n : Nat} (N : News h₀ L h news) (hm : (l, W.listOf items n) ∈ news) : h.IsList l items := ⟨_, (N _ hm).1, rfl, n, rfl⟩

/-! ints, in order -/
theorem pw_getD {ns : List Int} (hs : ns.Pairwise (· ≤ ·)) {i j : Nat} (hij : i ≤ j) (hj : j < ns.length) : ns.getD i 0 ≤ ns.getD j 0 := by
  have hi : i < ns.length := Nat.lt_of_le_of_lt hij hj
  rw [List.getD_eq_getElem?_getD, List.getD_eq_getElem?_getD, List.getElem?_eq_getElem hi, List.getElem?_eq_getElem hj]
  simp only [Option.getD_some]
  rcases Nat.lt_or_ge i j with h | h
  · exact List.pairwise_iff_getElem.mp hs i j hi hj h
  · have e : i = j := Nat.le_antisymm hij h
    subst e; exact Int.le_refl _
theorem bis_lo {ns : List Int} {x lo hi : Int} (hs : ns.Pairwise (· ≤ ·)) (h0 : 0 ≤ lo) (_h1 : lo ≤ hi) (h2 : hi ≤ ns.length) (h4 : ∀ i : Nat, hi ≤ i → i < ns.length → x ≤ ns.getD i 0)
    (hlt : lo < hi) (hm : ns.getD ((lo + hi).fdiv 2).toNat 0 < x) :
    0 ≤ (lo + hi).fdiv 2 + 1 ∧ (lo + hi).fdiv 2 + 1 ≤ hi ∧ hi ≤ ns.length ∧ (∀ i : Nat, (i : Int) < (lo + hi).fdiv 2 + 1 → ns.getD i 0 < x) ∧ (∀ i : Nat, hi ≤ i → i < ns.length → x ≤ ns.getD i 0) := by
  have e : (lo + hi).fdiv 2 = (lo + hi) / 2 := Int.fdiv_eq_ediv_of_nonneg _ (by omega)
  rw [e] at hm ⊢
  refine ⟨by omega, by omega, h2, fun i hi' => Int.lt_of_le_of_lt (pw_getD hs (j := ((lo + hi) / 2).toNat) (by omega) (by omega)) hm, h4⟩
theorem bis_hi {ns : List Int} {x lo hi : Int} (hs : ns.Pairwise (· ≤ ·)) (h0 : 0 ≤ lo) (_h1 : lo ≤ hi) (h2 : hi ≤ ns.length) (h3 : ∀ i : Nat, (i : Int) < lo → ns.getD i 0 < x)
    (hlt : lo < hi) (hm : ¬ ns.getD ((lo + hi).fdiv 2).toNat 0 < x) :
    0 ≤ lo ∧ lo ≤ (lo + hi).fdiv 2 ∧ (lo + hi).fdiv 2 ≤ ns.length ∧ (∀ i : Nat, (i : Int) < lo → ns.getD i 0 < x) ∧ (∀ i : Nat, (lo + hi).fdiv 2 ≤ i → i < ns.length → x ≤ ns.getD i 0) := by
  have e : (lo + hi).fdiv 2 = (lo + hi) / 2 := Int.fdiv_eq_ediv_of_nonneg _ (by omega)
  rw [e] at hm ⊢
  refine ⟨h0, by omega, by omega, h3, fun i hi' hl => Int.le_trans (Int.not_lt.mp hm) (pw_getD hs (by omega) hl)⟩
theorem bis_m1 {lo hi : Int} (_h0 : 0 ≤ lo) (hlt : lo < hi) : (hi - ((lo + hi).fdiv 2 + 1)).toNat < (hi - lo).toNat := by
  have e : (lo + hi).fdiv 2 = (lo + hi) / 2 := Int.fdiv_eq_ediv_of_nonneg _ (by omega)
  rw [e]; omega
theorem bis_m2 {lo hi : Int} (_h0 : 0 ≤ lo) (hlt : lo < hi) : ((lo + hi).fdiv 2 - lo).toNat < (hi - lo).toNat := by
  have e : (lo + hi).fdiv 2 = (lo + hi) / 2 := Int.fdiv_eq_ediv_of_nonneg _ (by omega)
  rw [e]; omega
theorem bis_end {ns : List Int} {x lo hi : Int} (h : ∀ i : Nat, hi ≤ i → i < ns.length → x ≤ ns.getD i 0) (hle : lo ≤ hi) (hn : ¬ lo < hi) : ∀ i : Nat, lo ≤ i → i < ns.length → x ≤ ns.getD i 0 :=
  fun i h1 h2 => h i (by omega) h2
end Mine

/-! part C1 -/
set_option maxRecDepth 100000
set_option maxHeartbeats 8000000
namespace Mine
section
local macro_rules | `(tactic| k_enter) => `(tactic| (refine' code_def ?k1 ?k2 ?k3 ?k4 ?k5 ?kA ?kF ?kK ?k6 ?k7 ?k8 ?k9 ?kB ?_ ?c2 ?c3 ?c4 ?c5; (case kA => exact rfl); (case kF => exact rfl); (case kK => assumption); (case k1 => k_asm); (case k2 => k_asm); (case k3 => k_asm); (case k4 => k_asm); (case k5 => k_asm); (case k6 => k_is); (case k7 => k_is); (case k8 => ktr_room); (case k9 => first | exact BindsTo.of_eq rfl | exact binds_K (by k_in) rfl (by k_is) rfl rfl rfl | (refine' kp_binds ?kx ?ke; (case kx => k_in); (case ke => exact fun _ => rfl)) | fail "k_enter: no rule for these arguments"); (case c5 => decide); (case kB => exact locs rfl); (case c2 => exact rfl); (case c3 => exact rfl); (case c4 => exact rfl); k_whole; intro g' L' h' FG' F' N' B' X' T'; (try dsimp only); (try k_lift B'); (try k_fold)))
local macro_rules | `(tactic| walk_at "call builtin:len") => `(tactic| (k_here; (with_reducible show wpAny _ _ (call (Value.builtin "len") [Value.ref _]) _ _ _); k_dflt (refine' len_ints_fit (my_isList ?k1 ?k2) ?k3 ?k4 ?_; (case k1 => k_asm); (case k2 => assumption); (case k3 => assumption); (case k4 => omega); k_whole)))
local macro_rules | `(tactic| walk_at "subscriptTail Name Name ref int") => `(tactic| (k_here; (with_reducible show wpAny _ _ (subscriptTail _ _ (Value.ref _) (Value.int _ _)) _ _ _); (with_unfolding_all refine' item_list_ints (my_isList ?k1 ?k2) ?k3 ?k4 ?k5 ?k6 ?_; (case k1 => k_asm); (case k2 => assumption); (case k3 => assumption); (case k4 => omega); (case k5 => omega); (case k6 => omega); k_whole); intro _))
variable {w : World} {mean : ExcName → Option Value} {mg mb : Str → Option Value} {dp un : Nat} {gd : Option (List Code)} {cn : Str} {cs : Scope} {a : Addr} {ccd : Value} {cl : List (Str × Addr)} {outer : List Env} {A₀ : Around} {base h₀ : Heap} {L : Addr} {m : Str → Option Value} {news : List (Addr × Obj)} {s : Shared} {Q E : Value → Shared → Prop}
theorem bisect4 (c : Cx w mean mg mb dp un cs outer A₀ base h₀ L m news s 1) {l : Addr} {vs : List Value} {ns : List Int} {nn : Nat} {x : Int} {tx t0 : Tok}
   (hl : (l, W.listOf vs.toArray nn) ∈ news) (hI : IntsAre vs ns) (hlen : ns.length ≤ 64) (hs : ns.Pairwise (· ≤ ·))
   (hret : ∀ (k : Int) (t : Tok) (h' : Heap) (tk' : Nat), 0 ≤ k → k ≤ ns.length → (∀ i : Nat, (i : Int) < k → ns.getD i 0 < x) → (∀ i : Nat, k ≤ i → i < ns.length → x ≤ ns.getD i 0) →
      Fr h₀ L h' m → News h₀ L h' news → Q (.int k t) { s with heap := h', toks := tk' }) :
   wpAny (model PySem.Challenge.rw_gm0004_01.row.prog w) (ktrTop dp un gd cn cs L a ccd cl outer) (call (.ref 32) [.ref l, .int x tx, .int 0 t0, .none]) Q E s := by
  have z0 : PySem.Challenge.rw_gm0004_01.row.prog = PySem.Challenge.rw_gm0004_01.row.prog ∧ hd.heap_39 = hd.heap_39 := by (k_fill; exact ⟨rfl, rfl⟩)
  clear z0
  obtain ⟨B, F, X, N, T, hk, hdp, hun⟩ := c
  refine wpAny_call ?_
  k_dflt k_enter
  k_with "state" => first | exact bis_lo (by assumption) (by assumption) (by assumption) (by assumption) (by assumption) (by assumption) (by assumption) | exact bis_hi (by assumption) (by assumption) (by assumption) (by assumption) (by assumption) (by assumption) (by assumption)
  k_with "measure" => first | exact bis_m1 (by assumption) (by assumption) | exact bis_m2 (by assumption) (by assumption)
  k_with "exec While Compare cons nil" => k_while (fun _ lo hi => 0 ≤ lo ∧ lo ≤ hi ∧ hi ≤ ns.length ∧ (∀ i : Nat, (i : Int) < lo → ns.getD i 0 < x) ∧ (∀ i : Nat, hi ≤ i → i < ns.length → x ≤ ns.getD i 0)) (fun _ lo hi => (hi - lo).toNat) "lo" "hi"
  k_steps
  exact hret _ _ _ _ (by assumption) (by omega) (by assumption) (bis_end (by assumption) (by assumption) (by assumption)) (by assumption) (by assumption)
theorem bisect2 (c : Cx w mean mg mb dp un cs outer A₀ base h₀ L m news s 1) {l : Addr} {vs : List Value} {ns : List Int} {nn : Nat} {x : Int} {tx : Tok}
   (hl : (l, W.listOf vs.toArray nn) ∈ news) (hI : IntsAre vs ns) (hlen : ns.length ≤ 64) (hs : ns.Pairwise (· ≤ ·))
   (hret : ∀ (k : Int) (t : Tok) (h' : Heap) (tk' : Nat), 0 ≤ k → k ≤ ns.length → (∀ i : Nat, (i : Int) < k → ns.getD i 0 < x) → (∀ i : Nat, k ≤ i → i < ns.length → x ≤ ns.getD i 0) →
      Fr h₀ L h' m → News h₀ L h' news → Q (.int k t) { s with heap := h', toks := tk' }) :
   wpAny (model PySem.Challenge.rw_gm0004_01.row.prog w) (ktrTop dp un gd cn cs L a ccd cl outer) (call (.ref 32) [.ref l, .int x tx]) Q E s := by
  have z0 : PySem.Challenge.rw_gm0004_01.row.prog = PySem.Challenge.rw_gm0004_01.row.prog ∧ hd.heap_39 = hd.heap_39 := by (k_fill; exact ⟨rfl, rfl⟩)
  clear z0
  obtain ⟨B, F, X, N, T, hk, hdp, hun⟩ := c
  refine wpAny_call ?_
  k_dflt k_enter
  k_with "state" => first | exact bis_lo (by assumption) (by assumption) (by assumption) (by assumption) (by assumption) (by assumption) (by assumption) | exact bis_hi (by assumption) (by assumption) (by assumption) (by assumption) (by assumption) (by assumption) (by assumption)
  k_with "measure" => first | exact bis_m1 (by assumption) (by assumption) | exact bis_m2 (by assumption) (by assumption)
  k_with "exec While Compare cons nil" => k_while (fun _ lo hi => 0 ≤ lo ∧ lo ≤ hi ∧ hi ≤ ns.length ∧ (∀ i : Nat, (i : Int) < lo → ns.getD i 0 < x) ∧ (∀ i : Nat, hi ≤ i → i < ns.length → x ≤ ns.getD i 0)) (fun _ lo hi => (hi - lo).toNat) "lo" "hi"
  k_steps
  exact hret _ _ _ _ (by assumption) (by omega) (by assumption) (bis_end (by assumption) (by assumption) (by assumption)) (by assumption) (by assumption)
end
end Mine

/-! part C2 -/
set_option maxRecDepth 100000
set_option maxHeartbeats 8000000
namespace Mine
/-! the kit's insI (Wide/Txt2): a number laid into an ordered list, ahead of its equals -/
theorem insI_eq (x : Int) : ∀ (ns : List Int) (k : Nat), k ≤ ns.length → (∀ i : Nat, i < k → ns.getD i 0 < x) → (∀ i : Nat, k ≤ i → i < ns.length → x ≤ ns.getD i 0) → ns.take k ++ x :: ns.drop k = insI x ns
  | [], k, hk, _, _ => by
    have : k = 0 := by simpa using hk
    subst this; rfl
  | y :: r, 0, _, _, h2 => by
    have : x ≤ y := h2 0 (Nat.le_refl _) (by simp)
    simp only [List.take_zero, List.drop_zero, List.nil_append, insI]
    rw [if_neg (by omega)]
  | y :: r, k + 1, hk, h1, h2 => by
    have : y < x := h1 0 (by omega)
    simp only [List.take_succ_cons, List.drop_succ_cons, List.cons_append, insI]
    rw [if_pos this, insI_eq x r k (by simpa using hk) (fun i hi => by simpa using h1 (i + 1) (by omega)) (fun i hi hl => by simpa using h2 (i + 1) (by omega) (by simp; omega))]
theorem intsAre_ins {vs : List Value} {ns : List Int} (hI : IntsAre vs ns) (k : Nat) {x : Int} {t : Tok} : IntsAre (vs.take k ++ .int x t :: vs.drop k) (ns.take k ++ x :: ns.drop k) := by
  induction hI generalizing k with
  | nil => simpa using IntsAre.cons x t .nil
  | cons n u h ih =>
    cases k with
    | zero => exact .cons x t (.cons n u h)
    | succ k => exact .cons n u (ih k)
theorem kl_ins_int {vs : List Value} {ns : List Int} (hI : IntsAre vs ns) {k x : Int} {t : Tok} (h0 : 0 ≤ k) (hk : k ≤ ns.length) (h1 : ∀ i : Nat, (i : Int) < k → ns.getD i 0 < x) (h2 : ∀ i : Nat, k ≤ i → i < ns.length → x ≤ ns.getD i 0) :
    IntsAre (kl_ins vs k (.int x t)) (insI x ns) := by
  have hl := hI.length
  have e : kl_ins vs k (.int x t) = vs.take k.toNat ++ .int x t :: vs.drop k.toNat := by
    unfold kl_ins
    rw [if_neg (by omega), show min k.toNat vs.length = k.toNat from by omega]
  rw [e, ← insI_eq x ns k.toNat (by omega) (fun i hi => h1 i (by omega)) (fun i hi hl => h2 i (by omega) hl)]
  exact intsAre_ins hI _
theorem fits9 {ns : List Int} {k : Int} (h0 : 0 ≤ k) (hk : k ≤ ns.length) (hl : ns.length ≤ 64) : Builtin.List.listFitsIndex k = true := by
  unfold Builtin.List.listFitsIndex
  simp only [Bool.and_eq_true, decide_eq_true_eq]
  omega
theorem room9 {vs : List Value} {ns : List Int} (hI : IntsAre vs ns) (hl : ns.length ≤ 64) : vs.toArray.toList.length ≤ sizeLine := by
  have := hI.length
  simp only [sizeLine_eq]
  show vs.length ≤ _
  omega
section
local macro_rules | `(tactic| k_enter) => `(tactic| (refine' code_def ?k1 ?k2 ?k3 ?k4 ?k5 ?kA ?kF ?kK ?k6 ?k7 ?k8 ?k9 ?kB ?_ ?c2 ?c3 ?c4 ?c5; (case kA => exact rfl); (case kF => exact rfl); (case kK => assumption); (case k1 => k_asm); (case k2 => k_asm); (case k3 => k_asm); (case k4 => k_asm); (case k5 => k_asm); (case k6 => k_is); (case k7 => k_is); (case k8 => ktr_room); (case k9 => first | exact BindsTo.of_eq rfl | exact binds_K (by k_in) rfl (by k_is) rfl rfl rfl | (refine' kp_binds ?kx ?ke; (case kx => k_in); (case ke => exact fun _ => rfl)) | fail "k_enter: no rule for these arguments"); (case c5 => decide); (case kB => exact locs rfl); (case c2 => exact rfl); (case c3 => exact rfl); (case c4 => exact rfl); k_whole; intro g' L' h' FG' F' N' B' X' T'; (try dsimp only); (try k_lift B'); (try k_fold)))
local macro_rules | `(tactic| walk_at "call ref") => `(tactic| (k_here; (with_reducible show wpAny _ _ (call (Value.ref 32) [Value.ref _, Value.int _ _, Value.int _ _, Value.none]) _ _ _); k_dflt (refine' bisect4 ⟨?k1, ?k2, ?k3, ?k4, ?k5, ?k6, ?k7, ?k8⟩ ?l ?i ?n ?s ?_; (case k1 => k_asm); (case k2 => k_asm); (case k3 => k_asm); (case k4 => k_asm); (case k5 => k_asm); (case k6 => first | exact rfl | assumption); (case k7 => ktr_room); (case k8 => ktr_units); (case l => assumption); (case i => assumption); (case n => assumption); (case s => assumption)); k_whole; intro k9 t9 h9 tk9 hk0 hk1 hk2 hk3 F9 N9; (try dsimp only); (try k_fold)))
local macro_rules | `(tactic| walk_at "call builtin:list.insert") => `(tactic| (k_here; (with_reducible show wpAny _ _ (call (Value.builtin _) [Value.ref _, Value.int _ _, _]) _ _ _); k_dflt (refine' kl_insert ?F ?N ?f ?e ?U ?z ?_; (case F => k_asm); (case N => k_asm); (case e => exact rfl); (case U => apply_assumption); (case f => exact fits9 (by assumption) (by assumption) (by assumption)); (case z => exact room9 (by assumption) (by assumption)); k_whole); intro h' F' N'))
variable {w : World} {mean : ExcName → Option Value} {mg mb : Str → Option Value} {dp un : Nat} {gd : Option (List Code)} {cn : Str} {cs : Scope} {a : Addr} {ccd : Value} {cl : List (Str × Addr)} {outer : List Env} {A₀ : Around} {base h₀ : Heap} {L : Addr} {m : Str → Option Value} {news : List (Addr × Obj)} {s : Shared} {Q E : Value → Shared → Prop}
theorem insort2 (c : Cx w mean mg mb dp un cs outer A₀ base h₀ L m news s 2) {l : Addr} {vs : List Value} {ns : List Int} {nn : Nat} {x : Int} {tx : Tok} {gU : Obj → List (Addr × Obj)}
   (hl : (l, W.listOf vs.toArray nn) ∈ news) (hU : ∀ o', Upd l (W.listOf vs.toArray nn) o' news (gU o')) (hI : IntsAre vs ns) (hlen : ns.length ≤ 64) (hs : ns.Pairwise (· ≤ ·))
   (hret : ∀ (vs' : List Value) (h' : Heap) (tk' : Nat), IntsAre vs' (insI x ns) → Fr h₀ L h' m → News h₀ L h' (gU (W.listOf vs'.toArray (nn + 1))) → Q .none { s with heap := h', toks := tk' }) :
   wpAny (model PySem.Challenge.rw_gm0004_01.row.prog w) (ktrTop dp un gd cn cs L a ccd cl outer) (call (.ref 23) [.ref l, .int x tx]) Q E s := by
  have z0 : PySem.Challenge.rw_gm0004_01.row.prog = PySem.Challenge.rw_gm0004_01.row.prog ∧ hd.heap_39 = hd.heap_39 := by (k_fill; exact ⟨rfl, rfl⟩)
  clear z0
  obtain ⟨B, F, X, N, T, hk, hdp, hun⟩ := c
  refine wpAny_call ?_
  k_dflt k_enter
  k_steps
  exact hret _ _ _ (kl_ins_int (by assumption) (by assumption) (by assumption) (by assumption) (by assumption)) (by assumption) (by assumption)
end
end Mine

/-! part C3 -/
set_option maxRecDepth 100000
set_option maxHeartbeats 8000000
namespace Mine
/-- the sums of number k and the first j numbers -/
def sumsJ (ns : List Int) (k j : Nat) : List Int := (List.range j).map fun i => ns.getD i 0 + ns.getD k 0
/-- the sums of each of the first k numbers with those up to itself -/
def sumsB (ns : List Int) (k : Nat) : List Int := (List.range k).flatMap fun i => sumsJ ns i (i + 1)
def unl (ns : List Int) : Bool := decide (sumsB ns ns.length).Nodup
def USt (S order : List Int) : Prop := (∀ v, v ∈ order ↔ v ∈ S) ∧ S.Nodup
theorem sumsJ_succ (ns : List Int) (k j : Nat) : sumsJ ns k (j + 1) = sumsJ ns k j ++ [ns.getD j 0 + ns.getD k 0] := by
  simp [sumsJ, List.range_succ]
theorem sumsB_succ (ns : List Int) (k : Nat) : sumsB ns (k + 1) = sumsB ns k ++ sumsJ ns k (k + 1) := by
  simp [sumsB, List.range_succ]
theorem sumsJ_prefix (ns : List Int) (k : Nat) {i j : Nat} (h : i ≤ j) : ∃ r, sumsJ ns k j = sumsJ ns k i ++ r := by
  induction h with
  | refl => exact ⟨[], by simp⟩
  | step _ ih => obtain ⟨r, e⟩ := ih; exact ⟨r ++ _, by rw [sumsJ_succ, e, List.append_assoc]⟩
theorem sumsB_prefix (ns : List Int) {i j : Nat} (h : i ≤ j) : ∃ r, sumsB ns j = sumsB ns i ++ r := by
  induction h with
  | refl => exact ⟨[], by simp⟩
  | step _ ih => obtain ⟨r, e⟩ := ih; exact ⟨r ++ _, by rw [sumsB_succ, e, List.append_assoc]⟩
theorem mem_insI {x v : Int} {ns : List Int} : v ∈ insI x ns ↔ v = x ∨ v ∈ ns := (insI_perm x ns).mem_iff.trans List.mem_cons
theorem insI_length {x : Int} {ns : List Int} : (insI x ns).length = ns.length + 1 := (insI_perm x ns).length_eq
theorem insI_sorted {x : Int} {ns : List Int} (h : ns.Pairwise (· ≤ ·)) : (insI x ns).Pairwise (· ≤ ·) := insI_rises x ns h
theorem u_start (ns : List Int) : USt (sumsB ns ([] : List Int).length) [] := ⟨by simp [sumsB], by simp [sumsB]⟩
theorem u_in0 {ns order pre : List Int} {k : Int} (h : USt (sumsB ns pre.length) order) (e : k = 0 + (pre.length : Int)) : USt (sumsB ns k.toNat ++ sumsJ ns k.toNat ([] : List Int).length) order := by
  have : k.toNat = pre.length := by omega
  rw [this]
  simpa [sumsJ] using h
theorem u_add {order S : List Int} {x : Int} (h : USt S order) (hx : x ∉ order) : USt (S ++ [x]) (insI x order) := by
  refine ⟨fun v => ?_, ?_⟩
  · rw [mem_insI, List.mem_append, List.mem_singleton, h.1 v]
    exact or_comm
  · rw [List.nodup_append]
    refine ⟨h.2, by simp, fun a ha b hb e => hx ?_⟩
    rw [List.mem_singleton] at hb
    rw [(h.1 x), ← hb, ← e]; exact ha
theorem not_mem_of {order : List Int} {x k : Int} (hs : order.Pairwise (· ≤ ·)) (h0 : 0 ≤ k) (h2 : ∀ i : Nat, (i : Int) < k → order.getD i 0 < x) (h3 : ∀ i : Nat, k ≤ i → i < order.length → x ≤ order.getD i 0)
    (hne : k < order.length → order.getD k.toNat 0 ≠ x) : x ∉ order := by
  intro hm
  obtain ⟨i, hi, e⟩ := List.getElem_of_mem hm
  have e' : order.getD i 0 = x := by rw [List.getD_eq_getElem?_getD, List.getElem?_eq_getElem hi, e]; rfl
  by_cases hik : (i : Int) < k
  · have := h2 i hik; omega
  · have hk : k < order.length := by omega
    have h4 := hne hk
    have h5 := h3 k.toNat (by omega) (by omega)
    have h6 := pw_getD hs (i := k.toNat) (j := i) (by omega) hi
    omega
theorem u_turn {ns order pre : List Int} {k j x q : Int} (h : USt (sumsB ns k.toNat ++ sumsJ ns k.toNat pre.length) order) (hs : order.Pairwise (· ≤ ·)) (ej : j = 0 + (pre.length : Int)) (ex : x = ns.getD j.toNat 0 + ns.getD k.toNat 0)
    (h0 : 0 ≤ q) (h2 : ∀ i : Nat, (i : Int) < q → order.getD i 0 < x) (h3 : ∀ i : Nat, q ≤ i → i < order.length → x ≤ order.getD i 0) (hne : q < order.length → order.getD q.toNat 0 ≠ x) :
    USt (sumsB ns k.toNat ++ sumsJ ns k.toNat (pre ++ [j]).length) (insI x order) := by
  have hx := not_mem_of hs h0 h2 h3 hne
  have := u_add h hx
  rw [List.append_assoc, ex, show j.toNat = pre.length from by omega, ← sumsJ_succ] at this
  rw [List.length_append, List.length_singleton]
  rw [ex, show j.toNat = pre.length from by omega]
  exact this
theorem u_out {ns order pre full : List Int} {k : Int} (h : USt (sumsB ns k.toNat ++ sumsJ ns k.toNat full.length) order) (e : k = 0 + (pre.length : Int)) (hf : full.length = (k + 1 - 0).toNat) : USt (sumsB ns (pre ++ [k]).length) order := by
  rw [show k.toNat = pre.length from by omega, hf, show (k + 1 - 0).toNat = pre.length + 1 from by omega, ← sumsB_succ] at h
  simpa using h
theorem u_true {ns order full : List Int} (h : USt (sumsB ns full.length) order) (hf : full.length = ((ns.length : Int) - 0).toNat) : true = unl ns := by
  rw [show full.length = ns.length from by omega] at h
  simp [unl, h.2]
theorem u_false {ns order pre : List Int} {k j x q : Int} (h : USt (sumsB ns k.toNat ++ sumsJ ns k.toNat pre.length) order) (ej : j = 0 + (pre.length : Int)) (hj : pre.length < (k + 1 - 0).toNat) (h0k : 0 ≤ k) (hk : k < ns.length) (ex : x = ns.getD j.toNat 0 + ns.getD k.toNat 0)
    (h0 : 0 ≤ q) (hq : q < order.length) (he : order.getD q.toNat 0 = x) : false = unl ns := by
  have hm : x ∈ order := by
    rw [← he, List.getD_eq_getElem?_getD, List.getElem?_eq_getElem (show q.toNat < order.length by omega)]
    exact List.getElem_mem _
  have hm' := (h.1 x).mp hm
  obtain ⟨r1, e1⟩ := sumsJ_prefix ns k.toNat (show pre.length + 1 ≤ k.toNat + 1 by omega)
  obtain ⟨r2, e2⟩ := sumsB_prefix ns (show k.toNat + 1 ≤ ns.length by omega)
  have e3 : sumsB ns ns.length = (sumsB ns k.toNat ++ sumsJ ns k.toNat pre.length) ++ ([x] ++ r1 ++ r2) := by
    rw [e2, sumsB_succ, e1, sumsJ_succ, ex, show j.toNat = pre.length from by omega]
    simp [List.append_assoc]
  symm
  refine decide_eq_false fun hn => ?_
  rw [e3, List.nodup_append] at hn
  exact hn.2.2 x hm' x (by simp) rfl
theorem s_start (ns : List Int) : ([] : List Int).length ≤ 6 * ([] : List Int).length ∧ ([] : List Int).Pairwise (· ≤ ·) ∧ USt (sumsB ns ([] : List Int).length) [] := ⟨Nat.zero_le _, List.Pairwise.nil, u_start ns⟩
theorem s_in0 {ns order pre : List Int} {k : Int} (b : order.length ≤ 6 * pre.length) (hs : order.Pairwise (· ≤ ·)) (h : USt (sumsB ns pre.length) order) (e : k = 0 + (pre.length : Int)) :
    (order.length : Int) ≤ 6 * k + ([] : List Int).length ∧ order.Pairwise (· ≤ ·) ∧ USt (sumsB ns k.toNat ++ sumsJ ns k.toNat ([] : List Int).length) order := ⟨by simp; omega, hs, u_in0 h e⟩
theorem s_turnB {ns order pre : List Int} {k j q : Int} (b : (order.length : Int) ≤ 6 * k + pre.length) (hs : order.Pairwise (· ≤ ·)) (h : USt (sumsB ns k.toNat ++ sumsJ ns k.toNat pre.length) order) (ej : j = 0 + (pre.length : Int))
    (h0 : 0 ≤ q) (h2 : ∀ i : Nat, (i : Int) < q → order.getD i 0 < ns.getD j.toNat 0 + ns.getD k.toNat 0) (h3 : ∀ i : Nat, q ≤ i → i < order.length → ns.getD j.toNat 0 + ns.getD k.toNat 0 ≤ order.getD i 0) (hne : ¬ order.getD q.toNat 0 = ns.getD j.toNat 0 + ns.getD k.toNat 0) :
    ((insI (ns.getD j.toNat 0 + ns.getD k.toNat 0) order).length : Int) ≤ 6 * k + (pre ++ [j]).length ∧ (insI (ns.getD j.toNat 0 + ns.getD k.toNat 0) order).Pairwise (· ≤ ·) ∧ USt (sumsB ns k.toNat ++ sumsJ ns k.toNat (pre ++ [j]).length) (insI (ns.getD j.toNat 0 + ns.getD k.toNat 0) order) :=
  ⟨by rw [insI_length, List.length_append, List.length_singleton]; omega, insI_sorted hs, u_turn h hs ej rfl h0 h2 h3 fun _ => hne⟩
theorem s_turnC {ns order pre : List Int} {k j q : Int} (b : (order.length : Int) ≤ 6 * k + pre.length) (hs : order.Pairwise (· ≤ ·)) (h : USt (sumsB ns k.toNat ++ sumsJ ns k.toNat pre.length) order) (ej : j = 0 + (pre.length : Int))
    (h0 : 0 ≤ q) (h2 : ∀ i : Nat, (i : Int) < q → order.getD i 0 < ns.getD j.toNat 0 + ns.getD k.toNat 0) (h3 : ∀ i : Nat, q ≤ i → i < order.length → ns.getD j.toNat 0 + ns.getD k.toNat 0 ≤ order.getD i 0) (hne : ¬ q < order.length) :
    ((insI (ns.getD j.toNat 0 + ns.getD k.toNat 0) order).length : Int) ≤ 6 * k + (pre ++ [j]).length ∧ (insI (ns.getD j.toNat 0 + ns.getD k.toNat 0) order).Pairwise (· ≤ ·) ∧ USt (sumsB ns k.toNat ++ sumsJ ns k.toNat (pre ++ [j]).length) (insI (ns.getD j.toNat 0 + ns.getD k.toNat 0) order) :=
  ⟨by rw [insI_length, List.length_append, List.length_singleton]; omega, insI_sorted hs, u_turn h hs ej rfl h0 h2 h3 fun q => absurd q hne⟩
theorem s_out {ns order pre : List Int} {k : Int} (hlen : ns.length ≤ 6) (e : k = 0 + (pre.length : Int)) (lt : pre.length < ((ns.length : Int) - 0).toNat) (b : (order.length : Int) ≤ 6 * k + (rangeKs 0 (k + 1 - 0).toNat).length) (hs : order.Pairwise (· ≤ ·))
    (h : USt (sumsB ns k.toNat ++ sumsJ ns k.toNat (rangeKs 0 (k + 1 - 0).toNat).length) order) : order.length ≤ 6 * (pre ++ [k]).length ∧ order.Pairwise (· ≤ ·) ∧ USt (sumsB ns (pre ++ [k]).length) order := by
  have hr := rangeKs_length 0 (k + 1 - 0).toNat
  exact ⟨by rw [List.length_append, List.length_singleton]; omega, hs, u_out h e hr⟩
theorem s_false {ns order pre : List Int} {k j q : Int} (h : USt (sumsB ns k.toNat ++ sumsJ ns k.toNat pre.length) order) (ej : j = 0 + (pre.length : Int)) (hj : pre.length < (k + 1 - 0).toNat) (h0k : 0 ≤ k) (hk : k < ns.length)
    (h0 : 0 ≤ q) (hq : q < order.length) (he : order.getD q.toNat 0 = ns.getD j.toNat 0 + ns.getD k.toNat 0) : false = unl ns := u_false h ej hj h0k hk rfl h0 hq he
section
local macro_rules | `(tactic| k_mem) => `(tactic| assumption)
local macro_rules | `(tactic| k_enter) => `(tactic| (refine' code_def ?k1 ?k2 ?k3 ?k4 ?k5 ?kA ?kF ?kK ?k6 ?k7 ?k8 ?k9 ?kB ?_ ?c2 ?c3 ?c4 ?c5; (case kA => exact rfl); (case kF => exact rfl); (case kK => assumption); (case k1 => k_asm); (case k2 => k_asm); (case k3 => k_asm); (case k4 => k_asm); (case k5 => k_asm); (case k6 => k_is); (case k7 => k_is); (case k8 => ktr_room); (case k9 => first | exact BindsTo.of_eq rfl | exact binds_K (by k_in) rfl (by k_is) rfl rfl rfl | (refine' kp_binds ?kx ?ke; (case kx => k_in); (case ke => exact fun _ => rfl)) | fail "k_enter: no rule for these arguments"); (case c5 => decide); (case kB => exact locs rfl); (case c2 => exact rfl); (case c3 => exact rfl); (case c4 => exact rfl); k_whole; intro g' L' h' FG' F' N' B' X' T'; (try dsimp only); (try k_lift B'); (try k_fold)))
local macro_rules | `(tactic| walk_at "call ref") => `(tactic| (k_here; (with_reducible show wpAny _ _ (call (Value.ref 32) [Value.ref _, Value.int _ _]) _ _ _); k_dflt (refine' bisect2 ⟨?k1, ?k2, ?k3, ?k4, ?k5, ?k6, ?k7, ?k8⟩ ?l ?i ?n ?s ?_; (case k1 => k_asm); (case k2 => k_asm); (case k3 => k_asm); (case k4 => k_asm); (case k5 => k_asm); (case k6 => first | exact rfl | assumption); (case k7 => ktr_room); (case k8 => ktr_units); (case l => k_mem); (case i => assumption); (case n => omega); (case s => assumption)); k_whole; intro k9 t9 h9 tk9 hk0 hk1 hk2 hk3 F9 N9; (try dsimp only); (try k_fold)))
local macro_rules | `(tactic| walk_at "call ref") => `(tactic| (k_here; (with_reducible show wpAny _ _ (call (Value.ref 23) [Value.ref _, Value.int _ _]) _ _ _); k_dflt (refine' insort2 ⟨?k1, ?k2, ?k3, ?k4, ?k5, ?k6, ?k7, ?k8⟩ ?l ?u ?i ?n ?s ?_; (case k1 => k_asm); (case k2 => k_asm); (case k3 => k_asm); (case k4 => k_asm); (case k5 => k_asm); (case k6 => first | exact rfl | assumption); (case k7 => ktr_room); (case k8 => ktr_units); (case l => k_mem); (case u => intro o9; k_upd); (case i => assumption); (case n => omega); (case s => assumption)); k_whole; intro v9 h9 tk9 hI9 F9 N9; (try dsimp only); (try k_fold)))
local macro_rules | `(tactic| walk_at "call builtin:len") => `(tactic| (k_here; (with_reducible show wpAny _ _ (call (Value.builtin "len") [Value.ref _]) _ _ _); k_dflt (refine' len_ints_fit (my_isList ?k1 ?k2) ?k3 ?k4 ?_; (case k1 => k_asm); (case k2 => k_mem); (case k3 => assumption); (case k4 => omega); k_whole)))
local macro_rules | `(tactic| walk_at "subscriptTail Name Name ref int") => `(tactic| (k_here; (with_reducible show wpAny _ _ (subscriptTail _ _ (Value.ref _) (Value.int _ _)) _ _ _); (with_unfolding_all refine' item_list_ints (my_isList ?k1 ?k2) ?k3 ?k4 ?k5 ?k6 ?_; (case k1 => k_asm); (case k2 => k_mem); (case k3 => assumption); (case k4 => omega); (case k5 => omega); (case k6 => omega); k_whole); intro _))
local macro_rules | `(tactic| k_mem) => `(tactic| first | assumption | (refine List.mem_append.mpr (Or.inl ?_); k_mem))
local macro_rules | `(tactic| k_mem) => `(tactic| first | assumption | (refine List.mem_append.mpr (Or.inl ?_); k_mem))
local macro_rules | `(tactic| k_mem) => `(tactic| first | assumption | (refine List.mem_append.mpr (Or.inl ?_); k_mem))
local macro_rules | `(tactic| k_mem) => `(tactic| first | assumption | (refine List.mem_append.mpr (Or.inl ?_); k_mem))
variable {w : World} {mean : ExcName → Option Value} {mg mb : Str → Option Value} {dp un : Nat} {gd : Option (List Code)} {cn : Str} {cs : Scope} {a : Addr} {ccd : Value} {cl : List (Str × Addr)} {outer : List Env} {A₀ : Around} {base h₀ : Heap} {L : Addr} {m : Str → Option Value} {news : List (Addr × Obj)} {s : Shared} {Q E : Value → Shared → Prop}
theorem unlike1 (c : Cx w mean mg mb dp un cs outer A₀ base h₀ L m news s 3) {l : Addr} {vs : List Value} {ns : List Int} {nn : Nat}
   (hl : (l, W.listOf vs.toArray nn) ∈ news) (hI : IntsAre vs ns) (hlen : ns.length ≤ 6)
   (hret : ∀ (b : Bool) (h' : Heap) (tk' : Nat), b = unl ns → Fr h₀ L h' m → News h₀ L h' news → Q (.bool b) { s with heap := h', toks := tk' }) :
   wpAny (model PySem.Challenge.rw_gm0004_01.row.prog w) (ktrTop dp un gd cn cs L a ccd cl outer) (call (.ref 60) [.ref l]) Q E s := by
  have z0 : PySem.Challenge.rw_gm0004_01.row.prog = PySem.Challenge.rw_gm0004_01.row.prog ∧ hd.heap_39 = hd.heap_39 := by (k_fill; exact ⟨rfl, rfl⟩)
  clear z0
  obtain ⟨B, F, X, N, T, hk, hdp, hun⟩ := c
  refine wpAny_call ?_
  k_dflt k_enter
  k_with "state" => first | exact s_start _ | exact s_out (by assumption) (by assumption) (by assumption) (by assumption) (by assumption) (by assumption) | exact s_in0 (by assumption) (by assumption) (by assumption) (by assumption) | exact s_turnB (by assumption) (by assumption) (by assumption) (by assumption) (by assumption) (by assumption) (by assumption) (by assumption) | exact s_turnC (by assumption) (by assumption) (by assumption) (by assumption) (by assumption) (by assumption) (by assumption) (by assumption)
  k_with "pyIter ref" => k_of "k" => k_state (fun pre order => order.length ≤ 6 * pre.length ∧ order.Pairwise (· ≤ ·) ∧ USt (sumsB ns pre.length) order) "order"
  k_with "pyIter ref" => k_of "j" => k_state_given ["k"] (fun k pre order => (order.length : Int) ≤ 6 * k + pre.length ∧ order.Pairwise (· ≤ ·) ∧ USt (sumsB ns k.toNat ++ sumsJ ns k.toNat pre.length) order) "order"
  k_steps
  · exact hret _ _ _ (s_false (by assumption) (by assumption) (by assumption) (by omega) (by omega) (by assumption) (by assumption) (by assumption)) (by assumption) (cb_drop (by assumption) (fun p hp => by simp [hp]))
  · exact hret _ _ _ (u_true (by assumption) (rangeKs_length _ _)) (by assumption) (cb_drop (by assumption) (fun p hp => by simp [hp]))
end
end Mine

/-! part D0 -/
set_option maxRecDepth 100000
set_option maxHeartbeats 8000000
namespace Mine
/-! keys ('so', n, 'great') -/
section
variable (prog : Program) (w : World)
def mixIs : Str ⊕ Int → Value → Bool
  | .inl x, v => Value.isStrOf x v
  | .inr n, v => Value.isInt n v
def mixHash (w : World) : Str ⊕ Int → Int
  | .inl x => hashStr w x
  | .inr n => hashInt n
theorem mix_str {x : Str} {v : Value} (h : mixIs (.inl x) v = true) : ∃ t, v = .str x t := Value.isStrOf_shape h
theorem mix_int {n : Int} {v : Value} (h : mixIs (.inr n) v = true) : ∃ t, v = .int n t := Value.isInt_shape h
theorem mix_str' (x : Str) (t : Tok) : mixIs (.inl x) (.str x t) = true := by simp [mixIs, Value.isStrOf]
theorem mix_int' (n : Int) (t : Tok) : mixIs (.inr n) (.int n t) = true := by simp [mixIs, Value.isInt]
theorem mixEq {prog : Program} {w : World} {A : Around} {E : Value → Shared → Prop} {s : Shared} {a b : Str ⊕ Int} {u v : Value} {Q : Bool → Shared → Prop} (hu : mixIs a u = true) (hv : mixIs b v = true) (h : Q (decide (a = b)) s) :
    wpAny (model prog w) A (PySem.eqBool u v) Q E s := by
  cases a with
  | inl x =>
    obtain ⟨t, rfl⟩ := mix_str hu
    cases b with
    | inl y =>
      obtain ⟨t', rfl⟩ := mix_str hv
      exact wpAny_eqBool_str (by simpa using h)
    | inr n =>
      obtain ⟨t', rfl⟩ := mix_int hv
      rw [decide_eq_false (by intro q; cases q)] at h
      unfold eqBool
      show wpAny _ _ (if (Value.str x t == Value.int n t') = true then (rule "eq-bool.same-object" >>= fun _ => pure true) else (richCompare .Eq (Value.str x t) (Value.int n t') >>= fun v => truthOfDropped v)) Q E s
      rw [if_neg (fun q => by have := eq_of_beq q; cases this)]
      exact wpAny_bind (EqMixed.eq_str_int (wpAny_truthy_bool h))
  | inr n =>
    obtain ⟨t, rfl⟩ := mix_int hu
    cases b with
    | inl y =>
      obtain ⟨t', rfl⟩ := mix_str hv
      rw [decide_eq_false (by intro q; cases q)] at h
      unfold eqBool
      show wpAny _ _ (if (Value.int n t == Value.str y t') = true then (rule "eq-bool.same-object" >>= fun _ => pure true) else (richCompare .Eq (Value.int n t) (Value.str y t') >>= fun v => truthOfDropped v)) Q E s
      rw [if_neg (fun q => by have := eq_of_beq q; cases this)]
      exact wpAny_bind (EqMixed.eq_int_str (wpAny_truthy_bool h))
    | inr k =>
      obtain ⟨t', rfl⟩ := mix_int hv
      have e : decide ((Sum.inr n : Str ⊕ Int) = Sum.inr k) = (n == k) := by
        by_cases q : n = k
        · subst q; simp
        · simp [q]
      rw [e] at h
      exact wpAny_eqBool_int h
def mixKind : KeyKind prog w (Str ⊕ Int) where
  is := mixIs
  hash := mixHash w
  inj := fun v a b ha hb => by
    cases a with
    | inl x =>
      obtain ⟨t, rfl⟩ := mix_str ha
      cases b with
      | inl y => obtain ⟨t', e⟩ := mix_str hb; injection e with e; rw [e]
      | inr n => obtain ⟨t', e⟩ := mix_int hb; cases e
    | inr n =>
      obtain ⟨t, rfl⟩ := mix_int ha
      cases b with
      | inl y => obtain ⟨t', e⟩ := mix_str hb; cases e
      | inr k => obtain ⟨t', e⟩ := mix_int hb; injection e with e; rw [e]
  byValue := fun k v h => by
    cases k with
    | inl x => obtain ⟨t, rfl⟩ := mix_str h; rfl
    | inr n => obtain ⟨t, rfl⟩ := mix_int h; rfl
  pyHash := fun {A E s k v Q} hv h => by
    cases k with
    | inl x => obtain ⟨t, rfl⟩ := mix_str hv; exact wpAny_pyHash_str h
    | inr n => obtain ⟨t, rfl⟩ := mix_int hv; exact wpAny_pyHash_int h
  eqBool := fun hu hv h => mixEq hu hv h
  «strs» := fun k x t v h => by
    cases k with
    | inl y =>
      obtain ⟨t', e⟩ := mix_str h
      injection e with e
      subst e
      exact (isStr_of x v).symm
    | inr n => obtain ⟨t', e⟩ := mix_int h; cases e
def keyN (n : Int) : List (Str ⊕ Int) := [.inl (Str.ofString "so"), .inr n, .inl (Str.ofString "great")]
theorem keyN_inj {x y : Int} (h : keyN x = keyN y) : x = y := by
  unfold keyN at h
  injection h with _ h
  injection h with h _
  injection h
def soKind : HeapKind prog w Int where
  is := fun h n a => IsTupleKey (mixKind prog w) h (keyN n) a
  hash := fun n => tupleKeyHash (mixKind prog w) (keyN n)
  draws := fun _ => 4
  room := fun A => A.units < cLine
  inj := fun hx hy => keyN_inj (hx.inj hy)
  keeps := fun x ho hd hs => x.keeps ho hd hs
  pyHash := fun hu hk h => wpAny_pyHash_tuple hu hk h
  eqBool := fun {A E s x y a b Q} hu hx hy h => wpAny_eqBool_tuple hu hx hy (by
    have e : decide (keyN x = keyN y) = decide (x = y) := by
      by_cases q : x = y
      · subst q; simp
      · simp only [q, decide_false, decide_eq_false_iff_not]
        exact fun h => q (keyN_inj h)
    rw [e]; exact h)
  quiet := fun hk h => wpAny_eqIsQuiet_tuple hk h
end
def KeyObj (n : Int) (o : Obj) : Prop := o.cls = .type "tuple" ∧ ∃ t1 t2 t3 e, o.data = .seq #[.str (Str.ofString "so") t1, .int n t2, .str (Str.ofString "great") t3] e
theorem KeyObj.at {prog : Program} {w : World} {n : Int} {o : Obj} {h : Heap} {a : Addr} (k : KeyObj n o) (ho : h.get? a = some o) : (soKind prog w).is h n a := by
  obtain ⟨hc, t1, t2, t3, e, hd⟩ := k
  exact ⟨o, _, e, ho, hc, hd, .cons (mix_str' _ t1) (.cons (mix_int' n t2) (.cons (mix_str' _ t3) .nil))⟩

/-! a dict by its entries alone -/
def RawAt (h : Heap) (d : Addr) (es : Array DictEntry) (ep : Nat) : Prop := ∃ o, h.get? d = some o ∧ o.ExactDict ∧ o.data = .dict es ep
theorem RawAt.typeIs {s : Shared} {d es ep} (x : RawAt s.heap d es ep) : s.TypeIs (.ref d) "dict" := let ⟨o, ho, hc, _⟩ := x; ⟨o, ho, hc.1⟩
theorem RawAt.at {h h' : Heap} {d es ep} (x : RawAt h d es ep) (e : ∀ o, h.get? d = some o → h'.get? d = some o) : RawAt h' d es ep := let ⟨o, ho, r⟩ := x; ⟨o, e _ ho, r⟩
theorem RawAt.lt {h : Heap} {d es ep} (x : RawAt h d es ep) : d < h.objs.size := let ⟨_, ho, _⟩ := x; Heap.lt_size ho
theorem RawAt.noDict {h : Heap} {d es ep} (x : RawAt h d es ep) : ∀ b, Value.ref d = .ref b → ∃ ob, h.get? b = some ob ∧ ob.dict = none :=
  fun b e => by injection e with e; subst e; exact let ⟨o, ho, hc, _⟩ := x; ⟨o, ho, hc.2.1⟩
section
variable {prog : Program} {w : World} {A : Around} {E : Value → Shared → Prop} {s : Shared} {d : Addr} {es : Array DictEntry} {ep : Nat}
end
end Mine

/-! part D1 -/
set_option maxRecDepth 100000
set_option maxHeartbeats 8000000
namespace Mine
section
variable {prog : Program} {w : World} {A : Around} {E : Value → Shared → Prop} {s : Shared} {d : Addr} {es : Array DictEntry} {ep : Nat}
/-! the calls on a dict that is told by its entries alone -/
section
variable {h₀ : Heap} {L : Addr} {m : Str → Option Value} {news : List (Addr × Obj)}
/-- a new object on top: what stands below stays, the frame and the ledger too -/
theorem top_new {o : Obj} {P : Addr → Heap → Prop} (F : Fr h₀ L s.heap m) (N : News h₀ L s.heap news) (ho : o.isFreed = false)
    (h : ∀ v g, g.get? v = some o → (∀ p ∈ news, p.1 < v) → (∀ b o', s.heap.get? b = some o' → g.get? b = some o') → Fr h₀ L g m → News h₀ L g news → P v g) : P s.heap.objs.size (s.heap.push o) :=
  have up : ∀ b o', s.heap.get? b = some o' → (s.heap.push o).get? b = some o' := fun _ _ q => Heap.get?_push_of_some _ q
  h _ _ (Heap.get?_push_size _ ho) (fun p hp => Heap.lt_size (N p hp).1) up (F.keeps up) (N.grown up)
theorem raw_callItems {Q : Value → Shared → Prop} (hm : RawAt s.heap d es ep) (lo : (d == sysModules) = false) (F : Fr h₀ L s.heap m) (N : News h₀ L s.heap news)
    (h : ∀ v h', (∃ ov, h'.get? v = some ov ∧ ov.cls = .type "dict_items" ∧ ov.data = .fields #[.ref d]) → (∀ p ∈ news, p.1 < v) → (∀ b o, s.heap.get? b = some o → h'.get? b = some o) → Fr h₀ L h' m → News h₀ L h' news → Q (.ref v) { s with heap := h' }) :
    wpAny (model prog w) A (call (.builtin "dict.items") [.ref d]) Q E s := by
  refine wpAny_call_entry PySem.F.slot_dict_items hm.typeIs PySem.F.entry_dict_items ?_ (PySem.F.args_dict_items_1 _)
  wp_walk using wpAny_notOrdered_dict hm.typeIs, wpAny_newObj_type (T := "dict_items")
  exact ⟨_, rfl, top_new (P := fun v g => Q (.ref v) { s with heap := g }) F N rfl fun v g q => h v g ⟨_, q, rfl, rfl⟩⟩
theorem raw_callValues {Q : Value → Shared → Prop} (hm : RawAt s.heap d es ep) (lo : (d == sysModules) = false) (F : Fr h₀ L s.heap m) (N : News h₀ L s.heap news)
    (h : ∀ v h', h'.IsValuesView v d → (∀ p ∈ news, p.1 < v) → (∀ b o, s.heap.get? b = some o → h'.get? b = some o) → Fr h₀ L h' m → News h₀ L h' news → Q (.ref v) { s with heap := h' }) :
    wpAny (model prog w) A (call (.builtin "dict.values") [.ref d]) Q E s := by
  refine wpAny_call_entry PySem.F.slot_dict_values hm.typeIs PySem.F.entry_dict_values ?_ (PySem.F.args_dict_values_1 _)
  wp_walk using wpAny_notOrdered_dict hm.typeIs, wpAny_newObj_type (T := "dict_values")
  exact ⟨_, rfl, top_new (P := fun v g => Q (.ref v) { s with heap := g }) F N rfl fun v g q => h v g ⟨_, q, rfl, rfl⟩⟩
theorem raw_method {name : Str} {id : String} {pl : Sem Bool} {Q : Value × List Value → Shared → Prop} (slot : Slot "dict" name id) (hty : typeOf (.builtin id) = pure (.type "method_descriptor"))
    (hm : RawAt s.heap d es ep) (h : Q (.builtin id, [.ref d]) s) : wpAny (model prog w) A (getMethod (.ref d) name pl) Q E s :=
  getMethod_builtin hm.typeIs PySem.F.plainAttrs_dict slot hty hm.noDict h
theorem raw_len {Q : Value → Shared → Prop} (hm : RawAt s.heap d es ep) (lo : (d == sysModules) = false) (hfit : (es.size : Int) < 2 ^ 63)
    (h : Q (.int es.size (s.toks + 1)) { s with toks := s.toks + 1 + 1 }) : wpAny (model prog w) A (call (.builtin "len") [.ref d]) Q E s := by
  obtain ⟨od, hod, _, hdd⟩ := id hm
  refine Calls.call_function_entry kind_len plain_len entry_len (args_len1 _) ?_
  wp_walk using (wpAny_callSpecial?_slot (name := Str.ofString "__len__") hm.typeIs F.slot_dict_len), (wpAny_call_entry (rest := []) F.slot_dict_len hm.typeIs F.entry_dict_len (ha := F.args_dict_len_1 _)), wpAny_dictEntries hod hdd, (wpAny_pendingCount_other lo)
  rw [show ((es.size : Int) + ((0 : Nat) : Int)) = es.size from by omega]
  refine ⟨_, rfl, ?_⟩
  have h2 : ¬ ((es.size : Int) < 0) := by omega
  wp_walk
  rw [if_neg (show ¬ ((es.size : Int) ≥ 2 ^ 63) by omega)]
  wp_walk
  exact ⟨_, rfl, h⟩
end
/-! its values and its items, one by one: each step by the kit's wp_walk -/
/-- next(it) for an iterator of a class of the machine's own: what its __next__ does -/
theorem next_by {ty id : String} {b : Builtin} {it : Addr} {Q : Option Value → Shared → Prop} (hT : s.TypeIs (.ref it) ty) (sl : Slot ty "__next__" id) (en : entryFor table id = some b) (ar : argsOk id ⟨[.ref it], []⟩)
    (h : wpAny (model prog w) A.in1 (b ⟨[.ref it], []⟩) (fun r s₁ => ∃ v, r = .done (.ret v) ∧ Q (some v) s₁)
      (fun x s₁ => wpAny (model prog w) A (isInstance x (.type "StopIteration")) (fun c s₂ => if c = true then Q none s₂ else E x s₂) E s₁) s) :
    wpAny (model prog w) A (pyNext (.ref it)) Q E s := by
  unfold pyNext
  refine wpAny_bind (wpAny_attempt (wpAny_callSpecial?_slot (name := Str.ofString "__next__") hT sl (wpAny_call_entry sl hT en (wpAny_mono h (fun r s₁ q => ?_) fun x s₁ q => ?_) ar)))
  · obtain ⟨v, e, q⟩ := q
    exact ⟨v, e, wpAny_pure q⟩
  · refine wpAny_bind (wpAny_mono q (fun c s₂ q => ?_) fun _ _ q => q)
    cases c with
    | true => exact wpAny_pure (by simpa using q)
    | false => exact wpAny_throw (by simpa using q)
theorem raw_nextValue {it : Addr} {i : Nat} {e : DictEntry} {Q : Option Value → Shared → Prop} (hit : s.heap.IsValIter it d i es.size ep) (hm : RawAt s.heap d es ep) (hx : es[i]? = some e)
    (hQ : ∀ h', h'.IsValIter it d (i + 1) es.size ep → Heap.SameBut it s.heap h' → Q (some e.val) { s with heap := h' }) : wpAny (model prog w) A (pyNext (.ref it)) Q E s := by
  have hT := hit.typeIs
  obtain ⟨o, ho, hc, hd⟩ := id hit
  obtain ⟨od, hod, _, hdd⟩ := id hm
  refine next_by hT F.slot_dict_valueiterator_next F.entry_dict_valueiterator_next (F.args_dict_valueiterator_next_1 _) ?_
  wp_walk using wpAny_typeNameOfWhole_valiter hT, wpAny_isOneOf_valiter hT, wpAny_fieldsOf ho hd, wpAny_dictEntries hod hdd, wpAny_dictEpoch hod hdd
  rw [show (if (i : Int) < 0 then none else es[(i : Int).toNat]?) = some e from by rw [if_neg (by omega), Int.toNat_natCast, hx]]
  dsimp only
  wp_walk using wpAny_typeNameOfWhole_valiter hT, wpAny_isOneOf_valiter hT, wpAny_setField ho hd
  · show 0 + 1 < 4; decide
  generalize hg : s.heap.update it _ = g
  have hI : g.IsValIter it d (i + 1) es.size ep := by
    refine ⟨_, hg ▸ Heap.get?_update_self _ ho (Obj.isFreed_of_fields (Obj.data_mapFields hd _)), (Obj.cls_mapFields ..).trans hc, ?_⟩
    rw [Obj.data_mapFields hd, if_neg (show ¬ Builtin.Dict_items.ownsTuple "dict_valueiterator" = true by decide), if_neg (by decide)]; rfl
  have hS : Heap.SameBut it s.heap g := hg ▸ Heap.SameBut.update ..
  have hT' : Shared.TypeIs { s with heap := g } (.ref it) "dict_valueiterator" := Heap.IsValIter.typeIs (s := { s with heap := g }) hI
  wp_walk using wpAny_isOneOf_valiter hT'
  exact ⟨_, rfl, hQ g hI hS⟩
theorem raise_stop {α : Type} {Q : α → Shared → Prop} (hh : A.handled = none)
    (h : ∀ g a, (∀ b o, s.heap.get? b = some o → g.get? b = some o) → Shared.TypeIs { s with heap := g } (.ref a) "StopIteration" → E (.ref a) { s with heap := g }) :
    wpAny (model prog w) A (newExc (.type "StopIteration") [] >>= fun x => raiseNew x) Q E s := by
  have e : firstArgMember (.type "StopIteration") [] = pure Value.none := rfl
  wp_walk using (wpAny_newTuple (items := [])), (wpAny_newObj_type (T := "StopIteration"))
  unfold raiseNew
  wp_walk
  exact h _ _ (fun b o q => Heap.get?_push_of_some _ (Heap.get?_push_of_some _ q)) ⟨_, Heap.get?_push_size _ rfl, rfl⟩
theorem raw_endValues {it : Addr} {Q : Option Value → Shared → Prop} (hh : A.handled = none) (hit : s.heap.IsValIter it d es.size es.size ep) (hm : RawAt s.heap d es ep)
    (hQ : ∀ h', Heap.ExtBut it s.heap h' → Q none { s with heap := h' }) : wpAny (model prog w) A (pyNext (.ref it)) Q E s := by
  have hT := hit.typeIs
  obtain ⟨o, ho, hc, hd⟩ := id hit
  obtain ⟨od, hod, _, hdd⟩ := id hm
  refine next_by hT F.slot_dict_valueiterator_next F.entry_dict_valueiterator_next (F.args_dict_valueiterator_next_1 _) ?_
  wp_walk using wpAny_typeNameOfWhole_valiter hT, wpAny_isOneOf_valiter hT, wpAny_fieldsOf ho hd, wpAny_dictEntries hod hdd, wpAny_dictEpoch hod hdd
  rw [show (if (es.size : Int) < 0 then none else es[(es.size : Int).toNat]?) = none from by simp]
  dsimp only
  wp_walk using wpAny_typeNameOfWhole_valiter hT, wpAny_setField ho hd
  · show 0 < 4; decide
  refine raise_stop (A := A.in1) hh fun g a hg hx => wpAny_isInstance (b := true) hx isSubtype_stop ?_
  simpa using hQ g fun b o' hb q => hg b o' (Heap.get?_update_of_ne _ (Ne.symm hb) q)
theorem raw_iterValues {v : Addr} {Q : Value → Shared → Prop} (hv : s.heap.IsValuesView v d) (hm : RawAt s.heap d es ep)
    (hQ : Q (.ref s.heap.objs.size) { s with heap := s.heap.push { cls := .type "dict_valueiterator", data := .fields #[.ref d, .int 0 0, .int es.size 0, .int ep 0] } }) :
    wpAny (model prog w) A (pyIter (.ref v)) Q E s := by
  have hT := hv.typeIs
  obtain ⟨o, ho, _, hd⟩ := hv
  obtain ⟨od, hod, _, hdd⟩ := hm
  refine wpAny_pyIter_slot hT F.slot_dict_values_iter (wpAny_call_entry F.slot_dict_values_iter hT F.entry_dict_values_iter ?_ (F.args_dict_values_iter_1 _))
  wp_walk using (wpAny_field ho hd (i := 0) rfl), wpAny_dictEntries hod hdd, wpAny_dictEpoch hod hdd, wpAny_newObj_type (T := "dict_valueiterator")
  exact ⟨_, rfl, "dict_valueiterator", _, ⟨_, Heap.get?_push_size _ rfl, rfl⟩, F.slot_dict_valueiterator_next.lookup, hQ⟩
theorem raw_iterItems {v : Addr} {Q : Value → Shared → Prop} (hv : s.heap.IsItemsView v d) (hm : RawAt s.heap d es ep)
    (hQ : Q (.ref s.heap.objs.size) { s with heap := s.heap.push { cls := .type "dict_itemiterator", data := .fields #[.none, .bool false, .ref d, .int 0 0, .int es.size 0, .int ep 0, .none, .none] } }) :
    wpAny (model prog w) A (pyIter (.ref v)) Q E s := by
  have hT := hv.typeIs
  obtain ⟨o, ho, _, hd⟩ := hv
  obtain ⟨od, hod, _, hdd⟩ := hm
  refine wpAny_pyIter_slot hT F.slot_dict_items_iter (wpAny_call_entry F.slot_dict_items_iter hT F.entry_dict_items_iter ?_ (F.args_dict_items_iter_1 _))
  wp_walk using (wpAny_field ho hd (i := 0) rfl), wpAny_dictEntries hod hdd, wpAny_dictEpoch hod hdd, wpAny_newObj_type (T := "dict_itemiterator")
  exact ⟨_, rfl, "dict_itemiterator", _, ⟨_, Heap.get?_push_size _ rfl, rfl⟩, F.slot_dict_itemiterator_next.lookup, hQ⟩
theorem raw_endItems {it : Addr} {ok ov : Value} {Q : Option Value → Shared → Prop} (hh : A.handled = none) (hit : IsItemIter s.heap it d es.size es.size ep ok ov) (hm : RawAt s.heap d es ep)
    (hQ : ∀ h', Heap.ExtBut it s.heap h' → Q none { s with heap := h' }) : wpAny (model prog w) A (pyNext (.ref it)) Q E s := by
  have hT : s.TypeIs (.ref it) "dict_itemiterator" := ⟨_, hit, rfl⟩
  obtain ⟨od, hod, _, hdd⟩ := hm
  refine next_by hT F.slot_dict_itemiterator_next F.entry_dict_itemiterator_next (F.args_dict_itemiterator_next_1 _) ?_
  wp_walk using wpAny_typeNameOfWhole_itemiter hT, wpAny_isOneOf_itemiter hT, wpAny_fieldsOf hit rfl, wpAny_dictEntries hod hdd, wpAny_dictEpoch hod hdd
  rw [show (if (es.size : Int) < 0 then none else es[(es.size : Int).toNat]?) = none from by simp]
  dsimp only
  wp_walk using wpAny_typeNameOfWhole_itemiter hT, wpAny_setField hit rfl
  · show 2 < 8; decide
  refine raise_stop (A := A.in1) hh fun g a hg hx => wpAny_isInstance (b := true) hx isSubtype_stop ?_
  simpa using hQ g fun b o' hb q => hg b o' (Heap.get?_update_of_ne _ (Ne.symm hb) q)
theorem pair_own {it : Addr} {i n : Nat} {k v ok ov : Value} {Q : Value → Shared → Prop} (he : IsItemIter s.heap it d i n ep ok ov)
    (h : ∀ g, IsItemIterOut g it d i n ep k v s.heap.objs.size → g.get? s.heap.objs.size = some { cls := .type "tuple", data := .seq #[k, v] } → g.objs.size = s.heap.objs.size + 1 →
      (∀ b o, b ≠ it → s.heap.get? b = some o → g.get? b = some o) → Q (.ref s.heap.objs.size) { s with heap := g }) :
    wpAny (model prog w) A (Builtin.Dict_items.pairFromOwner (.ref it) 6 k v) Q E s := by
  have hl : it < s.heap.objs.size := Heap.lt_size he
  obtain ⟨hp, gs, dr, tk, os⟩ := s
  wp_walk using (wpAny_newTuple (items := [k, v]))
  generalize hg : hp.push _ = g
  have hI : IsItemIter g it d i n ep ok ov := hg ▸ Heap.get?_push_of_some _ he
  have keep : ∀ (f₁ f₂ f₃ f₄ : Obj → Obj) b o, b ≠ it → g.get? b = some o → ((((g.update it f₁).update it f₂).update it f₃).update it f₄).get? b = some o := fun f₁ f₂ f₃ f₄ b o hb q =>
    Heap.get?_update_of_ne f₄ (Ne.symm hb) (Heap.get?_update_of_ne f₃ (Ne.symm hb) (Heap.get?_update_of_ne f₂ (Ne.symm hb) (Heap.get?_update_of_ne f₁ (Ne.symm hb) q)))
  refine h _ (Heap.get?_update_self _ (Heap.get?_update_self _ (Heap.get?_update_self _ (Heap.get?_update_self _ hI rfl) rfl) rfl) rfl)
    (keep _ _ _ _ _ _ (Nat.ne_of_gt hl) (hg ▸ Heap.get?_push_size _ rfl)) ?_ fun b o hb q => keep _ _ _ _ b o hb (hg ▸ Heap.get?_push_of_some _ q)
  simp only [Heap.size_after_update]
  rw [← hg, Heap.size_push]
theorem raw_nextItem {it : Addr} {i : Nat} {e : DictEntry} {ok ov : Value} {Q : Option Value → Shared → Prop} (hit : IsItemIter s.heap it d i es.size ep ok ov) (hm : RawAt s.heap d es ep) (hx : es[i]? = some e)
    (hQ : ∀ h', IsItemIterOut h' it d (i + 1) es.size ep e.key e.val s.heap.objs.size → h'.get? s.heap.objs.size = some { cls := .type "tuple", data := .seq #[e.key, e.val] } → h'.objs.size = s.heap.objs.size + 1 →
      (∀ b o, b ≠ it → s.heap.get? b = some o → h'.get? b = some o) → Q (some (.ref s.heap.objs.size)) { s with heap := h' }) :
    wpAny (model prog w) A (pyNext (.ref it)) Q E s := by
  have hT : s.TypeIs (.ref it) "dict_itemiterator" := ⟨_, hit, rfl⟩
  obtain ⟨od, hod, _, hdd⟩ := hm
  refine next_by hT F.slot_dict_itemiterator_next F.entry_dict_itemiterator_next (F.args_dict_itemiterator_next_1 _) ?_
  wp_walk using wpAny_typeNameOfWhole_itemiter hT, wpAny_isOneOf_itemiter hT, wpAny_fieldsOf hit rfl, wpAny_dictEntries hod hdd, wpAny_dictEpoch hod hdd
  rw [show (if (i : Int) < 0 then none else es[(i : Int).toNat]?) = some e from by rw [if_neg (by omega), Int.toNat_natCast, hx]]
  dsimp only
  wp_walk using wpAny_typeNameOfWhole_itemiter hT, wpAny_isOneOf_itemiter hT, wpAny_setField hit rfl
  · show 2 + 1 < 8; decide
  generalize hg : s.heap.update it _ = g
  have hI : IsItemIter g it d (i + 1) es.size ep ok ov := by
    have q := Heap.get?_update_self (Obj.mapFields (·.setIfInBounds 3 (.int ((i : Int) + 1) 0))) hit rfl
    rw [if_pos (show Builtin.Dict_items.ownsTuple "dict_itemiterator" = true by decide), if_neg (by decide)] at hg
    rw [← hg]; exact q
  have hS : Heap.SameBut it s.heap g := hg ▸ Heap.SameBut.update ..
  have hT' : Shared.TypeIs { s with heap := g } (.ref it) "dict_itemiterator" := ⟨_, hI, rfl⟩
  have hz : g.objs.size = s.heap.objs.size := hS.1
  wp_walk using wpAny_isOneOf_itemiter hT', (pair_own (s := { s with heap := g }) hI)
  intro g' a1 a2 a3 a4
  wp_walk
  rw [hz] at a1 a2 a3 ⊢
  exact ⟨_, rfl, hQ g' a1 a2 a3 fun b o hb q => a4 b o hb (hS.extBut b o hb q)⟩
theorem off_one {I b : Addr} (h : b ∉ [I]) : b ≠ I := fun e => h (e ▸ .head _)
theorem raw_walkValues (hh : A.handled = none) (I d : Addr) (hne : d ≠ I) (es : Array DictEntry) (ep : Nat) :
    Walks prog w A I [I, d] [I] es.size (fun i v => ∃ e, es[i]? = some e ∧ v = e.val) (fun i h => h.IsValIter I d i es.size ep ∧ RawAt h d es ep) where
  sub := List.forall_mem_singleton.mpr (.head _)
  frame := fun _ _ _ st hk => ⟨st.1.at (hk I (.head _)), st.2.at (hk d (.tail _ (.head _)))⟩
  item := fun _ s _ _ hi st hQ => raw_nextValue st.1 st.2 (Array.getElem?_eq_getElem hi) fun g a b =>
    hQ _ g s.toks ⟨_, Array.getElem?_eq_getElem hi, rfl⟩ ⟨a, st.2.at fun o => b.extBut d o hne⟩ fun c o hc => b.extBut c o (off_one hc)
  done := fun s _ _ st hQ => raw_endValues hh st.1 st.2 fun g a => hQ g s.toks fun c o hc => a c o (off_one hc)
  self := fun _ _ _ _ st => wpAny_pyIter_valiter st.1
theorem raw_itemsTurns {elts : List Expr} {kk : Nat} {pos : Pos} (hh : A.handled = none) (I d : Addr) (hne : d ≠ I) (es : Array DictEntry) (ep : Nat) :
    KTurns prog w A (.Tuple elts kk pos) I [I, d] [I] es.size
      (fun i v h => ∃ T e, v = .ref T ∧ es[i]? = some e ∧ h.IsTuple T #[e.key, e.val])
      (fun i v h => ∃ T e ok ov, (v = .ref T ∧ es[i]? = some e ∧ T ≠ I) ∧ h.IsTuple T #[e.key, e.val] ∧ IsItemIterOut h I d (i + 1) es.size ep ok ov T ∧ RawAt h d es ep)
      (fun i h => (∃ ok ov, IsItemIter h I d i es.size ep ok ov) ∧ RawAt h d es ep) where
  sub := List.forall_mem_singleton.mpr (.head _)
  frame := fun _ _ _ ⟨⟨ok, ov, a⟩, b⟩ hk => ⟨⟨ok, ov, hk I (.head _) _ a⟩, b.at (hk d (.tail _ (.head _)))⟩
  item := fun _ s _ _ hi ⟨⟨_, _, a⟩, b⟩ hQ => raw_nextItem a b (Array.getElem?_eq_getElem hi) fun g c t _ k =>
    hQ (.ref s.heap.objs.size) g s.toks ⟨_, _, _, _, ⟨rfl, Array.getElem?_eq_getElem hi, Nat.ne_of_gt (Heap.lt_size a)⟩, ⟨_, t, rfl, _, rfl⟩, c, b.at fun o => k d o hne⟩ fun x o hx => k x o (off_one hx)
  go := fun i v s Q E st hQ => by
    obtain ⟨T, e, ok, ov, q, t, a, b⟩ := st
    rw [q.1] at hQ ⊢
    exact wpAny_letOwnedTupleGo_items a fun g c k => hQ g ⟨T, e, rfl, q.2.1, t.at fun o => k.extBut T o q.2.2⟩ ⟨⟨ok, ov, c⟩, b.at fun o => k.extBut d o hne⟩ fun x o hx => k.extBut x o (off_one hx)
  done := fun s _ _ ⟨⟨_, _, a⟩, b⟩ hQ => raw_endItems hh a b fun g k => hQ g s.toks fun x o hx => k x o (off_one hx)
end
end Mine

/-! part D2 -/
set_option maxRecDepth 100000
set_option maxHeartbeats 8000000
namespace Mine
/-! a table as plain data: keys and counts, in order -/
def hasT (T : List (Int × Int)) (n : Int) : Bool := T.any fun p => decide (p.1 = n)
def lookT (T : List (Int × Int)) (n : Int) : Int := ((T.find? fun p => decide (p.1 = n)).map (·.2)).getD 0
def putT (T : List (Int × Int)) (n v : Int) : List (Int × Int) := if hasT T n then T.map (fun p => if p.1 = n then (p.1, v) else p) else T ++ [(n, v)]
def bumpT (T : List (Int × Int)) (n c : Int) : List (Int × Int) := if hasT T n then putT T n (lookT T n + c) else putT T n c
theorem putT_length (T : List (Int × Int)) (n v : Int) : (putT T n v).length ≤ T.length + 1 := by
  unfold putT; split <;> simp
theorem bumpT_length (T : List (Int × Int)) (n c : Int) : (bumpT T n c).length ≤ T.length + 1 := by
  unfold bumpT; split <;> exact putT_length _ _ _

inductive TabVals : List (Int × Addr × Value) → List (Int × Int) → Prop
  | nil : TabVals [] []
  | cons (n : Int) (a : Addr) (c : Int) (t : Tok) {xs : List (Int × Addr × Value)} {T : List (Int × Int)} : TabVals xs T → TabVals ((n, a, .int c t) :: xs) ((n, c) :: T)
namespace TabVals
variable {xs : List (Int × Addr × Value)} {T : List (Int × Int)}
theorem length (h : TabVals xs T) : xs.length = T.length := by
  induction h with
  | nil => rfl
  | cons _ _ _ _ _ ih => simp [ih]
theorem keys (h : TabVals xs T) : xs.map (·.1) = T.map (·.1) := by
  induction h with
  | nil => rfl
  | cons _ _ _ _ _ ih => simp [ih]
theorem allInts (h : TabVals xs T) : IntsAre (xs.map (·.2.2)) (T.map (·.2)) := by
  induction h with
  | nil => exact .nil
  | cons n a c t _ ih => exact .cons c t ih
theorem atNone (h : TabVals xs T) {n : Int} (hn : hasT T n = false) : atKey xs n = none := by
  induction h with
  | nil => rfl
  | cons k a c t _ ih =>
    simp only [hasT, List.any_cons, Bool.or_eq_false_iff, decide_eq_false_iff_not] at hn
    have := ih (by simpa [hasT] using hn.2)
    simpa [atKey, List.find?_cons, hn.1] using this
theorem atSome (h : TabVals xs T) {n : Int} (hn : hasT T n = true) : ∃ a t, atKey xs n = some (a, .int (lookT T n) t) := by
  induction h with
  | nil => simp [hasT] at hn
  | cons k a c t _ ih =>
    by_cases hk : k = n
    · exact ⟨a, t, by simp [atKey, lookT, hk]⟩
    · obtain ⟨a', t', e⟩ := ih (by simpa [hasT, hk] using hn)
      exact ⟨a', t', by simpa [atKey, lookT, List.find?_cons, hk] using e⟩
theorem isSome (h : TabVals xs T) (n : Int) : (atKey xs n).isSome = hasT T n := by
  cases q : hasT T n with
  | false => rw [h.atNone q]; rfl
  | true => obtain ⟨a, t, e⟩ := h.atSome q; rw [e]; rfl
theorem snoc (h : TabVals xs T) (n : Int) (a : Addr) (v : Int) (t : Tok) : TabVals (xs ++ [(n, a, .int v t)]) (T ++ [(n, v)]) := by
  induction h with
  | nil => exact .cons n a v t .nil
  | cons k b c u _ ih => exact .cons k b c u ih
theorem mapPut (h : TabVals xs T) (n : Int) (v : Int) (t : Tok) : TabVals (xs.map (putAt n (.int v t))) (T.map fun p => if p.1 = n then (p.1, v) else p) := by
  induction h with
  | nil => exact .nil
  | cons k b c u _ ih =>
    by_cases hk : k = n
    · simp only [List.map_cons, putAt, hk, if_true]; exact .cons n b v t (by simpa [putAt] using ih)
    · simp only [List.map_cons, putAt, hk, if_false]; exact .cons k b c u (by simpa [putAt] using ih)
theorem stored (h : TabVals xs T) (n : Int) (a : Addr) (v : Int) (t : Tok) : TabVals (storedH xs n a (.int v t)) (putT T n v) := by
  unfold storedH putT
  rw [h.isSome n]
  split
  · exact h.mapPut n v t
  · exact h.snoc n a v t
theorem get (h : TabVals xs T) {i : Nat} {x : Int × Addr × Value} (hx : xs[i]? = some x) : ∃ c t, x.2.2 = .int c t ∧ T[i]? = some (x.1, c) := by
  induction h generalizing i with
  | nil => simp at hx
  | cons k b c u _ ih =>
    cases i with
    | zero => simp at hx; subst hx; exact ⟨c, u, rfl, by simp⟩
    | succ i => simpa using ih (by simpa using hx)
end TabVals

/-! a table as an object of the ledger -/
def TabObj (prog : Program) (w : World) (o : Obj) (xs : List (Int × Addr × Value)) : Prop :=
  o.ExactDict ∧ ∃ es ep, o.data = .dict es ep ∧ es.toList = xs.map (entryOfKey (soKind prog w)) ∧ (xs.map (·.1)).Nodup
def TabKeys (kn : List (Addr × Obj)) (xs : List (Int × Addr × Value)) : Prop := ∀ x ∈ xs, ∃ ok, (x.2.1, ok) ∈ kn ∧ KeyObj x.1 ok
def Tab (prog : Program) (w : World) (kn : List (Addr × Obj)) (o : Obj) (T : List (Int × Int)) : Prop := ∃ xs, TabObj prog w o xs ∧ TabKeys kn xs ∧ TabVals xs T
theorem TabKeys.mono {kn kn' : List (Addr × Obj)} {xs : List (Int × Addr × Value)} (h : TabKeys kn xs) (hs : ∀ p ∈ kn, p ∈ kn') : TabKeys kn' xs :=
  fun x hx => let ⟨ok, hm, hk⟩ := h x hx; ⟨ok, hs _ hm, hk⟩
theorem Tab.mono {prog : Program} {w : World} {kn kn' : List (Addr × Obj)} {o : Obj} {T : List (Int × Int)} (h : Tab prog w kn o T) (hs : ∀ p ∈ kn, p ∈ kn') : Tab prog w kn' o T :=
  let ⟨xs, a, b, c⟩ := h; ⟨xs, a, b.mono hs, c⟩
theorem Tab.empty {prog : Program} {w : World} {kn : List (Addr × Obj)} {o : Obj} {K : Type} [DecidableEq K] {knd : KeyKind prog w K} (hd : o.IsDictOf knd []) : Tab prog w kn o [] := by
  obtain ⟨es, ep, hc, hdat, _, hp, _⟩ := hd
  have he : es.toList = [] := List.length_eq_zero_iff.mp hp.length
  exact ⟨[], ⟨hc, es, ep, hdat, he, List.nodup_nil⟩, fun _ h => by simp at h, .nil⟩
section
variable {prog : Program} {w : World} {A : Around} {E : Value → Shared → Prop} {s : Shared} {h₀ : Heap} {L d a : Addr} {m : Str → Option Value} {news kn : List (Addr × Obj)} {o ok : Obj} {T : List (Int × Int)} {n : Int}
theorem TabObj.dictOf {h : Heap} {xs : List (Int × Addr × Value)} (t : TabObj prog w o xs) (k : TabKeys kn xs) (N : News h₀ L h news) (hm : (d, o) ∈ news) (hs : ∀ p ∈ kn, p ∈ news) : h.DictOfH (soKind prog w) d xs := by
  obtain ⟨hc, es, ep, hd, he, hn⟩ := t
  exact ⟨o, es, ep, N.get hm, hc, hd, he, fun x hx => let ⟨ok, hk, q⟩ := k x hx; q.at (N.get (hs _ hk)), hn⟩
theorem TabObj.raw {h : Heap} {xs : List (Int × Addr × Value)} (t : TabObj prog w o xs) (ho : h.get? d = some o) : ∃ es ep, RawAt h d es ep ∧ es.toList = xs.map (entryOfKey (soKind prog w)) := by
  obtain ⟨hc, es, ep, hd, he, _⟩ := t
  exact ⟨es, ep, ⟨o, ho, hc, hd⟩, he⟩
theorem tab_in {Q : Value → Shared → Prop} (hu : A.units + 1 < cLine) (lo : (d == sysModules) = false) (N : News h₀ L s.heap news) (hm : (d, o) ∈ news) (hs : ∀ p ∈ kn, p ∈ news) (t : Tab prog w kn o T) (hk : (a, ok) ∈ kn) (k : KeyObj n ok)
    (h : Q (.bool (hasT T n)) { s with toks := s.toks + 4 }) : wpAny (model prog w) A (compareOp .In (.ref a) (.ref d)) Q E s := by
  obtain ⟨xs, t1, t2, t3⟩ := t
  refine wpAny_in_heap (knd := soKind prog w) (k := n) hu (k.at (N.get (hs _ hk))) lo (t1.dictOf t2 N hm hs) ?_
  rw [t3.isSome]; exact h
theorem tab_item {Q : Value → Shared → Prop} (hu : A.units + 1 < cLine) (N : News h₀ L s.heap news) (hm : (d, o) ∈ news) (hs : ∀ p ∈ kn, p ∈ news) (t : Tab prog w kn o T) (hk : (a, ok) ∈ kn) (k : KeyObj n ok) (hh : hasT T n = true)
    (h : ∀ tk, Q (.int (lookT T n) tk) { s with toks := s.toks + 4 }) : wpAny (model prog w) A (getItem (.ref d) (.ref a)) Q E s := by
  obtain ⟨xs, t1, t2, t3⟩ := t
  obtain ⟨a', tk, e⟩ := t3.atSome hh
  exact wpAny_getItem_heap (knd := soKind prog w) (k := n) hu (k.at (N.get (hs _ hk))) (t1.dictOf t2 N hm hs) e (h tk)
theorem tab_set {Q : Unit → Shared → Prop} {v : Int} {tk : Tok} {gU : Obj → List (Addr × Obj)} (hu : A.units + 1 < cLine) (F : Fr h₀ L s.heap m) (N : News h₀ L s.heap news) (U : UpdF d o news gU) (hs : ∀ p ∈ kn, p ∈ news) (t : Tab prog w kn o T) (hk : (a, ok) ∈ kn) (k : KeyObj n ok) (hsz : T.length ≤ sizeLine)
    (h : ∀ h' o', Fr h₀ L h' m → News h₀ L h' (gU o') → Tab prog w kn o' (putT T n v) → Q () { s with heap := h', toks := s.toks + 4 }) :
    wpAny (model prog w) A (setItem (.ref d) (.ref a) (.int v tk)) Q E s := by
  obtain ⟨pre, post, hl, hg, ha, hb⟩ := U.split
  have hm : (d, o) ∈ news := by rw [hl]; exact List.mem_append_right _ (.head _)
  obtain ⟨xs, t1, t2, t3⟩ := t
  refine wpAny_setItem_heap (knd := soKind prog w) (k := n) (hsz := by rw [t3.length]; exact hsz) hu (k.at (N.get (hs _ hk))) (t1.dictOf t2 N hm hs) fun h' hm' hs' => ?_
  obtain ⟨o', es', ep', ho', hc', hd', he', _, hn'⟩ := hm'
  refine h h' o' (F.change hs' (N _ hm).2.1 (N _ hm).2.2) ?_ ⟨_, ⟨hc', es', ep', hd', he', hn'⟩, fun x hx => ?_, t3.stored n a v tk⟩
  · rw [hg]
    exact (show News h₀ L s.heap (pre ++ (d, o) :: post) from hl ▸ N).setIn ha hb hs' ho'
  · rcases mem_storedH hx with ⟨y, hy, e1, e2⟩ | ⟨e1, e2⟩
    · rw [e1, e2]; exact t2 y hy
    · rw [e1, e2]; exact ⟨ok, hk, k⟩
theorem tab_len {Q : Value → Shared → Prop} (lo : (d == sysModules) = false) (N : News h₀ L s.heap news) (hm : (d, o) ∈ news) (t : Tab prog w kn o T) (hfit : T.length < 2 ^ 62)
    (h : Q (.int T.length (s.toks + 1)) { s with toks := s.toks + 1 + 1 }) : wpAny (model prog w) A (call (.builtin "len") [.ref d]) Q E s := by
  obtain ⟨xs, t1, t2, t3⟩ := t
  obtain ⟨es, ep, r, he⟩ := t1.raw (N.get hm)
  have hz : es.size = T.length := by rw [← Array.length_toList, he, List.length_map, t3.length]
  exact raw_len r lo (by rw [hz]; omega) (by rw [hz]; exact h)
end
end Mine

/-! part D3 -/
set_option maxRecDepth 100000
set_option maxHeartbeats 8000000
namespace Mine
def TurnEnd (h₀ : Heap) (L : Addr) (s : Shared) (I : Addr) (oI : Obj) (d : Addr) (od : Obj) (J : (Str → Option Value) → List (Addr × Obj) → Prop) (s₃ : Shared) : Prop :=
  ∃ h' tk m' n', s₃ = { s with heap := h', toks := tk } ∧ Fr h₀ L h' m' ∧ News h₀ L h' ((I, oI) :: n') ∧ (∀ p ∈ n', p.1 ≠ I) ∧ (d, od) ∈ n' ∧ J m' n'
def TurnPost (h₀ : Heap) (L : Addr) (s : Shared) (I : Addr) (oI : Obj) (d : Addr) (od : Obj) (J : (Str → Option Value) → List (Addr × Obj) → Prop) (Q : Flow → Shared → Prop) (f : Flow) (s₃ : Shared) : Prop :=
  match f with
  | .ret v => Q (.ret v) s₃
  | .brk => Q .next s₃
  | _ => TurnEnd h₀ L s I oI d od J s₃
section
variable {prog : Program} {w : World} {A : Around} {E : Value → Shared → Prop} {s : Shared} {env : Env} {h₀ : Heap} {body : List Stmt} {Q : Flow → Shared → Prop}
theorem subL_one {p : Addr × Obj} {l : List (Addr × Obj)} (h : p ∈ l) : SubL [p] l := ⟨h, trivial⟩
abbrev itmOf (x : Int × Addr × Value) : Itm := .pair (fun _ => .ref x.2.1) x.2.2
theorem turns_rest {X : Type} {itm : X → Itm} {ty : String} {target : Expr} {d : Addr} {od : Obj} {I : Addr} {xs : List X} (J : Nat → (Str → Option Value) → List (Addr × Obj) → Prop)
    (turn : ∀ i x m₁ n₁ v h tk oI, xs[i]? = some x → J i m₁ n₁ → (itm x).Is v h → Fr h₀ env.locals h m₁ → News h₀ env.locals h ((I, oI) :: n₁) →
      wpAny (model prog w) A (assign target env v) (fun _ s₂ => wpAny (model prog w) A (execs body env) (TurnPost h₀ env.locals s I oI d od (J (i + 1)) Q) E s₂) E { s with heap := h, toks := tk })
    (done : ∀ h' tk m' n', Fr h₀ env.locals h' m' → News h₀ env.locals h' n' → J xs.length m' n' → Q .next { s with heap := h', toks := tk }) :
    ∀ (ys : List X) (i : Nat) (m₁ : Str → Option Value) (n₁ : List (Addr × Obj)), xs.drop i = ys → i ≤ xs.length → J i m₁ n₁ →
      ItemsRest prog w A E h₀ env target body Q s [(I, ty)] [(d, od)] (ys.map itm) m₁ n₁ := by
  intro ys
  induction ys with
  | nil =>
    intro i m₁ n₁ hd hi hJ h tk F N
    have : i = xs.length := by
      have := congrArg List.length hd
      simp only [List.length_drop, List.length_nil] at this
      omega
    exact done h tk m₁ n₁ F N (this ▸ hJ)
  | cons x ys ih =>
    intro i m₁ n₁ hd hi hJ v h tk hv F
    have hx : xs[i]? = some x := by
      have := congrArg (fun l => l[0]?) hd
      simpa [List.getElem?_drop] using this
    have hlt : i < xs.length := (List.getElem?_eq_some_iff.mp hx).1
    have hd' : xs.drop (i + 1) = ys := by
      have := congrArg List.tail hd
      simpa [List.tail_drop] using this
    intro oI hc N
    refine wpAny_mono (turn i x m₁ n₁ v h tk oI hx hJ hv F N) (fun _ s₂ h₂ => wpAny_mono h₂ (fun f s₃ h₃ => ?_) fun _ _ e => e) fun _ _ e => e
    have fin : TurnEnd h₀ env.locals s I oI d od (J (i + 1)) s₃ → UnrEndW h₀ env.locals { s with heap := h, toks := tk } [(I, oI)] (fun m' n' => SubL [(d, od)] n' ∧ ItemsRest prog w A E h₀ env target body Q s [(I, ty)] [(d, od)] (ys.map itm) m' n') s₃ := by
      rintro ⟨h', tk', m', n', e, F', N', hoff, hd₁, hJ'⟩
      exact ⟨h', tk', m', n', e, F', N', fun p hp q hq => by rw [List.mem_singleton.mp hq]; exact hoff p hp, subL_one hd₁, ih (i + 1) m' n' hd' hlt hJ'⟩
    cases f with
    | ret v => exact h₃
    | brk => exact h₃
    | next => exact fin h₃
    | cont => exact fin h₃
/-- the turns of a new iterator over one made object: what the kit's ktu_core asks beside the walk is shown here once -/
theorem new_turns {ty : String} {oI od : Obj} {d : Addr} {n : Nat} {P Md : Nat → Value → Heap → Prop} {St : Nat → Heap → Prop} {xs : List Itm} {target : Expr} {m₀ : Str → Option Value} {news : List (Addr × Obj)}
    (F : Fr h₀ env.locals s.heap m₀) (N : News h₀ env.locals s.heap news) (hm : (d, od) ∈ news) (W : KTurns prog w A target s.heap.objs.size [s.heap.objs.size, d] [s.heap.objs.size] n P Md St) (hn : n = xs.length)
    (hP : ∀ i v h, P i v h → ∃ a, xs[i]? = some a ∧ a.Is v h) (hty : ∀ i h, St i h → ∃ o, h.get? s.heap.objs.size = some o ∧ o.cls = .type ty) (hst : St 0 (s.heap.push oI))
    (rest : ItemsRest prog w A E h₀ env target body Q s [(s.heap.objs.size, ty)] [(d, od)] xs m₀ news) :
    TurnsAt prog w A h₀ env target body Q E (.ref s.heap.objs.size) { s with heap := s.heap.push oI } := by
  have up : ∀ b o, s.heap.get? b = some o → (s.heap.push oI).get? b = some o := fun _ _ q => Heap.get?_push_of_some _ q
  refine ktu_core (tk0 := s.toks) (ws := [(s.heap.objs.size, ty)]) (keep := [(d, od)]) W hn hP (fun i h st => ?its) (List.forall_mem_singleton.mpr ⟨.head _, next_is_new F⟩) (fun _ q => q) (List.forall_mem_cons.mpr ⟨.inl (.head _), List.forall_mem_singleton.mpr (.inr ⟨od, .head _⟩)⟩)
    (fun q => ?loc) (fun p hp q => Nat.ne_of_lt (Heap.lt_size (N p hp).1) (List.mem_singleton.mp q)) hst (F.keeps up) (N.grown up) (subL_one hm) rest
  case its =>
    obtain ⟨o, g, c⟩ := hty i h st
    exact ⟨[(_, o)], ⟨⟨rfl, c⟩, trivial⟩, List.forall_mem_singleton.mpr g⟩
  case loc =>
    cases List.mem_cons.mp q with
    | inl q => exact Nat.ne_of_lt F.ns.lt q
    | inr q => exact (N _ hm).2.1 (List.mem_singleton.mp q).symm
theorem ent_at {es : Array DictEntry} {xs : List (Int × Addr × Value)} {i : Nat} {e : DictEntry} (he : es.toList = xs.map (entryOfKey (soKind prog w))) (q : es[i]? = some e) : ∃ x, xs[i]? = some x ∧ e.key = .ref x.2.1 ∧ e.val = x.2.2 := by
  rw [← Array.getElem?_toList, he, List.getElem?_map] at q
  cases h : xs[i]? with
  | none => rw [h] at q; cases q
  | some x => rw [h] at q; cases q; exact ⟨x, rfl, rfl, rfl⟩
theorem tab_items {elts : List Expr} {kk : Nat} {pos : Pos} {d vw : Addr} {od : Obj} {xs : List (Int × Addr × Value)} {m₀ : Str → Option Value} {news : List (Addr × Obj)}
    (hh : A.handled = none) (F : Fr h₀ env.locals s.heap m₀) (N : News h₀ env.locals s.heap news) (hvw : ∃ ov, s.heap.get? vw = some ov ∧ ov.cls = .type "dict_items" ∧ ov.data = .fields #[.ref d]) (hm : (d, od) ∈ news) (t : TabObj prog w od xs)
    (J : Nat → (Str → Option Value) → List (Addr × Obj) → Prop) (hJ : J 0 m₀ news)
    (turn : ∀ I, (∀ p ∈ news, p.1 < I) → ∀ i x m₁ n₁ T h tk oI, xs[i]? = some x → J i m₁ n₁ → IsTup h T #[.ref x.2.1, x.2.2] → Fr h₀ env.locals h m₁ → News h₀ env.locals h ((I, oI) :: n₁) →
      wpAny (model prog w) A (assign (.Tuple elts kk pos) env (.ref T)) (fun _ s₂ => wpAny (model prog w) A (execs body env) (TurnPost h₀ env.locals s I oI d od (J (i + 1)) Q) E s₂) E { s with heap := h, toks := tk })
    (done : ∀ h' tk m' n', Fr h₀ env.locals h' m' → News h₀ env.locals h' n' → J xs.length m' n' → Q .next { s with heap := h', toks := tk }) :
    wpAny (model prog w) A (pyIter (.ref vw)) (fun it s₂ => TurnsAt prog w A h₀ env (.Tuple elts kk pos) body Q E it s₂) E s := by
  obtain ⟨es, ep, r, he⟩ := t.raw (N.get hm)
  refine raw_iterItems hvw r (new_turns (xs := xs.map itmOf) F N hm (raw_itemsTurns hh _ d (Nat.ne_of_lt r.lt) es ep) (by rw [← Array.length_toList, he, List.length_map, List.length_map]) ?_ (fun _ _ ⟨⟨_, _, a⟩, _⟩ => ⟨_, a, rfl⟩)
    ⟨⟨_, _, Heap.get?_push_size _ rfl⟩, r.at fun _ q => Heap.get?_push_of_some _ q⟩ (turns_rest J (fun i x m₁ n₁ v h tk oI hx hJ' hv F' N' => ?_) done xs 0 m₀ news rfl (Nat.zero_le _) hJ))
  · rintro i v h ⟨T, e, rfl, q, hT⟩
    obtain ⟨x, hx, e1, e2⟩ := ent_at he q
    rw [e1, e2] at hT
    exact ⟨itmOf x, by rw [List.getElem?_map, hx]; rfl, T, 0, rfl, hT⟩
  · obtain ⟨T, _, rfl, hT⟩ := hv
    exact turn _ (fun p hp => Heap.lt_size (N p hp).1) i x m₁ n₁ T h tk oI hx hJ' hT F' N'
theorem tab_values {target : Expr} {d vw : Addr} {od : Obj} {xs : List (Int × Addr × Value)} {m₀ : Str → Option Value} {news : List (Addr × Obj)}
    (hh : A.handled = none) (F : Fr h₀ env.locals s.heap m₀) (N : News h₀ env.locals s.heap news) (hvw : s.heap.IsValuesView vw d) (hm : (d, od) ∈ news) (t : TabObj prog w od xs)
    (J : Nat → (Str → Option Value) → List (Addr × Obj) → Prop) (hJ : J 0 m₀ news)
    (turn : ∀ I, (∀ p ∈ news, p.1 < I) → ∀ i x m₁ n₁ h tk oI, xs[i]? = some x → J i m₁ n₁ → Fr h₀ env.locals h m₁ → News h₀ env.locals h ((I, oI) :: n₁) →
      wpAny (model prog w) A (assign target env x.2.2) (fun _ s₂ => wpAny (model prog w) A (execs body env) (TurnPost h₀ env.locals s I oI d od (J (i + 1)) Q) E s₂) E { s with heap := h, toks := tk })
    (done : ∀ h' tk m' n', Fr h₀ env.locals h' m' → News h₀ env.locals h' n' → J xs.length m' n' → Q .next { s with heap := h', toks := tk }) :
    wpAny (model prog w) A (pyIter (.ref vw)) (fun it s₂ => TurnsAt prog w A h₀ env target body Q E it s₂) E s := by
  obtain ⟨es, ep, r, he⟩ := t.raw (N.get hm)
  refine raw_iterValues hvw r (new_turns (xs := xs.map fun x => Itm.val x.2.2) F N hm (KTurns.ofWalks (raw_walkValues hh _ d (Nat.ne_of_lt r.lt) es ep) fun _ _ _ _ _ st q => letGo_valiter st.1 q) (by rw [← Array.length_toList, he, List.length_map, List.length_map]) ?_ (fun _ _ ⟨⟨o, a, c, _⟩, _⟩ => ⟨o, a, c⟩)
    ⟨⟨_, Heap.get?_push_size _ rfl, rfl, rfl⟩, r.at fun _ q => Heap.get?_push_of_some _ q⟩ (turns_rest J (fun i x m₁ n₁ v h tk oI hx hJ' hv F' N' => ?_) done xs 0 m₀ news rfl (Nat.zero_le _) hJ))
  · rintro i v h ⟨e, q, rfl⟩
    obtain ⟨x, hx, _, e2⟩ := ent_at he q
    exact ⟨.val x.2.2, by rw [List.getElem?_map, hx]; rfl, e2⟩
  · cases (show v = x.2.2 from hv)
    exact turn _ (fun p hp => Heap.lt_size (N p hp).1) i x m₁ n₁ h tk oI hx hJ' F' N'
end
section
variable {prog : Program} {w : World} {A : Around} {E : Value → Shared → Prop} {s : Shared} {h₀ : Heap} {L d : Addr} {m : Str → Option Value} {news kn : List (Addr × Obj)} {o : Obj} {T : List (Int × Int)}
theorem Tab.raw {h : Heap} (t : Tab prog w kn o T) (N : News h₀ L h news) (hm : (d, o) ∈ news) : ∃ es ep, RawAt h d es ep := by
  obtain ⟨xs, t1, _, _⟩ := t
  obtain ⟨es, ep, r, _⟩ := t1.raw (N.get hm)
  exact ⟨es, ep, r⟩
theorem tab_method {name : Str} {id : String} {pl : Sem Bool} {Q : Value × List Value → Shared → Prop} (slot : Slot "dict" name id) (hty : typeOf (.builtin id) = pure (.type "method_descriptor"))
    (N : News h₀ L s.heap news) (hm : (d, o) ∈ news) (t : Tab prog w kn o T) (h : Q (.builtin id, [.ref d]) s) : wpAny (model prog w) A (getMethod (.ref d) name pl) Q E s := by
  obtain ⟨es, ep, r⟩ := t.raw N hm
  exact raw_method slot hty r h
theorem tab_callItems {Q : Value → Shared → Prop} (F : Fr h₀ L s.heap m) (N : News h₀ L s.heap news) (lo : (d == sysModules) = false) (hm : (d, o) ∈ news) (t : Tab prog w kn o T)
    (h : ∀ v h', (∃ ov, h'.get? v = some ov ∧ ov.cls = .type "dict_items" ∧ ov.data = .fields #[.ref d]) → (∀ p ∈ news, p.1 < v) → Fr h₀ L h' m → News h₀ L h' news → Q (.ref v) { s with heap := h' }) :
    wpAny (model prog w) A (call (.builtin "dict.items") [.ref d]) Q E s := by
  obtain ⟨es, ep, r⟩ := t.raw N hm
  exact raw_callItems r lo F N fun v h' a b _ c e => h v h' a b c e
theorem tab_callValues {Q : Value → Shared → Prop} (F : Fr h₀ L s.heap m) (N : News h₀ L s.heap news) (lo : (d == sysModules) = false) (hm : (d, o) ∈ news) (t : Tab prog w kn o T)
    (h : ∀ v h', h'.IsValuesView v d → (∀ p ∈ news, p.1 < v) → Fr h₀ L h' m → News h₀ L h' news → Q (.ref v) { s with heap := h' }) :
    wpAny (model prog w) A (call (.builtin "dict.values") [.ref d]) Q E s := by
  obtain ⟨es, ep, r⟩ := t.raw N hm
  exact raw_callValues r lo F N fun v h' a b _ c e => h v h' a b c e
end
end Mine

/-! part D4 -/
set_option maxRecDepth 100000
set_option maxHeartbeats 8000000
namespace Mine
theorem subC {kn r : List (Addr × Obj)} {q : Addr × Obj} (h : ∀ p ∈ kn, p ∈ r) : ∀ p ∈ kn, p ∈ q :: r := fun p hp => List.mem_cons_of_mem _ (h p hp)
theorem frame2 {x y : Str} {m₀ m₁ : Str → Option Value} {v : Option Value} (h1 : m₁ y = v) (h2 : ∀ z, z ≠ x → z ≠ y → m₁ z = m₀ z) : m₁ = fun z => if z = x then m₁ x else if z = y then v else m₀ z := by
  funext z
  by_cases hx : z = x
  · simp [hx]
  · simp only [if_neg hx]
    by_cases hy : z = y
    · simp [hy, h1]
    · simp only [if_neg hy]; exact h2 z hx hy
theorem frame2' {x y : Str} {m₀ m₁ : Str → Option Value} (h2 : ∀ z, z ≠ x → z ≠ y → m₁ z = m₀ z) : m₁ = fun z => if z = x then m₁ x else if z = y then m₁ y else m₀ z := frame2 rfl h2
theorem sum_take_succ {l : List Int} {i : Nat} {c : Int} (h : l[i]? = some c) : (l.take (i + 1)).sum = (l.take i).sum + c := by
  rw [List.take_add_one, h]; simp
theorem Tab.nodup {prog : Program} {w : World} {kn : List (Addr × Obj)} {o : Obj} {T : List (Int × Int)} (h : Tab prog w kn o T) : (T.map (·.1)).Nodup := by
  obtain ⟨xs, ⟨_, es, ep, _, _, hn⟩, _, v⟩ := h
  rw [← v.keys]; exact hn
theorem hasT_take {T : List (Int × Int)} (hn : (T.map (·.1)).Nodup) {i : Nat} {n c : Int} (h : T[i]? = some (n, c)) : hasT (T.take i) n = false := by
  unfold hasT
  rw [List.any_eq_false]
  rintro ⟨k, v⟩ hp hk
  have hk' : k = n := by simpa using hk
  subst hk'
  obtain ⟨j, hj⟩ := List.mem_iff_getElem?.mp hp
  have hji : j < i := by
    have := (List.getElem?_eq_some_iff.mp hj).1
    rw [List.length_take] at this; omega
  rw [List.getElem?_take_of_lt hji] at hj
  have hi' : (T.map (·.1))[i]? = some k := by rw [List.getElem?_map, h]; rfl
  have hj' : (T.map (·.1))[j]? = some k := by rw [List.getElem?_map, hj]; rfl
  have := (List.getElem?_inj (List.getElem?_eq_some_iff.mp hj').1 hn).mp (hj'.trans hi'.symm)
  omega
theorem putT_take {T : List (Int × Int)} (hn : (T.map (·.1)).Nodup) {i : Nat} {n c : Int} (h : T[i]? = some (n, c)) : putT (T.take i) n c = T.take (i + 1) := by
  unfold putT
  rw [hasT_take hn h, List.take_add_one, h]; simp
theorem fold_take {T : List (Int × Int)} {i : Nat} {n c : Int} (h : T[i]? = some (n, c)) (z : List (Int × Int)) : (T.take (i + 1)).foldl (fun T p => bumpT T p.1 p.2) z = bumpT ((T.take i).foldl (fun T p => bumpT T p.1 p.2) z) n c := by
  rw [List.take_add_one, h]; simp
theorem bumpFold_len (z : List (Int × Int)) : ∀ T : List (Int × Int), (T.foldl (fun T p => bumpT T p.1 p.2) z).length ≤ z.length + T.length := by
  intro T
  induction T generalizing z with
  | nil => simp
  | cons p T ih =>
    have := ih (bumpT z p.1 p.2)
    have := bumpT_length z p.1 p.2
    simp only [List.foldl_cons, List.length_cons]; omega
theorem bumpFold_fits {T1 T2 : List (Int × Int)} {i : Nat} (hz : T1.length + T2.length ≤ 1000) : ((T2.take i).foldl (fun T p => bumpT T p.1 p.2) T1).length ≤ sizeLine := by
  have h1 := bumpFold_len T1 (T2.take i)
  have h2 : (T2.take i).length ≤ T2.length := by rw [List.length_take]; omega
  simp only [sizeLine_eq]; omega
theorem bump_has {T : List (Int × Int)} {n c : Int} (h : hasT T n = true) : bumpT T n c = putT T n (lookT T n + c) := by simp [bumpT, h]
theorem bump_new {T : List (Int × Int)} {n c : Int} (h : ¬ hasT T n = true) : bumpT T n c = putT T n c := by simp [bumpT, h]
theorem offI {rest : List (Addr × Obj)} {D I : Addr} {o : Obj} (hD : D < I) (hI : ∀ p ∈ rest, p.1 < I) : ∀ p ∈ (D, o) :: rest, p.1 ≠ I := by
  intro p hp
  rcases List.mem_cons.mp hp with e | hp
  · subst e; exact Nat.ne_of_lt hD
  · exact Nat.ne_of_lt (hI p hp)
theorem TurnPost.next {h₀ : Heap} {L : Addr} {s : Shared} {I : Addr} {oI : Obj} {d : Addr} {od : Obj} {J : (Str → Option Value) → List (Addr × Obj) → Prop} {Q : Flow → Shared → Prop} {h' : Heap} {tk : Nat} {m' : Str → Option Value} {n' : List (Addr × Obj)}
    (F : Fr h₀ L h' m') (N : News h₀ L h' ((I, oI) :: n')) (hoff : ∀ p ∈ n', p.1 ≠ I) (hm : (d, od) ∈ n') (hJ : J m' n') : TurnPost h₀ L s I oI d od J Q .next { s with heap := h', toks := tk } := ⟨h', tk, m', n', rfl, F, N, hoff, hm, hJ⟩
section
variable {prog : Program} {w : World} {A : Around} {E : Value → Shared → Prop} {s : Shared} {env : Env} {h₀ : Heap} {body : List Stmt} {Q : Flow → Shared → Prop}
theorem tab_values_sum {target : Expr} (x y : Str) {d vw : Addr} {od : Obj} {T : List (Int × Int)} {kn : List (Addr × Obj)} {m₀ : Str → Option Value} {news : List (Addr × Obj)} {a₀ : Int} {t₀ : Tok}
    (hh : A.handled = none) (F : Fr h₀ env.locals s.heap m₀) (N : News h₀ env.locals s.heap news) (hvw : s.heap.IsValuesView vw d) (hm : (d, od) ∈ news) (t : Tab prog w kn od T) (hy : m₀ y = some (.int a₀ t₀))
    (turn : ∀ I oI c tc a ta u h tk, Fr h₀ env.locals h (fun z => if z = x then u else if z = y then some (.int a ta) else m₀ z) → News h₀ env.locals h ((I, oI) :: news) → (∀ p ∈ news, p.1 < I) →
      wpAny (model prog w) A (assign target env (.int c tc)) (fun _ s₂ => wpAny (model prog w) A (execs body env) (TurnPost h₀ env.locals s I oI d od (fun m' n' => n' = news ∧ (∃ t', m' y = some (.int (a + c) t')) ∧ ∀ z, z ≠ x → z ≠ y → m' z = m₀ z) Q) E s₂) E { s with heap := h, toks := tk })
    (done : ∀ u t h tk, Fr h₀ env.locals h (fun z => if z = x then u else if z = y then some (.int (a₀ + (T.map (·.2)).sum) t) else m₀ z) → News h₀ env.locals h news → Q .next { s with heap := h, toks := tk }) :
    wpAny (model prog w) A (pyIter (.ref vw)) (fun it s₂ => TurnsAt prog w A h₀ env target body Q E it s₂) E s := by
  obtain ⟨xs, t1, t2, t3⟩ := t
  refine tab_values hh F N hvw hm t1 (fun i m₁ n₁ => n₁ = news ∧ (∃ t, m₁ y = some (.int (a₀ + ((T.map (·.2)).take i).sum) t)) ∧ ∀ z, z ≠ x → z ≠ y → m₁ z = m₀ z) ⟨rfl, ⟨t₀, by simpa using hy⟩, fun _ _ _ => rfl⟩ ?_ ?_
  · rintro I hI i e m₁ n₁ h tk oI hx ⟨rfl, ⟨ta, h1⟩, h2⟩ F₁ N₁
    obtain ⟨c, tc, e1, e2⟩ := t3.get hx
    rw [e1]
    have hc : (T.map (·.2))[i]? = some c := by rw [List.getElem?_map, e2]; rfl
    rw [frame2 h1 h2] at F₁
    have := turn I oI c tc _ ta _ h tk F₁ N₁ hI
    simpa only [sum_take_succ hc, Int.add_assoc] using this
  · rintro h tk m' n' F' N' ⟨rfl, ⟨t, h1⟩, h2⟩
    rw [t3.length, show (T.length) = (T.map (·.2)).length by simp, List.take_length] at h1
    rw [frame2 h1 h2] at F'
    exact done _ t h tk F' N'
theorem tab_items_put {elts : List Expr} {kk : Nat} {pos : Pos} (x y : Str) {d vw D : Addr} {od oD₀ : Obj} {T : List (Int × Int)} {kn rest : List (Addr × Obj)} {m₀ : Str → Option Value} (G : Nat → List (Int × Int))
    (hh : A.handled = none) (F : Fr h₀ env.locals s.heap m₀) (N : News h₀ env.locals s.heap ((D, oD₀) :: rest)) (hvw : ∃ ov, s.heap.get? vw = some ov ∧ ov.cls = .type "dict_items" ∧ ov.data = .fields #[.ref d]) (hm : (d, od) ∈ rest)
    (t : Tab prog w kn od T) (t0 : Tab prog w kn oD₀ (G 0))
    (turn : ∀ I oI i n a ok c tc oD u1 u2 Tp h tk, T[i]? = some (n, c) → (a, ok) ∈ kn → KeyObj n ok → (∀ p ∈ rest, p.1 < I) → D < I → IsTup h Tp #[.ref a, .int c tc] → Tab prog w kn oD (G i) →
      Fr h₀ env.locals h (fun z => if z = x then u1 else if z = y then u2 else m₀ z) → News h₀ env.locals h ((I, oI) :: (D, oD) :: rest) →
      wpAny (model prog w) A (assign (.Tuple elts kk pos) env (.ref Tp)) (fun _ s₂ => wpAny (model prog w) A (execs body env) (TurnPost h₀ env.locals s I oI d od (fun m' n' => (∃ oD', n' = (D, oD') :: rest ∧ Tab prog w kn oD' (G (i + 1))) ∧ ∀ z, z ≠ x → z ≠ y → m' z = m₀ z) Q) E s₂) E { s with heap := h, toks := tk })
    (done : ∀ u1 u2 oD h tk, Tab prog w kn oD (G T.length) → Fr h₀ env.locals h (fun z => if z = x then u1 else if z = y then u2 else m₀ z) → News h₀ env.locals h ((D, oD) :: rest) → Q .next { s with heap := h, toks := tk }) :
    wpAny (model prog w) A (pyIter (.ref vw)) (fun it s₂ => TurnsAt prog w A h₀ env (.Tuple elts kk pos) body Q E it s₂) E s := by
  obtain ⟨xs, t1, t2, t3⟩ := t
  refine tab_items hh F N hvw (List.mem_cons_of_mem _ hm) t1 (fun i m₁ n₁ => (∃ oD, n₁ = (D, oD) :: rest ∧ Tab prog w kn oD (G i)) ∧ ∀ z, z ≠ x → z ≠ y → m₁ z = m₀ z) ⟨⟨oD₀, rfl, t0⟩, fun _ _ _ => rfl⟩ ?_ ?_
  · rintro I hI i e m₁ n₁ Tp h tk oI hx ⟨⟨oD, rfl, tD⟩, h2⟩ hT F₁ N₁
    obtain ⟨c, tc, e1, e2⟩ := t3.get hx
    obtain ⟨ok, hok, hk⟩ := t2 e (List.mem_of_getElem? hx)
    rw [e1] at hT
    rw [frame2' h2] at F₁
    exact turn I oI i e.1 e.2.1 ok c tc oD _ _ Tp h tk e2 hok hk (fun p hp => hI p (.tail _ hp)) (hI _ (.head _)) hT tD F₁ N₁
  · rintro h tk m' n' F' N' ⟨⟨oD, rfl, tD⟩, h2⟩
    rw [t3.length] at tD
    rw [frame2' h2] at F'
    exact done _ _ oD h tk tD F' N'
end
end Mine

/-! part C4 -/
set_option maxRecDepth 100000
set_option maxHeartbeats 8000000
namespace Mine
section
local macro_rules | `(tactic| k_mem) => `(tactic| assumption)
local macro_rules | `(tactic| k_enter) => `(tactic| (refine' code_def ?k1 ?k2 ?k3 ?k4 ?k5 ?kA ?kF ?kK ?k6 ?k7 ?k8 ?k9 ?kB ?_ ?c2 ?c3 ?c4 ?c5; (case kA => exact rfl); (case kF => exact rfl); (case kK => assumption); (case k1 => k_asm); (case k2 => k_asm); (case k3 => k_asm); (case k4 => k_asm); (case k5 => k_asm); (case k6 => k_is); (case k7 => k_is); (case k8 => ktr_room); (case k9 => first | exact BindsTo.of_eq rfl | exact binds_K (by k_in) rfl (by k_is) rfl rfl rfl | (refine' kp_binds ?kx ?ke; (case kx => k_in); (case ke => exact fun _ => rfl)) | fail "k_enter: no rule for these arguments"); (case c5 => decide); (case kB => exact locs rfl); (case c2 => exact rfl); (case c3 => exact rfl); (case c4 => exact rfl); k_whole; intro g' L' h' FG' F' N' B' X' T'; (try dsimp only); (try k_lift B'); (try k_fold)))
local macro_rules | `(tactic| walk_at "exec For Name Call cons nil") => `(tactic| (k_here; (rename Fr _ _ _ _ => lF'); (with_unfolding_all refine' For_turns lF' ?_); k_whole))
local macro_rules | `(tactic| walk_at "getMethod ref") => `(tactic| (k_here; k_dflt (first | (refine' tab_method PySem.F.slot_dict_values PySem.F.type_dict_values ?k1 ?k2 ?k3 ?_; (case k1 => k_asm); (case k2 => k_mem); (case k3 => assumption)) | (refine' tab_method PySem.F.slot_dict_items PySem.F.type_dict_items ?k1 ?k2 ?k3 ?_; (case k1 => k_asm); (case k2 => k_mem); (case k3 => assumption))); k_whole))
local macro_rules | `(tactic| walk_at "call builtin:dict.values") => `(tactic| (k_here; k_dflt (refine' tab_callValues ?k1 ?k2 ?k3 ?k4 ?k5 ?_; (case k1 => k_asm); (case k2 => k_asm); (case k3 => assumption); (case k4 => k_mem); (case k5 => assumption)); k_whole; intro v9 h9 hv9 hl9 F9 N9))
variable {w : World} {mean : ExcName → Option Value} {mg mb : Str → Option Value} {dp un : Nat} {gd : Option (List Code)} {cn : Str} {cs : Scope} {a : Addr} {ccd : Value} {cl : List (Str × Addr)} {outer : List Env} {A₀ : Around} {base h₀ : Heap} {L : Addr} {m : Str → Option Value} {news kn : List (Addr × Obj)} {s : Shared} {Q E : Value → Shared → Prop}
theorem count1 (c : Cx w mean mg mb dp un cs outer A₀ base h₀ L m news s 1) {d : Addr} {od : Obj} {T : List (Int × Int)} (lo : (d == sysModules) = false) (hm : (d, od) ∈ news) (t : Tab PySem.Challenge.rw_gm0004_01.row.prog w kn od T)
   (hret : ∀ (tk : Tok) (h' : Heap) (tk' : Nat), Fr h₀ L h' m → News h₀ L h' news → Q (.int (T.map (·.2)).sum tk) { s with heap := h', toks := tk' }) :
   wpAny (model PySem.Challenge.rw_gm0004_01.row.prog w) (ktrTop dp un gd cn cs L a ccd cl outer) (call (.ref 46) [.ref d]) Q E s := by
  have z0 : PySem.Challenge.rw_gm0004_01.row.prog = PySem.Challenge.rw_gm0004_01.row.prog ∧ hd.heap_39 = hd.heap_39 := by (k_fill; exact ⟨rfl, rfl⟩)
  clear z0
  obtain ⟨B, F, X, N, T', hk, hdp, hun⟩ := c
  refine wpAny_call ?_
  k_dflt k_enter
  k_steps
  rename Fr _ _ _ _ => lF
  rename News _ _ _ _ => lN
  rename Heap.IsValuesView _ _ _ => lV
  with_unfolding_all refine' tab_values_sum (Str.ofString "calls") (Str.ofString "nc") (by rfl) lF lN lV hm t (by rfl) ?t1 ?t2
  case t1 =>
    intro I oI c tc a' ta u h tk F9 N9 hI
    clear lF lN lV
    k_steps
    exact TurnPost.next (by assumption) (by assumption) (fun p hp => Nat.ne_of_lt (hI p hp)) hm ⟨rfl, ⟨_, by with_unfolding_all rfl⟩, by k_same2⟩
  case t2 =>
    intro u t' h tk F9 N9
    clear lF lN lV
    k_steps
    rw [Int.zero_add]
    exact hret _ _ _ (by assumption) (by assumption)
end
end Mine

/-! part C5 -/
set_option maxRecDepth 100000
set_option maxHeartbeats 8000000
namespace Mine
section
local macro_rules | `(tactic| k_mem) => `(tactic| assumption)
local macro_rules | `(tactic| k_enter) => `(tactic| (refine' code_def ?k1 ?k2 ?k3 ?k4 ?k5 ?kA ?kF ?kK ?k6 ?k7 ?k8 ?k9 ?kB ?_ ?c2 ?c3 ?c4 ?c5; (case kA => exact rfl); (case kF => exact rfl); (case kK => assumption); (case k1 => k_asm); (case k2 => k_asm); (case k3 => k_asm); (case k4 => k_asm); (case k5 => k_asm); (case k6 => k_is); (case k7 => k_is); (case k8 => ktr_room); (case k9 => first | exact BindsTo.of_eq rfl | exact binds_K (by k_in) rfl (by k_is) rfl rfl rfl | (refine' kp_binds ?kx ?ke; (case kx => k_in); (case ke => exact fun _ => rfl)) | fail "k_enter: no rule for these arguments"); (case c5 => decide); (case kB => exact locs rfl); (case c2 => exact rfl); (case c3 => exact rfl); (case c4 => exact rfl); k_whole; intro g' L' h' FG' F' N' B' X' T'; (try dsimp only); (try k_lift B'); (try k_fold)))
local macro_rules | `(tactic| walk_at "exec For Name Call cons nil") => `(tactic| (k_here; (rename Fr _ _ _ _ => lF'); (with_unfolding_all refine' For_turns lF' ?_); k_whole))
local macro_rules | `(tactic| walk_at "getMethod ref") => `(tactic| (k_here; k_dflt (first | (refine' tab_method PySem.F.slot_dict_values PySem.F.type_dict_values ?k1 ?k2 ?k3 ?_; (case k1 => k_asm); (case k2 => k_mem); (case k3 => assumption)) | (refine' tab_method PySem.F.slot_dict_items PySem.F.type_dict_items ?k1 ?k2 ?k3 ?_; (case k1 => k_asm); (case k2 => k_mem); (case k3 => assumption))); k_whole))
local macro_rules | `(tactic| walk_at "call builtin:dict.values") => `(tactic| (k_here; k_dflt (refine' tab_callValues ?k1 ?k2 ?k3 ?k4 ?k5 ?_; (case k1 => k_asm); (case k2 => k_asm); (case k3 => assumption); (case k4 => k_mem); (case k5 => assumption)); k_whole; intro v9 h9 hv9 hl9 F9 N9))
local macro_rules | `(tactic| walk_at "exec For Tuple Call cons nil") => `(tactic| (k_here; (rename Fr _ _ _ _ => lF'); (with_unfolding_all refine' For_turns lF' ?_); k_whole))
local macro_rules | `(tactic| walk_at "call builtin:dict.items") => `(tactic| (k_here; k_dflt (refine' tab_callItems ?k1 ?k2 ?k3 ?k4 ?k5 ?_; (case k1 => k_asm); (case k2 => k_asm); (case k3 => assumption); (case k4 => k_mem); (case k5 => assumption)); k_whole; intro v9 h9 hv9 hl9 F9 N9))
local macro_rules | `(tactic| k_all) => `(tactic| (intro p9 hp9; exact Nat.ne_of_lt ((by assumption : ∀ p ∈ _, p.1 < _) p9 hp9)))
local macro_rules | `(tactic| walk_at "setItem ref ref") => `(tactic| (k_here; k_dflt (refine' tab_set ?u ?F ?N ?U ?s ?t ?m ?k ?z ?_; (case F => k_asm); (case N => k_asm); (case U => k_updF); (case t => assumption); (case m => assumption); (case k => assumption); (case u => ktr_units); (case s => first | assumption | exact subC (by assumption) | exact subC (subC (by assumption)) | exact subC (subC (subC (by assumption)))); (case z => assumption)); k_whole; intro h9 o9 F9 N9 t9))
local macro_rules | `(tactic| walk_at "compareOp In") => `(tactic| (k_here; (with_reducible show wpAny _ _ (compareOp CmpOp.In (Value.ref _) (Value.ref _)) _ _ _); k_dflt (refine' tab_in ?u ?l ?N ?m ?s ?t ?ok ?k ?_; (case N => k_asm); (case m => k_mem); (case t => assumption); (case ok => assumption); (case k => assumption); (case l => assumption); (case u => ktr_units); (case s => first | assumption | exact subC (by assumption) | exact subC (subC (by assumption)) | exact subC (subC (subC (by assumption))))); k_whole))
local macro_rules | `(tactic| walk_at "getItem ref ref") => `(tactic| (k_here; k_dflt (refine' tab_item ?u ?N ?m ?s ?t ?ok ?k ?h ?_; (case N => k_asm); (case m => k_mem); (case t => assumption); (case ok => assumption); (case k => assumption); (case h => assumption); (case u => ktr_units); (case s => first | assumption | exact subC (by assumption) | exact subC (subC (by assumption)) | exact subC (subC (subC (by assumption))))); k_whole; intro t9))
variable {w : World} {mean : ExcName → Option Value} {mg mb : Str → Option Value} {dp un : Nat} {gd : Option (List Code)} {cn : Str} {cs : Scope} {a : Addr} {ccd : Value} {cl : List (Str × Addr)} {outer : List Env} {A₀ : Around} {base h₀ : Heap} {L : Addr} {m : Str → Option Value} {news kn : List (Addr × Obj)} {s : Shared} {Q E : Value → Shared → Prop}
theorem add2 (c : Cx w mean mg mb dp un cs outer A₀ base h₀ L m news s 1) {d1 d2 : Addr} {o1 o2 : Obj} {T1 T2 : List (Int × Int)} (lo1 : (d1 == sysModules) = false) (lo2 : (d2 == sysModules) = false) (hm1 : (d1, o1) ∈ news) (hm2 : (d2, o2) ∈ news) (hkn : ∀ p ∈ kn, p ∈ news)
   (t1 : Tab PySem.Challenge.rw_gm0004_01.row.prog w kn o1 T1) (t2 : Tab PySem.Challenge.rw_gm0004_01.row.prog w kn o2 T2) (hz : T1.length + T2.length ≤ 1000)
   (hret : ∀ (D : Addr) (oD : Obj) (h' : Heap) (tk' : Nat), (D == sysModules) = false → (∀ p ∈ news, p.1 < D) → Tab PySem.Challenge.rw_gm0004_01.row.prog w kn oD (T2.foldl (fun T p => bumpT T p.1 p.2) T1) → Fr h₀ L h' m → News h₀ L h' ((D, oD) :: news) → Q (.ref D) { s with heap := h', toks := tk' }) :
   wpAny (model PySem.Challenge.rw_gm0004_01.row.prog w) (ktrTop dp un gd cn cs L a ccd cl outer) (call (.ref 39) [.ref d1, .ref d2]) Q E s := by
  have z0 : PySem.Challenge.rw_gm0004_01.row.prog = PySem.Challenge.rw_gm0004_01.row.prog ∧ hd.heap_39 = hd.heap_39 := by (k_fill; exact ⟨rfl, rfl⟩)
  clear z0
  obtain ⟨B, F, X, N, T', hk, hdp, hun⟩ := c
  refine wpAny_call ?_
  k_dflt k_enter
  k_steps
  rename Fr _ _ _ _ => lF
  rename News _ _ _ _ => lN
  rename Exists _ => lV
  rename (∀ p ∈ news, p.1 < _) => lD
  rename Obj.IsDictOf (PySem.strKind _ _) _ _ => lO
  with_unfolding_all refine' tab_items_put (Str.ofString "caller") (Str.ofString "func") (fun i => T1.take i) (by rfl) lF lN lV hm1 t1 (Tab.empty lO) ?q1 ?q2
  case q1 =>
    intro I oI i n a' ok c' tc oD u1 u2 Tp h tk hT hok hKO hI hDI hTup tD F9 N9
    clear lF lN lV
    replace hDI := ltN hDI
    have hsz : (T1.take i).length ≤ sizeLine := by simp only [List.length_take, sizeLine_eq]; omega
    k_steps
    rename Tab _ _ _ _ (putT _ _ _) => tP
    rw [putT_take t1.nodup hT] at tP
    exact TurnPost.next (by assumption) (by assumption) (offI hDI hI) (List.mem_cons_of_mem _ hm1) ⟨⟨_, rfl, tP⟩, by k_same2⟩
  case q2 =>
    intro u1 u2 oD h tk tD F9 N9
    clear lF lN lV
    rw [List.take_length] at tD
    k_steps
    rename Fr _ _ _ _ => lF
    rename News _ _ _ _ => lN
    rename Exists _ => lV
    with_unfolding_all refine' tab_items_put (Str.ofString "caller") (Str.ofString "func") (fun i => (T2.take i).foldl (fun T p => bumpT T p.1 p.2) T1) (by rfl) lF lN lV hm2 t2 tD ?q3 ?q4
    case q3 =>
      intro I oI i n a' ok c' tc oD u1 u2 Tp h tk hT hok hKO hI hDI hTup tD F9 N9
      clear lF lN lV
      replace hDI := ltN hDI
      have hsz : ((T2.take i).foldl (fun T p => bumpT T p.1 p.2) T1).length ≤ sizeLine := bumpFold_fits hz
      k_steps
      · rename Tab _ _ _ _ (putT _ _ _) => tP
        rw [← bump_has (by assumption), ← fold_take hT] at tP
        exact TurnPost.next (by assumption) (by assumption) (offI hDI hI) (List.mem_cons_of_mem _ hm2) ⟨⟨_, rfl, tP⟩, by k_same2⟩
      · rename Tab _ _ _ _ (putT _ _ _) => tP
        rw [← bump_new (by first | assumption | (simp only [Bool.not_eq_true]; assumption)), ← fold_take hT] at tP
        exact TurnPost.next (by assumption) (by assumption) (offI hDI hI) (List.mem_cons_of_mem _ hm2) ⟨⟨_, rfl, tP⟩, by k_same2⟩
    case q4 =>
      intro u1 u2 oD h tk tD F9 N9
      clear lF lN lV
      rw [List.take_length] at tD
      k_steps
      exact hret _ _ _ _ (by assumption) (by assumption) tD (by assumption) (by assumption)
end
end Mine

/-! part D5 -/
set_option maxRecDepth 100000
set_option maxHeartbeats 8000000
namespace Mine
/-- the table's row of one number -/
def rowT (ns : List Int) (sg one : Int) (T : List (Int × Int)) : List (Int × Int) := ns.foldl (fun T other => bumpT T (one + sg * other) 1) T
/-- the whole table -/
def tableT (ns : List Int) (sg : Int) : List (Int × Int) := ns.foldl (fun T one => rowT ns sg one T) []
theorem rowT_len (ns : List Int) (sg one : Int) (T : List (Int × Int)) : (rowT ns sg one T).length ≤ T.length + ns.length := by
  unfold rowT
  suffices ∀ (l : List Int) (T : List (Int × Int)), (l.foldl (fun T other => bumpT T (one + sg * other) 1) T).length ≤ T.length + l.length from this ns T
  intro l
  induction l with
  | nil => intro T; simp
  | cons x l ih =>
    intro T
    have h1 := ih (bumpT T (one + sg * x) 1)
    have h2 := bumpT_length T (one + sg * x) 1
    simp only [List.foldl_cons, List.length_cons]; omega
theorem tab_len_out (ns : List Int) (sg : Int) : ∀ l : List Int, (l.foldl (fun T one => rowT ns sg one T) []).length ≤ l.length * ns.length := by
  intro l
  suffices ∀ (l : List Int) (T : List (Int × Int)), (l.foldl (fun T one => rowT ns sg one T) T).length ≤ T.length + l.length * ns.length by simpa using this l []
  intro l
  induction l with
  | nil => intro T; simp
  | cons x l ih =>
    intro T
    have h1 := ih (rowT ns sg x T)
    have h2 := rowT_len ns sg x T
    simp only [List.foldl_cons, List.length_cons, Nat.add_mul, Nat.one_mul]; omega
theorem fold_succ {α β : Type} {f : β → α → β} {z : β} {l : List α} {i : Nat} {a : α} (h : l[i]? = some a) : (l.take (i + 1)).foldl f z = f ((l.take i).foldl f z) a := by
  rw [List.take_add_one, h]; simp
theorem in_len {ns : List Int} {sg one : Int} {i j : Nat} (hlen : ns.length ≤ 6) : ((ns.take j).foldl (fun T other => bumpT T (one + sg * other) 1) ((ns.take i).foldl (fun T one => rowT ns sg one T) [])).length ≤ 900 := by
  have h1 := tab_len_out ns sg (ns.take i)
  have h3 : ∀ (l : List Int) (T : List (Int × Int)), (l.foldl (fun T other => bumpT T (one + sg * other) 1) T).length ≤ T.length + l.length := by
    intro l
    induction l with
    | nil => intro T; simp
    | cons x l ih =>
      intro T
      have h1 := ih (bumpT T (one + sg * x) 1)
      have h2 := bumpT_length T (one + sg * x) 1
      simp only [List.foldl_cons, List.length_cons]; omega
  have h4 := h3 (ns.take j) ((ns.take i).foldl (fun T one => rowT ns sg one T) [])
  have h5 : (ns.take i).length ≤ 6 := by rw [List.length_take]; omega
  have h6 : (ns.take j).length ≤ 6 := by rw [List.length_take]; omega
  have h7 : (ns.take i).length * ns.length ≤ 6 * 6 := Nat.mul_le_mul h5 hlen
  omega
theorem frame3 {x1 x2 y : Str} {m₀ m₁ : Str → Option Value} {v : Option Value} (h1 : m₁ y = v) (h2 : ∀ z, z ≠ x1 → z ≠ x2 → z ≠ y → m₁ z = m₀ z) : m₁ = fun z => if z = x1 then m₁ x1 else if z = x2 then m₁ x2 else if z = y then v else m₀ z := by
  funext z
  by_cases hx : z = x1
  · simp [hx]
  · simp only [if_neg hx]
    by_cases hx2 : z = x2
    · simp [hx2]
    · simp only [if_neg hx2]
      by_cases hy : z = y
      · simp [hy, h1]
      · simp only [if_neg hy]; exact h2 z hx hx2 hy
section
variable {prog : Program} {w : World} {A : Around} {E : Value → Shared → Prop} {s : Shared} {env : Env} {h₀ : Heap} {body : List Stmt} {Q : Flow → Shared → Prop}
theorem list_turns {target : Expr} {l : Addr} {vs : List Value} {nn : Nat} {m₀ : Str → Option Value} {news : List (Addr × Obj)}
    (hh : A.handled = none) (F : Fr h₀ env.locals s.heap m₀) (N : News h₀ env.locals s.heap news) (hm : (l, W.listOf vs.toArray nn) ∈ news)
    (J : Nat → (Str → Option Value) → List (Addr × Obj) → Prop) (hJ : J 0 m₀ news)
    (turn : ∀ I, (∀ p ∈ news, p.1 < I) → ∀ i v m₁ n₁ h tk oI, vs[i]? = some v → J i m₁ n₁ → (∀ p ∈ n₁, p.1 ≠ I) → Fr h₀ env.locals h m₁ → News h₀ env.locals h ((I, oI) :: n₁) →
      wpAny (model prog w) A (assign target env v) (fun _ s₂ => wpAny (model prog w) A (execs body env) (TurnPost h₀ env.locals s I oI l (W.listOf vs.toArray nn) (J (i + 1)) Q) E s₂) E { s with heap := h, toks := tk })
    (done : ∀ h' tk m' n', Fr h₀ env.locals h' m' → News h₀ env.locals h' n' → J vs.length m' n' → Q .next { s with heap := h', toks := tk }) :
    wpAny (model prog w) A (pyIter (.ref l)) (fun it s₂ => TurnsAt prog w A h₀ env target body Q E it s₂) E s := by
  have hl : @Ne Nat l s.heap.objs.size := Nat.ne_of_lt (Heap.lt_size (N _ hm).1)
  have off : ∀ p ∈ news, p.1 ≠ s.heap.objs.size := fun p hp => Nat.ne_of_lt (Heap.lt_size (N p hp).1)
  refine wpAny_pyIter_list (my_isList N hm) (new_turns (xs := vs.map Itm.val) F N hm (KTurns.ofWalks (Walks.list (prog := prog) (w := w) hh _ l hl vs.toArray) fun _ _ _ _ _ st q => letGo_listiter st.1 q) (by rw [List.length_map, List.size_toArray])
    (fun i v h q => ⟨.val v, by rw [List.getElem?_map, show vs[i]? = some v from by simpa using q]; rfl, rfl⟩) (fun _ _ ⟨⟨o, a, c, _⟩, _⟩ => ⟨o, a, c⟩) ?st
    (turns_rest (fun i m n => J i m n ∧ ∀ p ∈ n, p.1 ≠ s.heap.objs.size) (fun i x m₁ n₁ v h tk oI hx hJ' hv F' N' => ?turn) (fun h' tk m' n' a b c => done h' tk m' n' a b c.1) vs 0 m₀ news rfl (Nat.zero_le _) ⟨hJ, off⟩))
  case turn =>
    have hv' : v = x := hv
    subst hv'
    refine wpAny_mono (turn _ (fun p hp => Heap.lt_size (N p hp).1) i v m₁ n₁ h tk oI hx hJ'.1 hJ'.2 F' N') (fun _ _ h₂ => wpAny_mono h₂ (fun f s₃ h₃ => ?_) fun _ _ e => e) fun _ _ e => e
    have up : TurnEnd h₀ env.locals s s.heap.objs.size oI l (W.listOf vs.toArray nn) (J (i + 1)) s₃ → TurnEnd h₀ env.locals s s.heap.objs.size oI l (W.listOf vs.toArray nn) (fun m n => J (i + 1) m n ∧ ∀ p ∈ n, p.1 ≠ s.heap.objs.size) s₃ :=
      fun ⟨h', tk', m', n', a, b, c, d, e, f⟩ => ⟨h', tk', m', n', a, b, c, d, e, f, d⟩
    cases f with
    | next => exact up h₃
    | cont => exact up h₃
    | ret _ => exact h₃
    | brk => exact h₃
  case st => exact ⟨⟨_, Heap.get?_push_size _ rfl, rfl, rfl⟩, (my_isList N hm).at fun o e => Heap.get?_push_of_some _ e⟩
theorem list_table {target : Expr} (x1 x2 y : Str) {l D₀ : Addr} {o₀ : Obj} {vs : List Value} {ns : List Int} {nn : Nat} {ex rest : List (Addr × Obj)} {m₀ : Str → Option Value} (G : Nat → List (Int × Int))
    (hh : A.handled = none) (F : Fr h₀ env.locals s.heap m₀) (N : News h₀ env.locals s.heap ((D₀, o₀) :: (ex ++ rest))) (hm : (l, W.listOf vs.toArray nn) ∈ rest) (hI : IntsAre vs ns) (lo₀ : (D₀ == sysModules) = false)
    (hex₀ : ∀ p ∈ (D₀, o₀) :: rest, ∀ q ∈ ex, p.1 ≠ q.1) (t0 : Tab prog w rest o₀ (G 0)) (hy : m₀ y = some (.ref D₀))
    (turn : ∀ I oI i n t D oD kn u1 u2 h tk, ns[i]? = some n → (∀ p ∈ rest, p ∈ kn) → (∀ p ∈ (D, oD) :: kn, ∀ q ∈ ex, p.1 ≠ q.1) → (D == sysModules) = false → Tab prog w kn oD (G i) → (∀ p ∈ (D, oD) :: (ex ++ kn), p.1 ≠ I) →
      Fr h₀ env.locals h (fun z => if z = x1 then u1 else if z = x2 then u2 else if z = y then some (.ref D) else m₀ z) → News h₀ env.locals h ((I, oI) :: (D, oD) :: (ex ++ kn)) →
      wpAny (model prog w) A (assign target env (.int n t)) (fun _ s₂ => wpAny (model prog w) A (execs body env) (TurnPost h₀ env.locals s I oI l (W.listOf vs.toArray nn)
        (fun m' n' => (∃ D oD kn, n' = (D, oD) :: (ex ++ kn) ∧ (∀ p ∈ rest, p ∈ kn) ∧ (∀ p ∈ (D, oD) :: kn, ∀ q ∈ ex, p.1 ≠ q.1) ∧ (D == sysModules) = false ∧ Tab prog w kn oD (G (i + 1)) ∧ m' y = some (.ref D)) ∧ ∀ z, z ≠ x1 → z ≠ x2 → z ≠ y → m' z = m₀ z) Q) E s₂) E { s with heap := h, toks := tk })
    (done : ∀ D oD kn u1 u2 h tk, (∀ p ∈ rest, p ∈ kn) → (∀ p ∈ (D, oD) :: kn, ∀ q ∈ ex, p.1 ≠ q.1) → (D == sysModules) = false → Tab prog w kn oD (G ns.length) →
      Fr h₀ env.locals h (fun z => if z = x1 then u1 else if z = x2 then u2 else if z = y then some (.ref D) else m₀ z) → News h₀ env.locals h ((D, oD) :: (ex ++ kn)) → Q .next { s with heap := h, toks := tk }) :
    wpAny (model prog w) A (pyIter (.ref l)) (fun it s₂ => TurnsAt prog w A h₀ env target body Q E it s₂) E s := by
  have hsub : ∀ kn : List (Addr × Obj), (l, W.listOf vs.toArray nn) ∈ kn → (l, W.listOf vs.toArray nn) ∈ ex ++ kn := fun kn h => List.mem_append.mpr (.inr h)
  refine list_turns hh F N (List.mem_cons_of_mem _ (hsub _ hm))
    (fun i m₁ n₁ => (∃ D oD kn, n₁ = (D, oD) :: (ex ++ kn) ∧ (∀ p ∈ rest, p ∈ kn) ∧ (∀ p ∈ (D, oD) :: kn, ∀ q ∈ ex, p.1 ≠ q.1) ∧ (D == sysModules) = false ∧ Tab prog w kn oD (G i) ∧ m₁ y = some (.ref D)) ∧ ∀ z, z ≠ x1 → z ≠ x2 → z ≠ y → m₁ z = m₀ z)
    ⟨⟨D₀, o₀, rest, rfl, fun _ h => h, hex₀, lo₀, t0, hy⟩, fun _ _ _ _ => rfl⟩ ?_ ?_
  · rintro I _ i v m₁ n₁ h tk oI hx ⟨⟨D, oD, kn, rfl, hs, he, lo, tD, h1⟩, h2⟩ hoff F₁ N₁
    have hlt : i < ns.length := by
      have := (List.getElem?_eq_some_iff.mp hx).1
      have := hI.length; omega
    obtain ⟨t, ht⟩ := hI.get i ns[i] (by simp [hlt])
    have hv : v = .int ns[i] t := Option.some.inj (hx.symm.trans ht)
    subst hv
    rw [frame3 h1 h2] at F₁
    exact turn I oI i ns[i] t D oD kn _ _ h tk (by simp [hlt]) hs he lo tD hoff F₁ N₁
  · rintro h tk m' n' F' N' ⟨⟨D, oD, kn, rfl, hs, he, lo, tD, h1⟩, h2⟩
    rw [hI.length] at tD
    rw [frame3 h1 h2] at F'
    exact done D oD kn _ _ h tk hs he lo tD F' N'
end
section
variable {prog : Program} {w : World} {A : Around} {E : Value → Shared → Prop} {s : Shared} {h₀ : Heap} {L d a : Addr} {m : Str → Option Value} {news kn : List (Addr × Obj)} {o ok : Obj} {T : List (Int × Int)} {n : Int}
theorem dict_made {env : Env} {keys : List (Option Expr)} {values : List Expr} {pos : Pos} {Q : Value → Shared → Prop} (ht : tupFirst keys = true) (F : Fr h₀ L s.heap m) (N : News h₀ L s.heap news)
    (hbig : h₀.NoLimit) (hall : keys.all (·.isSome) = true) (hl : keys.length = values.length) (h0 : keys ≠ []) (hlen : keys.length ≤ 15)
    (h : ∀ d h' o, Fr h₀ L h' m → News h₀ L h' ((d, o) :: news) → (∀ p ∈ news, p.1 < d) → (d == sysModules) = false → o.IsDictOf (intKind prog w) [] →
      wpAny (model prog w) A (evalPairs (pairTrees keys values env pos)) (TupStores prog w A E d Q) E { s with heap := h' }) :
    wpAny (model prog w) A (eval (.Dict keys values pos) env) Q E s :=
  Dict_tup_made ht F N (modules_low hbig) hall hl h0 hlen fun o F' N' lo hd => h _ _ o F' N' (fun p hp => Heap.lt_size (N p hp).1) lo hd
theorem tab_store1 {Q : PUnit → Shared → Prop} {v : Int} {tk : Tok} {gU : Obj → List (Addr × Obj)} (hu : A.units < cLine) (F : Fr h₀ L s.heap m) (N : News h₀ L s.heap news) (U : UpdF d o news gU) (t : Tab prog w [] o []) (hk : (a, ok) ∈ news) (k : KeyObj n ok)
    (h : ∀ h' o', Fr h₀ L h' m → News h₀ L h' (gU o') → Tab prog w [(a, ok)] o' [(n, v)] → Q ⟨⟩ { s with heap := h', toks := s.toks + 4 }) :
    wpAny (model prog w) A (storeAll d [(.ref a, .int v tk)]) Q E s := by
  obtain ⟨pre, post, hl, hg, ha, hb⟩ := U.split
  have hm : (d, o) ∈ news := by rw [hl]; exact List.mem_append_right _ (.head _)
  obtain ⟨xs, t1, t2, t3⟩ := t
  cases t3
  unfold storeAll
  rw [List.forIn_cons]
  refine wpAny_bind (wpAny_bind (wpAny_dictSet_heap (knd := soKind prog w) (k := n) (xs := []) (hsz := by simp) hu (k.at (N.get hk)) (t1.dictOf t2 N hm fun _ hp => nomatch hp) fun h' hm' hs' => wpAny_pure ?_))
  dsimp only
  rw [List.forIn_nil]
  refine wpAny_pure ?_
  obtain ⟨o', es', ep', ho', hc', hd', he', _, hn'⟩ := hm'
  refine h h' o' (F.change hs' (N _ hm).2.1 (N _ hm).2.2) ?_ ⟨_, ⟨hc', es', ep', hd', he', hn'⟩, fun x hx => ?_, .cons n a v tk .nil⟩
  · rw [hg]
    exact (show News h₀ L s.heap (pre ++ (d, o) :: post) from hl ▸ N).setIn ha hb hs' ho'
  · have : x = (n, a, .int v tk) := by simpa [storedH, atKey] using hx
    subst this
    exact ⟨ok, .head _, k⟩
end
theorem table_turn {prog : Program} {w : World} {h₀ h' : Heap} {L l b d D D2 I I2 : Addr} {lo ok o oD oD2 oI oI2 : Obj} {kn kn2 : List (Addr × Obj)} {m' m₀ : Str → Option Value} {s : Shared} {tk : Nat} {Q : Flow → Shared → Prop} {x1 x2 y : Str} {G : Nat → List (Int × Int)} {T : List (Int × Int)} {j : Nat}
    (F : Fr h₀ L h' m') (N : News h₀ L h' ((D, oD) :: (b, ok) :: (d, o) :: (I2, oI2) :: (D2, oD2) :: (I, oI) :: kn2)) (hs : ∀ p ∈ kn, p ∈ kn2) (he : ∀ p ∈ (D2, oD2) :: kn2, ∀ q ∈ [(I, oI)], p.1 ≠ q.1) (lo9 : (D == sysModules) = false)
    (hD : ∀ p ∈ (b, ok) :: (d, o) :: (I2, oI2) :: (D2, oD2) :: (I, oI) :: kn2, p.1 < D) (hb : d < b ∧ I2 < b ∧ D2 < b ∧ I < b ∧ AllLt b kn2) (hoff : ∀ p ∈ (D2, oD2) :: ([(I, oI)] ++ kn2), p.1 ≠ I2) (hl : (l, lo) ∈ kn2)
    (t : Tab prog w ((b, ok) :: kn2) oD T) (hT : G (j + 1) = T) (hy : m' y = some (.ref D)) (hf : ∀ z, z ≠ x1 → z ≠ x2 → z ≠ y → m' z = m₀ z) :
    TurnPost h₀ L s I2 oI2 l lo (fun m' n' => (∃ D oD kn', n' = (D, oD) :: ([(I, oI)] ++ kn') ∧ (∀ p ∈ kn, p ∈ kn') ∧ (∀ p ∈ (D, oD) :: kn', ∀ q ∈ [(I, oI)], p.1 ≠ q.1) ∧ (D == sysModules) = false ∧ Tab prog w kn' oD (G (j + 1)) ∧ m' y = some (.ref D)) ∧ ∀ z, z ≠ x1 → z ≠ x2 → z ≠ y → m' z = m₀ z) Q .next { s with heap := h', toks := tk } := by
  refine TurnPost.next (n' := (D, oD) :: ([(I, oI)] ++ ((b, ok) :: kn2))) F (fun p hp => N p ?_) ?_ (by simp [hl]) ⟨⟨D, oD, (b, ok) :: kn2, rfl, subC hs, ?_, lo9, hT ▸ t, hy⟩, hf⟩
  · simp only [List.mem_cons, List.mem_append, List.not_mem_nil, or_false] at hp ⊢
    rcases hp with h | h | h | h | h <;> simp [h]
  · intro p hp
    simp only [List.mem_cons, List.mem_append, List.not_mem_nil, or_false] at hp
    rcases hp with h | h | h | h
    · rw [h]; exact Nat.ne_of_gt (hD (I2, oI2) (by simp))
    · exact hoff p (by simp [h])
    · rw [h]; exact Nat.ne_of_gt hb.2.1
    · exact hoff p (by simp [h])
  · intro p hp q hq
    rw [List.mem_singleton.mp hq]
    rcases List.mem_cons.mp hp with h | hp
    · rw [h]; exact Nat.ne_of_gt (hD (I, oI) (by simp))
    · rcases List.mem_cons.mp hp with h | hp
      · rw [h]; exact Nat.ne_of_gt hb.2.2.2.1
      · exact he p (.tail _ hp) _ (.head _)
theorem table_turn2 {prog : Program} {w : World} {h₀ h' : Heap} {L l D2 I : Addr} {lo oD2 oI : Obj} {kn kn2 rest : List (Addr × Obj)} {m' m₀ : Str → Option Value} {s : Shared} {tk : Nat} {Q : Flow → Shared → Prop} {x1 x2 y : Str} {G : Nat → List (Int × Int)} {T : List (Int × Int)} {j : Nat}
    (F : Fr h₀ L h' m') (N : News h₀ L h' ((D2, oD2) :: (I, oI) :: kn2)) (hr : ∀ p ∈ rest, p ∈ kn) (hs : ∀ p ∈ kn, p ∈ kn2) (he : ∀ p ∈ (D2, oD2) :: kn2, ∀ q ∈ [(I, oI)], p.1 ≠ q.1) (lo9 : (D2 == sysModules) = false) (hl : (l, lo) ∈ kn2)
    (t : Tab prog w kn2 oD2 T) (hT : G (j + 1) = T) (hy : m' y = some (.ref D2)) (hf : ∀ z, z ≠ x1 → z ≠ x2 → z ≠ y → m' z = m₀ z) :
    TurnPost h₀ L s I oI l lo (fun m' n' => (∃ D oD kn', n' = (D, oD) :: ([] ++ kn') ∧ (∀ p ∈ rest, p ∈ kn') ∧ (∀ p ∈ (D, oD) :: kn', ∀ q ∈ ([] : List (Addr × Obj)), p.1 ≠ q.1) ∧ (D == sysModules) = false ∧ Tab prog w kn' oD (G (j + 1)) ∧ m' y = some (.ref D)) ∧ ∀ z, z ≠ x1 → z ≠ x2 → z ≠ y → m' z = m₀ z) Q .next { s with heap := h', toks := tk } := by
  refine TurnPost.next (n' := (D2, oD2) :: ([] ++ kn2)) F (fun p hp => N p ?_) ?_ (by simp [hl]) ⟨⟨D2, oD2, kn2, rfl, fun p hp => hs p (hr p hp), fun _ _ q hq => (nomatch hq), lo9, hT ▸ t, hy⟩, hf⟩
  · simp only [List.mem_cons, List.nil_append] at hp ⊢
    rcases hp with h | h | h <;> simp [h]
  · intro p hp
    exact he p (by simpa using hp) (I, oI) (.head _)
section
variable {w : World} {mean : ExcName → Option Value} {mg mb : Str → Option Value} {dp un : Nat} {gd : Option (List Code)} {cn : Str} {cs : Scope} {a : Addr} {ccd : Value} {cl : List (Str × Addr)} {outer : List Env} {A₀ : Around} {base h₀ : Heap} {L : Addr} {m : Str → Option Value} {news kn : List (Addr × Obj)} {s : Shared} {Q E : Value → Shared → Prop}
theorem addKey (c : Cx w mean mg mb dp un cs outer A₀ base h₀ L m news s 1) {D d2 b : Addr} {oD o2 ok : Obj} {T : List (Int × Int)} {n : Int} (lo1 : (D == sysModules) = false) (lo2 : (d2 == sysModules) = false) (hm1 : (D, oD) ∈ news) (hm2 : (d2, o2) ∈ news) (hkn : ∀ p ∈ kn, p ∈ news) (hb : (b, ok) ∈ news)
   (t1 : Tab PySem.Challenge.rw_gm0004_01.row.prog w kn oD T) (t2 : Tab PySem.Challenge.rw_gm0004_01.row.prog w [(b, ok)] o2 [(n, 1)]) (hz : T.length ≤ 900)
   (hret : ∀ (D' : Addr) (oD' : Obj) (h' : Heap) (tk' : Nat), (D' == sysModules) = false → (∀ p ∈ news, p.1 < D') → Tab PySem.Challenge.rw_gm0004_01.row.prog w ((b, ok) :: kn) oD' (bumpT T n 1) → Fr h₀ L h' m → News h₀ L h' ((D', oD') :: news) → Q (.ref D') { s with heap := h', toks := tk' }) :
   wpAny (model PySem.Challenge.rw_gm0004_01.row.prog w) (ktrTop dp un gd cn cs L a ccd cl outer) (call (.ref 39) [.ref D, .ref d2]) Q E s :=
  add2 (kn := (b, ok) :: kn) c lo1 lo2 hm1 hm2 (fun p hp => by rcases List.mem_cons.mp hp with e | hp; · rw [e]; exact hb
                                                               · exact hkn p hp) (t1.mono fun p hp => List.mem_cons_of_mem _ hp) (t2.mono fun p hp => by rw [List.mem_singleton.mp hp]; exact .head _) (by simp; omega) hret
end
end Mine

/-! part C6 -/
set_option maxRecDepth 100000
set_option maxHeartbeats 8000000
namespace Mine
section
local macro_rules | `(tactic| k_enter) => `(tactic| (refine' code_def ?k1 ?k2 ?k3 ?k4 ?k5 ?kA ?kF ?kK ?k6 ?k7 ?k8 ?k9 ?kB ?_ ?c2 ?c3 ?c4 ?c5; (case kA => exact rfl); (case kF => exact rfl); (case kK => assumption); (case k1 => k_asm); (case k2 => k_asm); (case k3 => k_asm); (case k4 => k_asm); (case k5 => k_asm); (case k6 => k_is); (case k7 => k_is); (case k8 => ktr_room); (case k9 => first | exact BindsTo.of_eq rfl | exact binds_K (by k_in) rfl (by k_is) rfl rfl rfl | (refine' kp_binds ?kx ?ke; (case kx => k_in); (case ke => exact fun _ => rfl)) | fail "k_enter: no rule for these arguments"); (case c5 => decide); (case kB => exact locs rfl); (case c2 => exact rfl); (case c3 => exact rfl); (case c4 => exact rfl); k_whole; intro g' L' h' FG' F' N' B' X' T'; (try dsimp only); (try k_lift B'); (try k_fold)))
local macro_rules | `(tactic| k_all) => `(tactic| (intro p9 hp9; exact Nat.ne_of_lt ((by assumption : ∀ p ∈ _, p.1 < _) p9 hp9)))
local macro_rules | `(tactic| k_mem) => `(tactic| assumption)
local macro_rules | `(tactic| walk_at "exec For Name Name cons nil") => `(tactic| (k_here; (rename Fr _ _ _ _ => lF'); (with_unfolding_all refine' For_turns lF' ?_); k_whole))
local macro_rules | `(tactic| mul_fits) => `(tactic| exact PySem.IntMulOk.of_left (PySem.intBits_le_64 (by omega) (by omega)))
local macro_rules | `(tactic| walk_at "eval Dict") => `(tactic| (k_here; k_dflt (refine' dict_made (by with_unfolding_all rfl) ?k1 ?k2 (TopRead.nolimit (by k_asm)) (by with_unfolding_all rfl) (by with_unfolding_all rfl) (List.cons_ne_nil _ _) (by with_unfolding_all decide) ?_; (case k1 => k_asm); (case k2 => k_asm); k_whole); intro d9 h9 o9 F9 N9 hl9 lo9 hd9))
local macro_rules | `(tactic| walk_at "TupStores") => `(tactic| (k_here; (dsimp only [TupStores]); k_dflt (refine' tab_store1 ?u ?F ?N ?U ?t ?k ?q ?_; (case F => k_asm); (case N => k_asm); (case U => k_updF); (case t => exact Tab.empty (by assumption)); (case k => k_mem); (case q => exact ⟨rfl, _, _, _, _, rfl⟩); (case u => ktr_units)); k_whole; intro h9 o9 F9 N9 t9))
local macro_rules | `(tactic| walk_at "call ref") => `(tactic| (k_here; (with_reducible show wpAny _ _ (call (Value.ref 39) [Value.ref _, Value.ref _]) _ _ _); k_dflt (refine' addKey ⟨?k1, ?k2, ?k3, ?k4, ?k5, ?k6, ?k7, ?k8⟩ ?l1 ?l2 ?m1 ?m2 ?kn ?b ?t1 ?t2 ?z ?_; (case k1 => k_asm); (case k2 => k_asm); (case k3 => k_asm); (case k4 => k_asm); (case k5 => k_asm); (case k6 => first | exact rfl | assumption); (case k7 => ktr_room); (case k8 => ktr_units); (case t2 => assumption); (case l1 => assumption); (case l2 => assumption); (case m2 => k_mem); (case b => k_mem); (case m1 => k_mem); (case t1 => assumption); (case kn => exact subC (subC (subC (subC (subC (fun _ hp => hp)))))); (case z => omega)); k_whole; intro D9 o9 h9 tk9 lo9 hD9 t9 F9 N9; (try dsimp only); (try k_fold)))
variable {w : World} {mean : ExcName → Option Value} {mg mb : Str → Option Value} {dp un : Nat} {gd : Option (List Code)} {cn : Str} {cs : Scope} {a : Addr} {ccd : Value} {cl : List (Str × Addr)} {outer : List Env} {A₀ : Around} {base h₀ : Heap} {L : Addr} {m : Str → Option Value} {news kn : List (Addr × Obj)} {s : Shared} {Q E : Value → Shared → Prop}
theorem news_swap {h₀ h : Heap} {L : Addr} {p q : Addr × Obj} {r : List (Addr × Obj)} (N : News h₀ L h (p :: q :: r)) : News h₀ L h (q :: p :: r) := fun x hx => N x (by
  rcases List.mem_cons.mp hx with e | hx
  · exact .tail _ (e ▸ .head _)
  · rcases List.mem_cons.mp hx with e | hx
    · exact e ▸ .head _
    · exact .tail _ (.tail _ hx))
theorem table2 (c : Cx w mean mg mb dp un cs outer A₀ base h₀ L m news s 2) {l : Addr} {vs : List Value} {ns : List Int} {nn : Nat} {sg : Int} {ts : Tok}
   (hl : (l, W.listOf vs.toArray nn) ∈ news) (hI : IntsAre vs ns) (hlen : ns.length ≤ 6) (hb : ∀ x ∈ ns, 0 ≤ x ∧ x ≤ 40) (hsg : -1 ≤ sg ∧ sg ≤ 1)
   (hret : ∀ (D : Addr) (oD : Obj) (kn : List (Addr × Obj)) (h' : Heap) (tk' : Nat), (D == sysModules) = false → (∀ p ∈ news, p ∈ kn) → Tab PySem.Challenge.rw_gm0004_01.row.prog w kn oD (tableT ns sg) → Fr h₀ L h' m → News h₀ L h' ((D, oD) :: kn) → Q (.ref D) { s with heap := h', toks := tk' }) :
   wpAny (model PySem.Challenge.rw_gm0004_01.row.prog w) (ktrTop dp un gd cn cs L a ccd cl outer) (call (.ref 53) [.ref l, .int sg ts]) Q E s := by
  have z0 : PySem.Challenge.rw_gm0004_01.row.prog = PySem.Challenge.rw_gm0004_01.row.prog ∧ hd.heap_39 = hd.heap_39 := by (k_fill; exact ⟨rfl, rfl⟩)
  clear z0
  obtain ⟨B, F, X, N, T', hk, hdp, hun⟩ := c
  refine wpAny_call ?_
  k_dflt k_enter
  k_steps
  rename Fr _ _ _ _ => lF
  rename News _ _ _ _ => lN
  rename Obj.IsDictOf (PySem.strKind _ _) _ _ => lO
  with_unfolding_all refine' list_table (Str.ofString "other") (Str.ofString "one") (Str.ofString "table") (ex := []) (fun i => (ns.take i).foldl (fun T one => rowT ns sg one T) []) (by rfl) lF lN hl hI (by assumption) (by intro p _ q hq; nomatch hq) (Tab.empty lO) (by rfl) ?q1 ?q2
  case q1 =>
    intro I oI i n t D oD kn u1 u2 h tk hn hs he lo tD hoff F9 N9
    clear lF lN lO
    k_steps
    rename Fr _ _ _ _ => lF
    rename News _ _ _ _ => lN
    with_unfolding_all refine' list_table (Str.ofString "other") (Str.ofString "other") (Str.ofString "table") (ex := [(I, oI)]) (fun j => (ns.take j).foldl (fun T other => bumpT T (n + sg * other) 1) ((ns.take i).foldl (fun T one => rowT ns sg one T) [])) (by rfl) lF (news_swap lN) (hs _ hl) hI lo (fun p hp q hq => by rw [List.mem_singleton.mp hq]; exact hoff p hp) tD (by rfl) ?q3 ?q4
    case q3 =>
      intro I2 oI2 j n2 t2 D2 oD2 kn2 v1 v2 h2 tk2 hn2 hs2 he2 lo2 tD2 hoff2 F9 N9
      clear lF lN
      change News _ _ _ ((I2, oI2) :: (D2, oD2) :: (I, oI) :: kn2) at N9
      have hz := in_len (ns := ns) (sg := sg) (one := n) (i := i) (j := j) hlen
      have hb1 := hb n (List.mem_of_getElem? hn)
      have hb2 := hb n2 (List.mem_of_getElem? hn2)
      k_steps
      refine' table_turn (G := fun j => (ns.take j).foldl (fun T other => bumpT T (n + sg * other) 1) ((ns.take i).foldl (fun T one => rowT ns sg one T) [])) ?F ?N hs2 he2 ?lo ?hD ?l1 hoff2 (hs2 _ (hs _ hl)) ?t (fold_succ hn2) ?y ?fr
      case F => assumption
      case N => assumption
      case lo => assumption
      case hD => assumption
      case l1 => assumption
      case t => assumption
      case y => with_unfolding_all rfl
      case fr => (intro z h1 h2 h3; simp [h1, h3])
    case q4 =>
      intro D2 oD2 kn2 v1 v2 h2 tk2 hs2 he2 lo2 tD2 F9 N9
      clear lF lN
      change News _ _ _ ((D2, oD2) :: (I, oI) :: kn2) at N9
      rw [List.take_length] at tD2
      k_steps
      refine' table_turn2 (G := fun i => (ns.take i).foldl (fun T one => rowT ns sg one T) []) ?F ?N hs hs2 he2 lo2 (hs2 _ (hs _ hl)) ?t (fold_succ hn) ?y ?fr
      case F => assumption
      case N => assumption
      case t => exact tD2
      case y => with_unfolding_all rfl
      case fr => (intro z h1 h2 h3; simp [h1, h2, h3])
  case q2 =>
    intro D oD kn u1 u2 h tk hs he lo tD F9 N9
    clear lF lN lO
    change News _ _ _ ((D, oD) :: kn) at N9
    rw [List.take_length] at tD
    k_steps
    exact hret _ _ _ _ _ lo hs tD (by assumption) (by assumption)
end
end Mine

/-! part D6 -/
set_option maxRecDepth 100000
set_option maxHeartbeats 8000000
namespace Mine
theorem frame1 {x : Str} {m₀ m₁ : Str → Option Value} (h2 : ∀ z, z ≠ x → m₁ z = m₀ z) : m₁ = fun z => if z = x then m₁ x else m₀ z := by
  funext z
  by_cases hx : z = x
  · simp [hx]
  · simp only [if_neg hx]; exact h2 z hx
section
variable {prog : Program} {w : World} {A : Around} {E : Value → Shared → Prop} {s : Shared} {env : Env} {h₀ : Heap} {body : List Stmt} {Q : Flow → Shared → Prop}
theorem list_ins {target : Expr} (x : Str) {l D : Addr} {vsS : List Value} {nsS : List Int} {nnS : Nat} {rest : List (Addr × Obj)} {m₀ : Str → Option Value} (P : List Int → List Int → Prop)
    (hh : A.handled = none) (F : Fr h₀ env.locals s.heap m₀) (N : News h₀ env.locals s.heap ((D, W.listOf vsS.toArray nnS) :: (l, W.listOf #[] 0) :: rest)) (hS : IntsAre vsS nsS) (hP : P [] [])
    (turn : ∀ I oI i c t vs ns k u h tk, nsS[i]? = some c → IntsAre vs ns → P (nsS.take i) ns → (∀ p ∈ (D, W.listOf vsS.toArray nnS) :: (l, W.listOf #[] 0) :: rest, p.1 < I) →
      Fr h₀ env.locals h (fun z => if z = x then u else m₀ z) → News h₀ env.locals h ((I, oI) :: (D, W.listOf vsS.toArray nnS) :: (l, W.listOf vs.toArray k) :: rest) →
      wpAny (model prog w) A (assign target env (.int c t)) (fun _ s₂ => wpAny (model prog w) A (execs body env) (TurnPost h₀ env.locals s I oI D (W.listOf vsS.toArray nnS)
        (fun m' n' => (∃ vs' ns' k', n' = (D, W.listOf vsS.toArray nnS) :: (l, W.listOf vs'.toArray k') :: rest ∧ IntsAre vs' ns' ∧ P (nsS.take (i + 1)) ns') ∧ ∀ z, z ≠ x → m' z = m₀ z) Q) E s₂) E { s with heap := h, toks := tk })
    (done : ∀ vs ns k u h tk, IntsAre vs ns → P nsS ns → Fr h₀ env.locals h (fun z => if z = x then u else m₀ z) → News h₀ env.locals h ((D, W.listOf vsS.toArray nnS) :: (l, W.listOf vs.toArray k) :: rest) → Q .next { s with heap := h, toks := tk }) :
    wpAny (model prog w) A (pyIter (.ref D)) (fun it s₂ => TurnsAt prog w A h₀ env target body Q E it s₂) E s := by
  refine list_turns hh F N (.head _)
    (fun i m₁ n₁ => (∃ vs' ns' k', n₁ = (D, W.listOf vsS.toArray nnS) :: (l, W.listOf vs'.toArray k') :: rest ∧ IntsAre vs' ns' ∧ P (nsS.take i) ns') ∧ ∀ z, z ≠ x → m₁ z = m₀ z)
    ⟨⟨[], [], 0, rfl, .nil, hP⟩, fun _ _ => rfl⟩ ?_ ?_
  · rintro I hI i v m₁ n₁ h tk oI hx ⟨⟨vs', ns', k', rfl, hi', hp'⟩, h2⟩ hoff F₁ N₁
    have hlt : i < nsS.length := by
      have := (List.getElem?_eq_some_iff.mp hx).1
      have := hS.length; omega
    obtain ⟨t, ht⟩ := hS.get i nsS[i] (by simp [hlt])
    have hv : v = .int nsS[i] t := Option.some.inj (hx.symm.trans ht)
    subst hv
    rw [frame1 h2] at F₁
    exact turn I oI i nsS[i] t vs' ns' k' _ h tk (by simp [hlt]) hi' hp' hI F₁ N₁
  · rintro h tk m' n' F' N' ⟨⟨vs', ns', k', rfl, hi', hp'⟩, h2⟩
    rw [hS.length, List.take_length] at hp'
    rw [frame1 h2] at F'
    exact done vs' ns' k' _ h tk hi' hp' F' N'
end
/-- what the first loop keeps of the numbers -/
def NumP (pre ns : List Int) : Prop := ns.Pairwise (· < ·) ∧ (∀ x ∈ ns, 0 ≤ x ∧ x ≤ 40) ∧ ns.length ≤ pre.length
theorem numP_nil : NumP [] [] := ⟨.nil, fun _ h => (nomatch h), Nat.le_refl _⟩
theorem numP_old {S ns : List Int} {i : Nat} {c : Int} (h : NumP (S.take i) ns) (hc : S[i]? = some c) : NumP (S.take (i + 1)) ns := by
  refine ⟨h.1, h.2.1, ?_⟩
  have := h.2.2
  rw [List.take_add_one, hc]; simp; rw [List.length_take] at this; omega
theorem insI_strict {x : Int} : ∀ {ns : List Int}, ns.Pairwise (· < ·) → x ∉ ns → (insI x ns).Pairwise (· < ·)
  | [], _, _ => by simp [insI]
  | y :: r, h, hx => by
    rw [List.pairwise_cons] at h
    rw [List.mem_cons, not_or] at hx
    unfold insI
    split
    · rename_i hy
      refine List.pairwise_cons.mpr ⟨fun v hv => ?_, insI_strict h.2 hx.2⟩
      rcases mem_insI.mp hv with e | hv
      · omega
      · exact h.1 v hv
    · rename_i hy
      refine List.pairwise_cons.mpr ⟨fun v hv => ?_, List.pairwise_cons.mpr h⟩
      rcases List.mem_cons.mp hv with e | hv
      · omega
      · have := h.1 v hv; omega
theorem numP_new {S ns : List Int} {i : Nat} {c : Int} (h : NumP (S.take i) ns) (hc : S[i]? = some c) (hn : ¬ Int.fmod c 41 ∈ ns) : NumP (S.take (i + 1)) (insI (Int.fmod c 41) ns) := by
  refine ⟨insI_strict h.1 hn, fun v hv => ?_, ?_⟩
  · rcases mem_insI.mp hv with e | hv
    · subst e
      have h1 := fmod_lo c (n := 41) (by omega)
      have h2 := fmod_hi c (n := 41) (by omega)
      omega
    · exact h.2.1 v hv
  · have := h.2.2
    rw [insI_length, List.take_add_one, hc]; simp; rw [List.length_take] at this
    have := (List.getElem?_eq_some_iff.mp hc).1
    omega
theorem sorted_of_strict {ns : List Int} (h : ns.Pairwise (· < ·)) : ns.Pairwise (· ≤ ·) := h.imp fun h => Int.le_of_lt h
end Mine

/-! part D7 -/
set_option maxRecDepth 100000
set_option maxHeartbeats 400000
namespace Mine
theorem ledger1 {h₀ h : Heap} {L D : Addr} {oD : Obj} {news kn : List (Addr × Obj)} (N : News h₀ L h ((D, oD) :: kn)) (hs : ∀ p ∈ news, p ∈ kn) : News h₀ L h ((D, oD) :: (news ++ kn)) := fun p hp => N p (by
  rcases List.mem_cons.mp hp with e | hp
  · exact e ▸ .head _
  · rcases List.mem_append.mp hp with hp | hp
    · exact .tail _ (hs _ hp)
    · exact .tail _ hp)
theorem key_not_cell {n : Int} {o : Obj} {v : Option Value} (hd : o.data = .cell v) : ¬ KeyObj n o := fun ⟨_, _, _, _, _, e⟩ => by rw [hd] at e; cases e
theorem tab_keep {prog : Program} {w : World} {h : Heap} {c : Addr} {oc o : Obj} {v : Option Value} {kn : List (Addr × Obj)} {T : List (Int × Int)} (t : Tab prog w kn o T) (hN : ∀ p ∈ kn, h.get? p.1 = some p.2) (hc : h.get? c = some oc) (hd : oc.data = .cell v) :
    Tab prog w (kn.filter fun p => decide (p.1 ≠ c)) o T := by
  obtain ⟨xs, t1, t2, t3⟩ := t
  refine ⟨xs, t1, fun x hx => ?_, t3⟩
  obtain ⟨ok, hm, hk⟩ := t2 x hx
  refine ⟨ok, List.mem_filter.mpr ⟨hm, ?_⟩, hk⟩
  by_cases e : x.2.1 = c
  · have h1 := hN _ hm
    simp only [e, hc] at h1
    cases h1
    exact absurd hk (key_not_cell hd)
  · simpa using e
theorem ledger2 {prog : Program} {w : World} {h₀ h : Heap} {L D D9 c : Addr} {oD o9 oc : Obj} {v : Option Value} {news kn kn9 : List (Addr × Obj)} {T T9 : List (Int × Int)}
    (N : News h₀ L h ((D, oD) :: kn)) (hs : ∀ p ∈ (D9, o9) :: (news ++ kn9), p ∈ kn) (t : Tab prog w kn oD T) (t9 : Tab prog w kn9 o9 T9) (hc : (c, oc) ∈ news) (hd : oc.data = .cell v) :
    ∃ K, (∀ p ∈ K, p.1 ≠ c) ∧ Tab prog w K oD T ∧ Tab prog w K o9 T9 ∧ News h₀ L h ((D, oD) :: (D9, o9) :: (news ++ K)) := by
  have hN : ∀ p ∈ kn, h.get? p.1 = some p.2 := fun p hp => (N p (.tail _ hp)).1
  have hcc := hN _ (hs _ (.tail _ (List.mem_append_left _ hc)))
  refine ⟨kn.filter fun p => decide (p.1 ≠ c), fun p hp => by simpa using (List.mem_filter.mp hp).2, tab_keep t hN hcc hd, tab_keep (t9.mono fun p hp => hs _ (.tail _ (List.mem_append_right _ hp))) hN hcc hd, fun p hp => N p ?_⟩
  rcases List.mem_cons.mp hp with e | hp
  · exact e ▸ .head _
  · refine .tail _ ?_
    rcases List.mem_cons.mp hp with e | hp
    · exact hs _ (e ▸ .head _)
    · rcases List.mem_append.mp hp with hp | hp
      · exact hs _ (.tail _ (List.mem_append_left _ hp))
      · exact (List.mem_filter.mp hp).1
/-- the mark of the cell that is stored later -/
def StepCell (o : Obj) : Prop := ∃ v, o.data = .cell v
/-- how the ledger after the first table is put together -/
def SplitL (all news kn : List (Addr × Obj)) : Prop := all = news ++ kn
theorem splitL_of {news kn : List (Addr × Obj)} (_ : ∀ p ∈ news, p ∈ kn) : SplitL (news ++ kn) news kn := rfl
theorem tab_not_cell {prog : Program} {w : World} {h : Heap} {D c : Addr} {oD oc : Obj} {v : Option Value} {kn : List (Addr × Obj)} {T : List (Int × Int)} (t : Tab prog w kn oD T) (hD : h.get? D = some oD) (hc : h.get? c = some oc) (hd : oc.data = .cell v) : @Ne Nat D c := fun e => by
  obtain ⟨xs, ⟨_, es, ep, hdat, _⟩, _⟩ := t
  have e' : D = c := e
  subst e'
  rw [hD] at hc
  cases hc
  rw [hd] at hdat
  cases hdat
theorem ledger3 {prog : Program} {w : World} {h₀ h : Heap} {L D D9 c : Addr} {oD o9 oc : Obj} {all news kn kn9 : List (Addr × Obj)} {T T9 : List (Int × Int)}
    (hd : StepCell oc) (hq : SplitL all news kn9) (N : News h₀ L h ((D, oD) :: kn)) (hs : ∀ p ∈ (D9, o9) :: all, p ∈ kn) (t : Tab prog w kn oD T) (t9 : Tab prog w kn9 o9 T9) (hc : (c, oc) ∈ news) :
    ∃ K, (∀ p ∈ K, p.1 ≠ c) ∧ (@Ne Nat D c ∧ @Ne Nat D9 c) ∧ Tab prog w K oD T ∧ Tab prog w K o9 T9 ∧ News h₀ L h ((D, oD) :: (D9, o9) :: (news ++ K)) := by
  obtain ⟨_, e⟩ := hd
  subst hq
  obtain ⟨K, a1, a2, a3, a4⟩ := ledger2 N hs t t9 hc e
  have hcc : h.get? c = some oc := (a4 _ (.tail _ (.tail _ (List.mem_append_left _ hc)))).1
  exact ⟨K, a1, ⟨tab_not_cell a2 (a4 _ (.head _)).1 hcc e, tab_not_cell a3 (a4 _ (.tail _ (.head _))).1 hcc e⟩, a2, a3, a4⟩
theorem allLt_ne {d : Addr} {l : List (Addr × Obj)} (h : AllLt d l) : ∀ p ∈ l, p.1 ≠ d := by
  induction l with
  | nil => intro p hp; cases hp
  | cons q r ih =>
    obtain ⟨h1, h2⟩ := h
    intro p hp
    rcases List.mem_cons.mp hp with e | hp
    · subst e; exact Nat.ne_of_lt h1
    · exact ih h2 p hp
end Mine

/-! part D8 -/
set_option maxRecDepth 100000
set_option maxHeartbeats 400000
namespace Mine
theorem off_cons {C D : Addr} {o : Obj} {nw : List (Addr × Obj)} (h : C ≠ D) (off : ∀ p ∈ nw, p.1 ≠ C) : ∀ p ∈ (D, o) :: nw, p.1 ≠ C := List.forall_mem_cons.mpr ⟨Ne.symm h, off⟩
section
variable {prog : Program} {w : World} {A : Around} {E : Value → Shared → Prop} {s : Shared} {h₀ : Heap} {L : Addr} {m : Str → Option Value} {env : Env}
def SrcV (prog : Program) (w : World) (A : Around) (h₀ : Heap) (L : Addr) (m : Str → Option Value) (env : Env) (elt : Expr) (x : Str) (scope : Scope) (cl : List (Str × Addr)) (Q : Value → Shared → Prop) (xv : Value) (s₁ : Shared) : Prop :=
  ∃ (vw d : Addr) (od : Obj) (T : List (Int × Int)) (news kn : List (Addr × Obj)), xv = .ref vw ∧ A.handled = none ∧ Fr h₀ L s₁.heap m ∧ News h₀ L s₁.heap news ∧ s₁.heap.IsValuesView vw d ∧ (d, od) ∈ news ∧ Tab prog w kn od T ∧ T.length ≤ sizeLine ∧
    ∀ g, LCg.CompRest prog w A h₀ L m env elt x scope cl { s₁ with heap := g } (fun nw => (d, od) ∈ nw) (fun i v => ∃ k t, (T.map (·.2))[i]? = some k ∧ v = .int k t) (LCg.FinE h₀ L m { s₁ with heap := g } Q) T.length 0 [] news
theorem SrcV.of {elt : Expr} {x : Str} {scope : Scope} {cl : List (Str × Addr)} {Q : Value → Shared → Prop} {vw d : Addr} {od : Obj} {T : List (Int × Int)} {news kn : List (Addr × Obj)} {s₁ : Shared} (g : Int → Int)
    (hh : A.handled = none) (F : Fr h₀ L s₁.heap m) (N : News h₀ L s₁.heap news) (hv : s₁.heap.IsValuesView vw d) (hm : (d, od) ∈ news) (t : Tab prog w kn od T) (hsz : T.length ≤ 900)
    (turn : ∀ (s : Shared) k t I oI C oC D m₂ ys h tk (E' : Value → Shared → Prop), k ∈ T.map (·.2) → LCg.NsObj oC m₂ → m₂ x = some (.int k t) → Fr h₀ L h m → News h₀ L h ((I, oI) :: (C, oC) :: (D, LCg.lst ys) :: news) → LCg.Off3 I C D news → ((@Ne Nat I C) ∧ (@Ne Nat I D) ∧ (@Ne Nat C D)) → KPfMark →
      wpAny (model prog w) A (eval elt (compEnvC scope cl C env)) (LCg.CompEnd h₀ L m { s with heap := h, toks := tk } I oI C oC D (LCg.lst ys) (fun nw => (d, od) ∈ nw) (fun y news' => KCfEl news (g k) y news')) E' { s with heap := h, toks := tk })
    (fin : ∀ ys D h tk, IntsAre ys ((T.map (·.2)).map g) → Fr h₀ L h m → News h₀ L h ((D, LCg.lst ys) :: news) → LCg.Off1 D news → Q (.ref D) { s₁ with heap := h, toks := tk }) :
    SrcV prog w A h₀ L m env elt x scope cl Q (.ref vw) s₁ := by
  refine ⟨vw, d, od, T, news, kn, rfl, hh, F, N, hv, hm, t, Nat.le_trans hsz (by decide), fun h => ?_⟩
  refine kcf_rest (ks := T.map (·.2)) g (by simp) (fun i v _ hv => hv) (turn _) ?_
  intro ys hys D h tk F' N' o'
  exact fin ys D h tk hys F' N' o'
theorem ListComp_V {elt iter : Expr} {x : Str} {px : Pos} {scope : Scope} {cl : List (Str × Addr)} {pos : Pos} {Q : Value → Shared → Prop} (F₀ : Fr h₀ L s.heap m)
    (hclos : closureFor scope env = pure cl) (hcell : ∀ y ∈ scope.names, y.2 ≠ .cell) (hkind : scope.kind = .function)
    (hnames : ∀ y ∈ scope.names, y.2 = .local → scope.names.lookup y.1 = some .local) (hx : scope.names.lookup x = some .local)
    (h : wpAny (model prog w) A (eval iter env) (SrcV prog w A h₀ L m env elt x scope cl Q) E s)
    (hs : ∀ x, foldedSetIterable iter env x = pure x := by intro _; rfl) :
    wpAny (model prog w) A (eval (.ListComp elt [⟨.Name x px, iter, [], 0⟩] scope pos) env) Q E s := by
  rw [eval_ListComp]
  refine wpAny_comprehension_free (use := none) rfl hs hclos hkind hnames (wpAny_mono h (fun xv s₁ h₁ => ?_) fun _ _ e => e)
  obtain ⟨vw, d, od, T, news, kn, rfl, hh, F, N, hv, hm, t, hsz, R⟩ := h₁
  obtain ⟨xs, t1, t2, t3⟩ := t
  obtain ⟨es, ep, r, he⟩ := t1.raw (N _ hm).1
  have hz : es.size = T.length := by rw [← Array.length_toList, he, List.length_map, t3.length]
  have hdl : d < s₁.heap.objs.size := Heap.lt_size (N _ hm).1
  refine raw_iterValues hv r ?_
  have up : ∀ b o, s₁.heap.get? b = some o → (s₁.heap.push { cls := .type "dict_valueiterator", data := .fields #[.ref d, .int 0 0, .int es.size 0, .int ep 0] }).get? b = some o := fun b o e => Heap.get?_push_of_some _ e
  refine LCg.block_U (I := s₁.heap.objs.size) (fp := [s₁.heap.objs.size, d]) (n := T.length) (P := fun i v => ∃ k t, (T.map (·.2))[i]? = some k ∧ v = .int k t) (St := fun i h => h.IsValIter s₁.heap.objs.size d i es.size ep ∧ RawAt h d es ep) (S := fun nw => (d, od) ∈ nw)
    ?W hsz (fun i h st => ?io) (fun i h h' o nw st e e' _ N' S' => ?st) hcell hkind hx ?st0 (fun b hb => ?fp)
      (F.keeps up) (N.grown up) (Nat.ne_of_lt F.ns.lt) (next_is_new F) (fun p hp => Nat.ne_of_lt (Heap.lt_size (N p hp).1)) hm (R _) ?_
  case W =>
    have W := raw_walkValues (prog := prog) (w := w) hh s₁.heap.objs.size d (Nat.ne_of_lt hdl) es ep
    rw [← hz]
    exact { sub := W.sub, frame := W.frame, done := W.done, self := W.self, item := fun i s Q E hi st hQ => W.item i s Q E hi st fun v h' tk hP => hQ v h' tk (by
      obtain ⟨e, h1, h2⟩ := hP
      rw [← Array.getElem?_toList, he, List.getElem?_map] at h1
      obtain ⟨x, h3, h6⟩ := Option.map_eq_some_iff.mp h1
      subst h6
      obtain ⟨c, t, h4, h5⟩ := t3.get h3
      exact ⟨c, t, by rw [List.getElem?_map, h5]; rfl, h2.trans h4⟩) }
  case io => obtain ⟨o, e, _⟩ := st.1; exact ⟨o, e⟩
  case st =>
    obtain ⟨o', q, r'⟩ := st.1
    rw [e] at q; cases q
    exact ⟨⟨o, e', r'⟩, by
      obtain ⟨o1, ho1, hc1, hd1⟩ := r
      have : o1 = od := by have := (N _ hm).1; rw [ho1] at this; exact Option.some.inj this
      subst this
      exact ⟨o1, (N' _ S').1, hc1, hd1⟩⟩
  case st0 => exact ⟨⟨_, Heap.get?_push_size _ rfl, rfl, rfl⟩, r.at fun o e => up _ o e⟩
  case fp =>
    show b < (s₁.heap.push _).objs.size
    rw [Heap.size_push]
    rcases List.mem_cons.mp hb with rfl | hb
    · exact Nat.lt_succ_self _
    · rw [List.mem_singleton.mp hb]; exact Nat.lt_succ_of_lt hdl
  intro D C h tk m' ys nw F' N' o1 hn hC₀ _ hCL _ hCD offC fin
  exact ⟨m', hn, fun g k => fin D g tk (F'.change k hCL hC₀) (fun p hp => ⟨k.extBut _ _ (off_cons hCD offC p hp) (N' p hp).1, (N' p hp).2⟩) o1⟩
end
end Mine

/-! part D9 -/
set_option maxRecDepth 100000
set_option maxHeartbeats 400000
namespace Mine
/-- the counts that a test lets through -/
def passT (P : Int → Int → Bool) (T : List (Int × Int)) : List Int := (T.filter fun p => P p.1 p.2).map (·.2)
theorem passT_succ {P : Int → Int → Bool} {T : List (Int × Int)} {i : Nat} {n c : Int} (h : T[i]? = some (n, c)) : passT P (T.take (i + 1)) = passT P (T.take i) ++ (if P n c then [c] else []) := by
  unfold passT
  rw [List.take_add_one, h, List.filter_append, List.map_append]
  cases q : P n c <;> simp [q]
section
variable {prog : Program} {w : World} {A : Around} {E : Value → Shared → Prop} {s : Shared} {h₀ : Heap} {L : Addr} {m : Str → Option Value} {env : Env}
/-- where a step within the block ends: the same names, the same ledger -/
def Same (h₀ : Heap) (L : Addr) (m : Str → Option Value) (news : List (Addr × Obj)) (s s' : Shared) : Prop := ∃ h' tk, s' = { s with heap := h', toks := tk } ∧ Fr h₀ L h' m ∧ News h₀ L h' news
/-- one item's test and one item's element -/
def ItemStep (prog : Program) (w : World) (A : Around) (h₀ : Heap) (L : Addr) (m : Str → Option Value) (env : Env) (test elt : Expr) (a b : Str) (scope : Scope) (cl : List (Str × Addr)) (news : List (Addr × Obj)) (P : Int → Int → Bool) : Prop :=
  ∀ (s : Shared) n c t ka ok I oI C oC D oD m₂ h tk (E' : Value → Shared → Prop), (ka, ok) ∈ news → KeyObj n ok → LCg.NsObj oC m₂ → m₂ a = some (.ref ka) → m₂ b = some (.int c t) → Fr h₀ L h m → News h₀ L h ((I, oI) :: (C, oC) :: (D, oD) :: news) →
    wpAny (model prog w) A (isTrue test (compEnvC scope cl C env) (eval test (compEnvC scope cl C env))) (fun okb s₃ => okb = P n c ∧ Same h₀ L m ((I, oI) :: (C, oC) :: (D, oD) :: news) s s₃) E' { s with heap := h, toks := tk } ∧
    wpAny (model prog w) A (eval elt (compEnvC scope cl C env)) (fun y s₃ => (∃ t', y = .int c t') ∧ Same h₀ L m ((I, oI) :: (C, oC) :: (D, oD) :: news) s s₃) E' { s with heap := h, toks := tk }
def SrcI (prog : Program) (w : World) (A : Around) (h₀ : Heap) (L : Addr) (m : Str → Option Value) (env : Env) (test elt : Expr) (a b : Str) (scope : Scope) (cl : List (Str × Addr)) (Q : Value → Shared → Prop) (xv : Value) (s₁ : Shared) : Prop :=
  ∃ (vw d : Addr) (od : Obj) (T : List (Int × Int)) (news kn : List (Addr × Obj)) (P : Int → Int → Bool), xv = .ref vw ∧ A.handled = none ∧ Fr h₀ L s₁.heap m ∧ News h₀ L s₁.heap news ∧ s₁.heap.IsItemsView vw d ∧ (d, od) ∈ news ∧ Tab prog w kn od T ∧ (∀ p ∈ kn, p ∈ news) ∧ T.length ≤ sizeLine ∧
    ItemStep prog w A h₀ L m env test elt a b scope cl news P ∧
    ∀ ys D h tk, IntsAre ys (passT P T) → Fr h₀ L h m → News h₀ L h ((D, LCg.lst ys) :: news) → LCg.Off1 D news → Q (.ref D) { s₁ with heap := h, toks := tk }
theorem offOne {D : Addr} {news : List (Addr × Obj)} (h : ∀ p ∈ news, p.1 ≠ D) : LCg.Off1 D news := by
  induction news with
  | nil => exact trivial
  | cons p r ih => exact ⟨h p (.head _), ih fun q hq => h q (.tail _ hq)⟩
theorem ListComp_I {elt iter test : Expr} {a b : Str} {pa pb tp : Pos} {kk : Nat} {scope : Scope} {cl : List (Str × Addr)} {pos : Pos} {Q : Value → Shared → Prop}
    (hclos : closureFor scope env = pure cl) (hcell : ∀ y ∈ scope.names, y.2 ≠ .cell) (hkind : scope.kind = .function)
    (hnames : ∀ y ∈ scope.names, y.2 = .local → scope.names.lookup y.1 = some .local) (hxa : scope.names.lookup a = some .local) (hxb : scope.names.lookup b = some .local) (hab : ¬ a = b)
    (h : wpAny (model prog w) A (eval iter env) (SrcI prog w A h₀ L m env test elt a b scope cl Q) E s)
    (hs : ∀ x, foldedSetIterable iter env x = pure x := by intro _; rfl) :
    wpAny (model prog w) A (eval (.ListComp elt [⟨.Tuple [.Name a pa, .Name b pb] kk tp, iter, [test], 0⟩] scope pos) env) Q E s := by
  rw [eval_ListComp]
  refine wpAny_comprehension_free (use := none) rfl hs hclos hkind hnames (wpAny_mono h (fun xv s₁ h₁ => ?_) fun _ _ e => e)
  obtain ⟨vw, d, od, T, news, kn, P, rfl, hh, F, N, hv, hm, t, hkn, hsz, step, fin⟩ := h₁
  obtain ⟨xs, t1, t2, t3⟩ := t
  obtain ⟨es, ep, r, he⟩ := t1.raw (N _ hm).1
  have hz : es.size = T.length := by rw [← Array.length_toList, he, List.length_map, t3.length]
  refine raw_iterItems hv r ?_
  generalize hI : s₁.heap.objs.size = I
  have hdI : d ≠ I := by rw [← hI]; exact Nat.ne_of_lt (Heap.lt_size (N _ hm).1)
  have hI₀ : h₀.get? I = none := by rw [← hI]; exact next_is_new F
  have hIL : L ≠ I := by rw [← hI]; exact Nat.ne_of_lt F.ns.lt
  have offI : ∀ p ∈ news, p.1 ≠ I := by rw [← hI]; exact fun p hp => Nat.ne_of_lt (Heap.lt_size (N p hp).1)
  have up₁ : ∀ o b x, s₁.heap.get? b = some x → (s₁.heap.push o).get? b = some x := fun o b x e => Heap.get?_push_of_some _ e
  have itm₁ : IsItemIter (s₁.heap.push { cls := .type "dict_itemiterator", data := .fields #[.none, .bool false, .ref d, .int 0 0, .int es.size 0, .int ep 0, .none, .none] }) I d 0 es.size ep .none .none := by rw [← hI]; exact Heap.get?_push_size _ rfl
  generalize hH : s₁.heap.push { cls := .type "dict_itemiterator", data := .fields #[.none, .bool false, .ref d, .int 0 0, .int es.size 0, .int ep 0, .none, .none] } = H at itm₁ ⊢
  have F₁ : Fr h₀ L H m := hH ▸ F.keeps (up₁ _)
  have N₁ : News h₀ L H news := hH ▸ N.grown (up₁ _)
  have Nd : s₁.heap.get? d = some od := (N _ hm).1
  clear F N hI hH up₁ hv
  -- the list, and the block's own names
  refine wpAny_newObj_type (wpAny_newFunctionEnv hcell (by intro y hy; simp at hy) (fun h₁ hns₁ hsb₁ => ?_) hkind)
  dsimp only at hns₁ hsb₁ ⊢
  generalize hH2 : H.push { cls := .type "list", dict := none, data := .seq ([] : List Value).toArray } = H2 at hns₁ hsb₁ ⊢
  have e2 : H2.objs.size = H.objs.size + 1 := by rw [← hH2, Heap.size_push]
  have low : ∀ b o, H.get? b = some o → b ≠ H2.objs.size ∧ b ≠ H.objs.size := fun b o e => by
    have := Heap.lt_size e
    exact ⟨by rw [e2]; exact Nat.ne_of_lt (Nat.lt_succ_of_lt this), Nat.ne_of_lt this⟩
  have old : ∀ b o, H.get? b = some o → h₁.get? b = some o := fun b o e => hsb₁.extBut b o (low b o e).1 (Heap.get?_push_of_some _ (hH2 ▸ Heap.get?_push_of_some _ e))
  have gone : ∀ a, H.objs.size ≤ a → h₀.get? a = none := fun a ha => by
    cases e : h₀.get? a with
    | none => rfl
    | some o' => exact absurd (Heap.lt_size (F₁.keep a o' e)) (Nat.not_lt.mpr ha)
  have hDC : H.objs.size ≠ H2.objs.size := by rw [e2]; exact Nat.ne_of_lt (Nat.lt_succ_self _)
  have hacc : h₁.get? H.objs.size = some (LCg.lst []) := hsb₁.extBut _ _ hDC (Heap.get?_push_of_some _ (hH2 ▸ Heap.get?_push_size _ rfl))
  have hD₀ : h₀.get? H.objs.size = none := gone _ (Nat.le_refl _)
  have hC₀ : h₀.get? H2.objs.size = none := gone _ (by rw [e2]; exact Nat.le_succ _)
  have hDL : H.objs.size ≠ L := Ne.symm (Nat.ne_of_lt F₁.ns.lt)
  have hCL : H2.objs.size ≠ L := by rw [e2]; exact Ne.symm (Nat.ne_of_lt (Nat.lt_succ_of_lt F₁.ns.lt))
  have hCI : I ≠ H2.objs.size := (low _ _ itm₁).1
  have hDI : I ≠ H.objs.size := (low _ _ itm₁).2
  have offC : ∀ p ∈ news, p.1 ≠ H2.objs.size := fun p hp => (low _ _ (N₁ p hp).1).1
  have offD : ∀ p ∈ news, p.1 ≠ H.objs.size := fun p hp => (low _ _ (N₁ p hp).1).2
  have F₂ := F₁.keeps old
  have N₂ : News h₀ L h₁ ((H.objs.size, LCg.lst []) :: news) := fun p hp => by
    rcases List.mem_cons.mp hp with rfl | hp
    · exact ⟨hacc, hDL, hD₀⟩
    · exact ⟨old _ _ (N₁ p hp).1, (N₁ p hp).2⟩
  have itm₂ := old _ _ itm₁
  generalize H.objs.size = D at *
  generalize H2.objs.size = C at *
  clear old low gone e2 F₁ N₁ hH2 hacc itm₁ hsb₁
  have tabAt : ∀ {h' : Heap} {oD : Obj}, News h₀ L h' ((D, oD) :: news) → RawAt h' d es ep := fun {h' oD} N' => by
    obtain ⟨o1, ho1, hc1, hd1⟩ := r
    have e1 : h'.get? d = some od := (N' _ (.tail _ hm)).1
    have e0 : o1 = od := Option.some.inj (ho1.symm.trans Nd)
    subst e0
    exact ⟨o1, e1, hc1, hd1⟩
  have W := raw_itemsTurns (prog := prog) (w := w) (elts := [.Name a pa, .Name b pb]) (kk := kk) (pos := tp) hh I d hdI es ep
  refine (fun x => codeAny_compStart_list x (kcp_self itm₂ x)) ?_
  refine kct_loop (fun k s' => ∃ h' tk i ys m', s' = { s₁ with heap := h', toks := tk } ∧ i ≤ es.size ∧ k = es.size + 1 - i ∧ ys.length ≤ i ∧ IntsAre ys (passT P (T.take i)) ∧ (∃ ok ov, IsItemIter h' I d i es.size ep ok ov) ∧ Fr h₀ L h' m ∧ h'.Ns C m' ∧ News h₀ L h' ((D, LCg.lst ys) :: news)) ?_ (es.size + 1)
    ⟨h₁, _, 0, [], _, rfl, Nat.zero_le _, rfl, Nat.le_refl _, .nil, ⟨_, _, itm₂⟩, F₂, hns₁, N₂⟩
  rintro k s' ⟨h', tk, i, ys, m', rfl, hi, rfl, hyl, hys, itm, F', hn', N'⟩
  by_cases hlt : i < es.size
  · refine W.item i _ _ _ hlt ⟨itm, tabAt N'⟩ fun v h₂ tk₂ hMd hk₂ => ?_
    refine W.go i v _ _ _ hMd fun h₃ hP hst₃ hk₃ => ?_
    obtain ⟨T', e, rfl, hx, hT⟩ := hP
    rw [← Array.getElem?_toList, he, List.getElem?_map] at hx
    obtain ⟨x, hxi, rfl⟩ := Option.map_eq_some_iff.mp hx
    obtain ⟨c, t, hc, hTi⟩ := t3.get hxi
    obtain ⟨ok, hok, hko⟩ := t2 x (List.mem_of_getElem? hxi)
    have up₃ : ∀ b o, b ≠ I → h'.get? b = some o → h₃.get? b = some o := fun b o hb e => hk₃ b o (by simpa using hb) (hk₂ b o (by simpa using hb) e)
    refine kcp_assign (env := compEnvC scope cl C env) hh hT (lookup_relabel_local hxa) (lookup_relabel_local hxb) (by simp [compEnvC, relabel, hkind]) (hn'.at' fun o e => up₃ _ o (Ne.symm hCI) e) fun h₄ tk₄ hn₄ hs₄ => ?_
    have up : ∀ b o, b ≠ I → b ≠ C → h'.get? b = some o → h₄.get? b = some o := fun b o h1 h2 e => hs₄ b o h2 (up₃ b o h1 e)
    obtain ⟨⟨ok', ov', itm₃⟩, _⟩ := hst₃
    have itm₄ : IsItemIter h₄ I d (i + 1) es.size ep ok' ov' := hs₄ I _ hCI itm₃
    obtain ⟨oI, heI, hoI⟩ : ∃ oI : Obj, h₄.get? I = some oI ∧ ∀ h : Heap, h.get? I = some oI → ∃ ok ov, IsItemIter h I d (i + 1) es.size ep ok ov := ⟨_, itm₄, fun _ e => ⟨_, _, e⟩⟩
    obtain ⟨oC, heC, hoC⟩ := LCg.ns_obj hn₄
    have F₄ : Fr h₀ L h₄ m := ⟨F'.ns.at' fun o e => up _ o hIL (Ne.symm hCL) e, fun b o e => up b o (fun q => by rw [q, hI₀] at e; cases e) (fun q => by rw [q, hC₀] at e; cases e) (F'.keep b o e), F'.above⟩
    have N₄ : News h₀ L h₄ ((I, oI) :: (C, oC) :: (D, LCg.lst ys) :: news) := fun q hq => by
      rcases List.mem_cons.mp hq with rfl | hq
      · exact ⟨heI, Ne.symm hIL, hI₀⟩
      rcases List.mem_cons.mp hq with rfl | hq
      · exact ⟨heC, hCL, hC₀⟩
      have z := N' q hq
      refine ⟨up _ _ ?_ ?_ z.1, z.2⟩
      · rcases List.mem_cons.mp hq with rfl | hq
        · exact Ne.symm hDI
        · exact offI q hq
      · rcases List.mem_cons.mp hq with rfl | hq
        · exact hDC
        · exact offC q hq
    have key : (entryOfKey (soKind prog w) x).key = .ref x.2.1 := rfl
    have val : (entryOfKey (soKind prog w) x).val = .int c t := hc
    have ha : (fun z => if z = b then some (entryOfKey (soKind prog w) x).val else if z = a then some (entryOfKey (soKind prog w) x).key else m' z) a = some (.ref x.2.1) := by simp only [hab, if_false, if_true, key]
    have hb : (fun z => if z = b then some (entryOfKey (soKind prog w) x).val else if z = a then some (entryOfKey (soKind prog w) x).key else m' z) b = some (.int c t) := by simp only [if_true, val]
    have go := fun tk E' => step s₁ x.1 c t x.2.1 ok I oI C oC D (LCg.lst ys) _ h₄ tk E' (hkn _ hok) hko hoC ha hb F₄ N₄
    refine wpAny_mono (go _ _).1 (fun okb s₅ h₅ => ?_) fun _ _ e => e
    obtain ⟨hokb, h₅, tk₅, rfl, F₅, N₅⟩ := h₅
    cases q : P x.1 c with
    | false =>
      rw [q] at hokb
      subst hokb
      simp only [Bool.false_eq_true, if_false]
      refine ⟨es.size + 1 - (i + 1), by omega, h₅, tk₅, i + 1, ys, _, rfl, hlt, rfl, Nat.le_succ_of_le hyl, ?_, hoI _ (N₅ (I, oI) (.head _)).1, F₅, hoC.ns (N₅ (C, oC) (.tail _ (.head _))).1, fun p hp => N₅ p (.tail _ (.tail _ hp))⟩
      rw [passT_succ hTi, q]
      simpa using hys
    | true =>
      rw [q] at hokb
      subst hokb
      simp only [if_true]
      refine wpAny_mono (step s₁ x.1 c t x.2.1 ok I oI C oC D (LCg.lst ys) _ h₅ tk₅ _ (hkn _ hok) hko hoC ha hb F₅ N₅).2 (fun y s₆ h₆ => ?_) fun _ _ e => e
      obtain ⟨⟨t', rfl⟩, h₆, tk₆, rfl, F₆, N₆⟩ := h₆
      have zD := (N₆ (D, LCg.lst ys) (.tail _ (.tail _ (.head _)))).1
      refine append_at (hsz := by show ys.toArray.size ≤ sizeLine; rw [List.size_toArray]; rw [hz] at hi; exact Nat.le_trans hyl (Nat.le_trans hi hsz)) zD fun h₇ hs₇ hD₇ => ?_
      refine ⟨es.size + 1 - (i + 1), by omega, h₇, _, i + 1, ys ++ [.int c t'], _, rfl, hlt, rfl, by rw [List.length_append, List.length_singleton]; exact Nat.succ_le_succ hyl, ?_, hoI _ (hs₇.extBut _ _ hDI (N₆ (I, oI) (.head _)).1), F₆.change hs₇ hDL hD₀,
        (hoC.ns (N₆ (C, oC) (.tail _ (.head _))).1).sameBut hs₇ (Ne.symm hDC), fun p hp => ?_⟩
      · rw [passT_succ hTi, q]
        exact hys.append (.cons c t' .nil)
      · rcases List.mem_cons.mp hp with rfl | hp
        · exact ⟨hD₇.trans (congrArg some (LCg.lst_snoc ys _)), hDL, hD₀⟩
        · have z := N₆ p (.tail _ (.tail _ (.tail _ hp)))
          exact ⟨hs₇.extBut _ _ (offD p hp) z.1, z.2⟩
  · have hin : i = es.size := Nat.le_antisymm hi (Nat.not_lt.mp hlt)
    subst hin
    refine W.done _ _ _ ⟨itm, tabAt N'⟩ fun h₂ tk₂ hk₂ => ?_
    rw [hz, List.take_length] at hys
    refine ⟨m', hn'.at' fun o e => hk₂ _ o (by simpa using Ne.symm hCI) e, fun h'' hs'' => fin ys D h'' tk₂ hys ((LCg.fr_but F' hk₂ hIL hI₀).change hs'' hCL hC₀) (fun p hp => ?_) (offOne offD)⟩
    have z := LCg.news_but N' hk₂ (fun p hp => by
      rcases List.mem_cons.mp hp with rfl | hp
      · exact Ne.symm hDI
      · exact offI p hp) p hp
    refine ⟨hs''.extBut _ _ ?_ z.1, z.2⟩
    rcases List.mem_cons.mp hp with rfl | hp
    · exact hDC
    · exact offC p hp
end
end Mine

/-! part D10 -/
set_option maxRecDepth 100000
set_option maxHeartbeats 400000
namespace Mine
theorem foldl_filter {P : Int → Bool} : ∀ (ns l : List Int), ns.foldl (fun l k => if P k then l ++ [k] else l) l = l ++ ns.filter P
  | [], l => by simp
  | k :: r, l => by
    rw [List.foldl_cons, foldl_filter r, List.filter_cons]
    cases P k <;> simp
section
variable {prog : Program} {w : World} {A : Around} {E : Value → Shared → Prop} {s : Shared} {h₀ : Heap} {L : Addr} {m : Str → Option Value} {env : Env}
def FStep (prog : Program) (w : World) (A : Around) (h₀ : Heap) (L : Addr) (m : Str → Option Value) (env : Env) (test elt : Expr) (x : Str) (scope : Scope) (cl : List (Str × Addr)) (news : List (Addr × Obj)) (ns : List Int) (P : Int → Bool) : Prop :=
  ∀ (s : Shared) k t I oI C oC D oD m₂ h tk (E' : Value → Shared → Prop), k ∈ ns → LCg.NsObj oC m₂ → m₂ x = some (.int k t) → Fr h₀ L h m → News h₀ L h ((I, oI) :: (C, oC) :: (D, oD) :: news) →
    wpAny (model prog w) A (isTrue test (compEnvC scope cl C env) (eval test (compEnvC scope cl C env))) (fun okb s₃ => okb = P k ∧ Same h₀ L m ((I, oI) :: (C, oC) :: (D, oD) :: news) s s₃) E' { s with heap := h, toks := tk } ∧
    wpAny (model prog w) A (eval elt (compEnvC scope cl C env)) (fun y s₃ => (∃ t', y = .int k t') ∧ Same h₀ L m ((I, oI) :: (C, oC) :: (D, oD) :: news) s s₃) E' { s with heap := h, toks := tk }
def SrcF (prog : Program) (w : World) (A : Around) (h₀ : Heap) (L : Addr) (m : Str → Option Value) (env : Env) (test elt : Expr) (x : Str) (scope : Scope) (cl : List (Str × Addr)) (Q : Value → Shared → Prop) (xv : Value) (s₁ : Shared) : Prop :=
  ∃ (ax : Addr) (vs : List Value) (ns : List Int) (news : List (Addr × Obj)) (P : Int → Bool), xv = .ref ax ∧ A.handled = none ∧ Fr h₀ L s₁.heap m ∧ News h₀ L s₁.heap news ∧ (ax, LCg.lst vs) ∈ news ∧ IntsAre vs ns ∧ ns.length ≤ 900 ∧
    FStep prog w A h₀ L m env test elt x scope cl news ns P ∧
    ∀ ys D h tk, IntsAre ys (ns.filter P) → Fr h₀ L h m → News h₀ L h ((D, LCg.lst ys) :: news) → LCg.Off1 D news → Q (.ref D) { s₁ with heap := h, toks := tk }
theorem ListComp_F {elt iter test : Expr} {x : Str} {px : Pos} {scope : Scope} {cl : List (Str × Addr)} {pos : Pos} {Q : Value → Shared → Prop} (F₀ : Fr h₀ L s.heap m)
    (hclos : closureFor scope env = pure cl) (hcell : ∀ y ∈ scope.names, y.2 ≠ .cell) (hkind : scope.kind = .function)
    (hnames : ∀ y ∈ scope.names, y.2 = .local → scope.names.lookup y.1 = some .local) (hx : scope.names.lookup x = some .local)
    (h : wpAny (model prog w) A (eval iter env) (SrcF prog w A h₀ L m env test elt x scope cl Q) E s)
    (hs : ∀ x, foldedSetIterable iter env x = pure x := by intro _; rfl) :
    wpAny (model prog w) A (eval (.ListComp elt [⟨.Name x px, iter, [test], 0⟩] scope pos) env) Q E s := by
  refine LCt.ListComp_T F₀ hclos hcell hkind hnames hx (wpAny_mono h (fun xv s₁ h₁ => ?_) fun _ _ e => e) hs
  obtain ⟨ax, vs, ns, news, P, rfl, hh, F, N, hm, hi, hlen, step, fin⟩ := h₁
  refine LCt.CompSrcT.ledger (its := vs.toArray) (k := vs.length) hh F N hm ?_ fun g => ?_
  · rw [List.size_toArray, hi.length]; exact Nat.le_trans hlen (by decide)
  refine kci_list (fun l k => if P k then l ++ [k] else l) hi ?_ ?_ ?_
  · intro k t I oI C oC D m₂ ys l h tk E' hk hy hC hx F' N' off ne _
    have key : ∀ (h₄ : Heap) (tk₄ : Nat) (y : Value) (rest : Value → List (Addr × Obj) → Prop), Fr h₀ L h₄ m → News h₀ L h₄ ((I, oI) :: (C, oC) :: (D, LCg.lst ys) :: news) → rest y news →
        LCg.CompEnd h₀ L m { s₁ with heap := h, toks := tk } I oI C oC D (LCg.lst ys) (LCg.SrcAt h₀ ax vs.toArray) rest y { s₁ with heap := h₄, toks := tk₄ } :=
      fun h₄ tk₄ y rest F₄ N₄ r => ⟨h₄, tk₄, news, rfl, F₄, N₄, off, .inr ⟨_, hm, rfl, _, rfl⟩, r⟩
    refine wpAny_mono (step s₁ k t I oI C oC D (LCg.lst ys) m₂ h tk E' hk hC hx F' N').1 (fun b s₂ hb => ?_) fun _ _ e => e
    obtain ⟨hb, h₃, tk₃, rfl, F₃, N₃⟩ := hb
    cases q : P k with
    | false =>
      rw [q] at hb; subst hb
      simp only [Bool.false_eq_true, if_false]
      exact key h₃ tk₃ .none _ F₃ N₃ ⟨rfl, by simp⟩
    | true =>
      rw [q] at hb; subst hb
      simp only [if_true]
      refine wpAny_mono (step s₁ k t I oI C oC D (LCg.lst ys) m₂ h₃ tk₃ E' hk hC hx F₃ N₃).2 (fun y s₄ h₄ => ?_) fun _ _ e => e
      obtain ⟨⟨t', rfl⟩, h₄, tk₄, rfl, F₄, N₄⟩ := h₄
      exact key h₄ tk₄ _ _ F₄ N₄ ⟨rfl, k, t', rfl, by simp⟩
  · show ∀ ys, _ → _ → LCg.FinE h₀ L m { s₁ with heap := g } Q ys news
    intro ys hys _ D h tk F' N' o'
    rw [foldl_filter, List.nil_append] at hys
    exact fin ys D h tk hys F' N' o'
  · intro l k
    show (if P k then l ++ [k] else l).length ≤ l.length + 1
    split <;> simp
/-- one value's element -/
def VStep (prog : Program) (w : World) (A : Around) (h₀ : Heap) (L : Addr) (m : Str → Option Value) (env : Env) (elt : Expr) (x : Str) (scope : Scope) (cl : List (Str × Addr)) (news : List (Addr × Obj)) (ks : List Int) (g : Int → Int) : Prop :=
  ∀ (s : Shared) k t I oI C oC D oD m₂ h tk (E' : Value → Shared → Prop), k ∈ ks → LCg.NsObj oC m₂ → m₂ x = some (.int k t) → Fr h₀ L h m → News h₀ L h ((I, oI) :: (C, oC) :: (D, oD) :: news) →
    wpAny (model prog w) A (eval elt (compEnvC scope cl C env)) (fun y s₃ => (∃ t', y = .int (g k) t') ∧ Same h₀ L m ((I, oI) :: (C, oC) :: (D, oD) :: news) s s₃) E' { s with heap := h, toks := tk }
theorem SrcV.of2 {elt : Expr} {x : Str} {scope : Scope} {cl : List (Str × Addr)} {Q : Value → Shared → Prop} {vw d : Addr} {od : Obj} {T : List (Int × Int)} {news kn : List (Addr × Obj)} {s₁ : Shared} (g : Int → Int)
    (hh : A.handled = none) (F : Fr h₀ L s₁.heap m) (N : News h₀ L s₁.heap news) (hv : s₁.heap.IsValuesView vw d) (hm : (d, od) ∈ news) (t : Tab prog w kn od T) (hsz : T.length ≤ 900)
    (step : VStep prog w A h₀ L m env elt x scope cl news (T.map (·.2)) g)
    (fin : ∀ ys D h tk, IntsAre ys ((T.map (·.2)).map g) → Fr h₀ L h m → News h₀ L h ((D, LCg.lst ys) :: news) → LCg.Off1 D news → Q (.ref D) { s₁ with heap := h, toks := tk }) :
    SrcV prog w A h₀ L m env elt x scope cl Q (.ref vw) s₁ := by
  refine SrcV.of g hh F N hv hm t hsz (fun s' k t' I oI C oC D m₂ ys h tk E' hk hC hx F' N' off ne _ => ?_) fin
  refine wpAny_mono (step s' k t' I oI C oC D (LCg.lst ys) m₂ h tk E' hk hC hx F' N') (fun y s₂ hy => ?_) fun _ _ e => e
  obtain ⟨⟨t'', rfl⟩, h₃, tk₃, rfl, F₃, N₃⟩ := hy
  exact ⟨h₃, tk₃, news, rfl, F₃, N₃, off, hm, rfl, t'', rfl⟩
end
end Mine

/-! part D11 -/
set_option maxRecDepth 100000
set_option maxHeartbeats 400000
namespace Mine
theorem tableT_len {ns : List Int} {sg : Int} (h : ns.length ≤ 6) : (tableT ns sg).length ≤ 900 := by
  have h1 := tab_len_out ns sg ns
  have h2 : ns.length * ns.length ≤ 6 * 6 := Nat.mul_le_mul h h
  unfold tableT
  omega
section
variable {prog : Program} {w : World} {A : Around} {E : Value → Shared → Prop} {s : Shared} {h₀ : Heap} {L : Addr} {m : Str → Option Value} {env : Env}
theorem key_tail {value slice : Expr} {ka : Addr} {ok : Obj} {n : Int} {u : Tok} {all : List (Addr × Obj)} {Q : Value → Shared → Prop} (N : News h₀ L s.heap all) (hm : (ka, ok) ∈ all) (k : KeyObj n ok) (h : ∀ t, Q (.int n t) s)
    (hs : subscripted slice false (.ref ka) (.int 1 u) = operate [.ref ka, .int 1 u] (getItem (.ref ka) (.int 1 u)) := by with_unfolding_all rfl) :
    wpAny (model prog w) A (subscriptTail value slice (.ref ka) (.int 1 u)) Q E s := by
  obtain ⟨hc, t1, t2, t3, e, hd⟩ := k
  exact item_tupleT (l := [.str (Str.ofString "so") t1, .int n t2, .str (Str.ofString "great") t3]) ⟨ok, (N _ hm).1, hc, e, hd⟩ (by decide) (by decide) (j := 1) rfl rfl (h t2) hs
theorem SrcF.ofNe {test elt : Expr} {x : Str} {scope : Scope} {cl : List (Str × Addr)} {Q : Value → Shared → Prop} {ax : Addr} {vs : List Value} {ns : List Int} {news : List (Addr × Obj)} {s₁ : Shared}
    (hh : A.handled = none) (F : Fr h₀ L s₁.heap m) (N : News h₀ L s₁.heap news) (hm : (ax, LCg.lst vs) ∈ news) (hi : IntsAre vs ns) (hlen : ns.length ≤ 900)
    (step : FStep prog w A h₀ L m env test elt x scope cl news ns (fun k => decide (k ≠ ns.getD 0 0)))
    (fin : ∀ ys D h tk, IntsAre ys (ns.filter fun k => decide (k ≠ ns.getD 0 0)) → Fr h₀ L h m → News h₀ L h ((D, LCg.lst ys) :: news) → LCg.Off1 D news → Q (.ref D) { s₁ with heap := h, toks := tk }) :
    SrcF prog w A h₀ L m env test elt x scope cl Q (.ref ax) s₁ := ⟨ax, vs, ns, news, _, rfl, hh, F, N, hm, hi, hlen, step, fin⟩
def twiceT (n c : Int) : Bool := decide (n ≠ 0) && decide (c > 1)
theorem SrcI.of {test elt : Expr} {a b : Str} {scope : Scope} {cl : List (Str × Addr)} {Q : Value → Shared → Prop} {vw d : Addr} {od : Obj} {T : List (Int × Int)} {news kn : List (Addr × Obj)} {s₁ : Shared}
    (hh : A.handled = none) (F : Fr h₀ L s₁.heap m) (N : News h₀ L s₁.heap news) (hv : s₁.heap.IsItemsView vw d) (hm : (d, od) ∈ news) (t : Tab prog w kn od T) (hk : ∀ p ∈ kn, p ∈ news) (hsz : T.length ≤ 900)
    (step : ItemStep prog w A h₀ L m env test elt a b scope cl news twiceT)
    (fin : ∀ ys D h tk, IntsAre ys (passT twiceT T) → Fr h₀ L h m → News h₀ L h ((D, LCg.lst ys) :: news) → LCg.Off1 D news → Q (.ref D) { s₁ with heap := h, toks := tk }) :
    SrcI prog w A h₀ L m env test elt a b scope cl Q (.ref vw) s₁ := ⟨vw, d, od, T, news, kn, _, rfl, hh, F, N, hv, hm, t, hk, Nat.le_trans hsz (by decide), step, fin⟩
end
end Mine

/-! part D12 -/
set_option maxRecDepth 100000
set_option maxHeartbeats 400000
namespace Mine
theorem bne_dec (a b : Int) : (a != b) = decide (a ≠ b) := by
  by_cases q : a = b <;> simp [q]
section
variable {prog : Program} {w : World} {A : Around} {h₀ : Heap} {L : Addr} {m : Str → Option Value} {env : Env} {scope : Scope} {cl : List (Str × Addr)} {news : List (Addr × Obj)}
/-- x * x -/
theorem vstep_sq {x : Str} {p1 p2 p3 : Pos} {ks : List Int} (hks : ∀ k ∈ ks, 0 ≤ k ∧ k ≤ 900) (hkind : scope.kind = .function) (hx : scope.names.lookup x = some .local) (hd : (x == ("__debug__" : Str)) = false) :
    VStep prog w A h₀ L m env (.BinOp (.Name x p1) .Mult (.Name x p2) p3) x scope cl news ks (fun k => k * k) := by
  intro s k t I oI C oC D oD m₂ h tk E' hk hC hm F N
  have hb := hks k hk
  have hl : (compEnvC scope cl C env).kindOf x = some .local := lookup_relabel_local hx
  have hk' : (compEnvC scope cl C env).scope.kind = .function := hkind
  refine wpAny_BinOp (LCgL.ld_own N (.tail _ (.head _)) hC hm (LCgL.ld_own N (.tail _ (.head _)) hC hm (mul_int ⟨⟨_, rfl⟩, h, _, rfl, F, N⟩ ?_) hk' hl hd) hk' hl hd)
  exact PySem.IntMulOk.of_left (PySem.intBits_le_64 (by omega) (by omega))
/-- word[1] != 0 and often > 1 -/
theorem istep {a b : Str} {p1 p2 p3 p4 p5 p6 p7 p8 p9 p10 : Pos} {k1 k2 k3 : Nat} (hkind : scope.kind = .function) (ha : scope.names.lookup a = some .local) (hb : scope.names.lookup b = some .local) (da : (a == ("__debug__" : Str)) = false) (db : (b == ("__debug__" : Str)) = false) :
    ItemStep prog w A h₀ L m env (.BoolOp .And [.Compare (.Subscript (.Name a p1) (.Constant (.int 1) k1 p2) p3) [.NotEq] [.Constant (.int 0) k2 p4] p5, .Compare (.Name b p6) [.Gt] [.Constant (.int 1) k3 p7] p8] p9) (.Name b p10) a b scope cl news twiceT := by
  intro s n c t ka ok I oI C oC D oD m₂ h tk E' hm hko hC hma hmb F N
  have hla : (compEnvC scope cl C env).kindOf a = some .local := lookup_relabel_local ha
  have hlb : (compEnvC scope cl C env).kindOf b = some .local := lookup_relabel_local hb
  have hk' : (compEnvC scope cl C env).scope.kind = .function := hkind
  refine ⟨?_, LCgL.ld_own N (.tail _ (.head _)) hC hmb ⟨⟨_, rfl⟩, h, _, rfl, F, N⟩ hk' hlb db⟩
  refine isTrue_and (wpAny_isTrue_Compare1 (Subscript_ (LCgL.ld_own N (.tail _ (.head _)) hC hma (wpAny_Constant_int (key_tail N (.tail _ (.tail _ (.tail _ hm))) hko fun u => wpAny_Constant_int (ne_int (wpAny_truthy_bool ?_)))) hk' hla da)))
  cases q : (n != 0) with
  | false =>
    simp only [Bool.false_eq_true, if_false]
    refine ⟨?_, h, _, rfl, F, N⟩
    have : n = 0 := by simpa using q
    simp [twiceT, this]
  | true =>
    simp only [if_true]
    have hn : n ≠ 0 := by simpa using q
    refine isTrue_and (wpAny_isTrue_Compare1 (LCgL.ld_own N (.tail _ (.head _)) hC hmb (wpAny_Constant_int (gt_int (wpAny_truthy_bool ?_))) hk' hlb db))
    cases q2 : decide (1 < c) with
    | false =>
      simp only [Bool.false_eq_true, if_false]
      refine ⟨?_, h, _, rfl, F, N⟩
      have : ¬ 1 < c := by simpa using q2
      simp [twiceT, this]
    | true =>
      simp only [if_true]
      refine isTrue_and_nil ⟨?_, h, _, rfl, F, N⟩
      have : 1 < c := by simpa using q2
      simp [twiceT, this, hn]
/-- step != steps[0] -/
theorem fstep {x y : Str} {p1 p2 p3 p4 p5 p6 : Pos} {k1 : Nat} {ns : List Int} {vs : List Value} {ax c : Addr} {oc : Obj} (hi : IntsAre vs ns) (hm : (ax, LCg.lst vs) ∈ news) (hcm : (c, oc) ∈ news) (hcd : oc.data = .cell (some (.ref ax)))
    (hcl : cl.lookup y = some c) (hkind : scope.kind = .function) (hx : scope.names.lookup x = some .local) (hy : ∀ C, (compEnvC scope cl C env).kindOf y = some .cell) (dx : (x == ("__debug__" : Str)) = false) (dy : (y == ("__debug__" : Str)) = false) :
    FStep prog w A h₀ L m env (.Compare (.Name x p1) [.NotEq] [.Subscript (.Name y p2) (.Constant (.int 0) k1 p3) p4] p5) (.Name x p6) x scope cl news ns (fun k => decide (k ≠ ns.getD 0 0)) := by
  intro s k t I oI C oC D oD m₂ h tk E' hk hC hmx F N
  have hlx : (compEnvC scope cl C env).kindOf x = some .local := lookup_relabel_local hx
  have hk' : (compEnvC scope cl C env).scope.kind = .function := hkind
  refine ⟨?_, LCgL.ld_own N (.tail _ (.head _)) hC hmx ⟨⟨_, rfl⟩, h, _, rfl, F, N⟩ hk' hlx dx⟩
  have hp : 0 < ns.length := List.length_pos_of_mem hk
  obtain ⟨t0, e0⟩ := hi.get 0 (ns.getD 0 0) (by rw [List.getD_eq_getElem?_getD, List.getElem?_eq_getElem hp]; rfl)
  have hlist : h.IsList ax vs.toArray := ⟨_, (N _ (.tail _ (.tail _ (.tail _ hm)))).1, rfl, _, rfl⟩
  refine wpAny_isTrue_Compare1 (LCgL.ld_own N (.tail _ (.head _)) hC hmx (Subscript_ (kcf_cell N hcl (.tail _ (.tail _ (.tail _ hcm))) hcd (wpAny_Constant_int (tail_any (Heap.IsList.typeIs hlist) slot_list_getitem.lookup (wpAny_getItem_list hlist (by decide) (by decide) (x := .int (ns.getD 0 0) t0) (by simpa using e0) (ne_int (wpAny_truthy_bool ?_))) (by with_unfolding_all rfl))) hk' (hy C) dy)) hk' hlx dx)
  refine ⟨?_, h, _, rfl, F, N⟩
  exact bne_dec _ _
end
end Mine

/-! part P1 -/
set_option maxHeartbeats 400000
namespace Mine
/-! lists: nodup and length -/
theorem nd_le {A : List Int} : ∀ {B : List Int}, A.Nodup → (∀ x ∈ A, x ∈ B) → A.length ≤ B.length := by
  induction A with
  | nil => intro B _ _; simp
  | cons a A ih =>
    intro B hn hs
    rw [List.nodup_cons] at hn
    have ha : a ∈ B := hs a (.head _)
    have h1 := ih (B := B.erase a) hn.2 (fun x hx => (List.mem_erase_of_ne (fun e : x = a => hn.1 (e ▸ hx))).mpr (hs x (.tail _ hx)))
    have h2 := List.length_erase_of_mem ha
    have h3 : 0 < B.length := List.length_pos_of_mem ha
    rw [List.length_cons]; omega
theorem nd_sub {A B : List Int} (hn : A.Nodup) (hs : ∀ x ∈ A, x ∈ B) (hl : B.length ≤ A.length) : ∀ x ∈ B, x ∈ A := by
  intro x hx
  by_cases h : x ∈ A
  · exact h
  · have := nd_le (A := x :: A) (B := B) (List.nodup_cons.mpr ⟨h, hn⟩) (fun y hy => by
      rcases List.mem_cons.mp hy with e | hy
      · exact e ▸ hx
      · exact hs y hy)
    simp only [List.length_cons] at this; omega
theorem nd_of_len {K S : List Int} (hs : ∀ x ∈ K, x ∈ S) (hk : K.Nodup) (hl : S.length = K.length) : S.Nodup := by
  rw [List.nodup_iff_count]
  intro a
  apply Decidable.byContradiction
  intro h
  have ha : a ∈ S := List.count_pos_iff.mp (by omega)
  have he : a ∈ S.erase a := List.count_pos_iff.mp (by rw [List.count_erase_self]; omega)
  have := nd_le (B := S.erase a) hk (fun x hx => by
    by_cases e : x = a
    · exact e ▸ he
    · exact (List.mem_erase_of_ne e).mpr (hs x hx))
  rw [List.length_erase_of_mem ha] at this
  have h3 : 0 < S.length := List.length_pos_of_mem ha
  omega
/-! the table's words and counts -/
def wordsT (ns : List Int) (sg : Int) : List Int := ns.flatMap fun a => ns.map fun b => a + sg * b
theorem tableT_words (ns : List Int) (sg : Int) : tableT ns sg = (wordsT ns sg).foldl (fun T v => bumpT T v 1) [] := by
  unfold tableT wordsT rowT
  rw [List.foldl_flatMap]
  congr 1
  funext T a
  rw [List.foldl_map]
structure Cnt (W : List Int) (T : List (Int × Int)) : Prop where
  nd : (T.map (·.1)).Nodup
  mem : ∀ v, v ∈ T.map (·.1) ↔ v ∈ W
  cnt : ∀ p ∈ T, p.2 = (W.count p.1 : Int)
theorem hasT_iff {T : List (Int × Int)} {v : Int} : hasT T v = true ↔ v ∈ T.map (·.1) := by
  unfold hasT
  rw [List.any_eq_true]
  simp only [decide_eq_true_eq, List.mem_map]
theorem Cnt.look {W : List Int} {T : List (Int × Int)} (h : Cnt W T) {v : Int} (hv : v ∈ T.map (·.1)) : lookT T v = (W.count v : Int) := by
  unfold lookT
  cases q : T.find? fun p => decide (p.1 = v) with
  | none =>
    rw [List.find?_eq_none] at q
    obtain ⟨p, hp, e⟩ := List.mem_map.mp hv
    exact absurd (by simpa using e) (q p hp)
  | some p =>
    have h1 := List.find?_some q
    have h2 := h.cnt p (List.mem_of_find?_eq_some q)
    simp only [decide_eq_true_eq] at h1
    simp only [Option.map_some, Option.getD_some]
    rw [h2, h1]
theorem Cnt.bump {W : List Int} {T : List (Int × Int)} (h : Cnt W T) (v : Int) : Cnt (W ++ [v]) (bumpT T v 1) := by
  have hc : ∀ x, x ≠ v → (W ++ [v]).count x = W.count x := fun x hx => by
    rw [List.count_append, List.count_singleton]; simp [Ne.symm hx]
  have hv1 : (W ++ [v]).count v = W.count v + 1 := by rw [List.count_append, List.count_singleton]; simp
  unfold bumpT putT
  by_cases q : hasT T v = true
  · have hv := hasT_iff.mp q
    rw [if_pos q, if_pos q, h.look hv]
    have hk : (T.map fun p => if p.1 = v then (p.1, (W.count v : Int) + 1) else p).map (·.1) = T.map (·.1) := by
      rw [List.map_map]
      apply List.map_congr_left
      intro p _
      show (if p.1 = v then _ else p).1 = p.1
      split <;> rfl
    refine ⟨hk ▸ h.nd, fun x => ?_, fun p hp => ?_⟩
    · rw [hk, h.mem, List.mem_append, List.mem_singleton]
      exact ⟨.inl, fun e => e.elim id fun e => e ▸ (h.mem v).mp hv⟩
    · obtain ⟨r, hr, rfl⟩ := List.mem_map.mp hp
      by_cases e : r.1 = v
      · rw [if_pos e]
        show (W.count v : Int) + 1 = _
        rw [e, hv1]; rfl
      · rw [if_neg e, hc _ e]; exact h.cnt r hr
  · have hv : v ∉ T.map (·.1) := fun e => q (hasT_iff.mpr e)
    rw [if_neg q, if_neg q]
    refine ⟨?_, fun x => ?_, fun p hp => ?_⟩
    · rw [List.map_append, List.map_singleton, List.nodup_append]
      refine ⟨h.nd, by simp, fun a ha b hb e => hv ?_⟩
      rw [List.mem_singleton.mp hb] at e
      have e' : a = v := e
      exact e' ▸ ha
    · rw [List.map_append, List.mem_append, List.mem_append, h.mem]; simp
    · rcases List.mem_append.mp hp with hp | hp
      · have e : p.1 ≠ v := fun e => hv (e ▸ List.mem_map.mpr ⟨p, hp, rfl⟩)
        rw [hc _ e]; exact h.cnt p hp
      · rw [List.mem_singleton.mp hp]
        have h0 : W.count v = 0 := List.count_eq_zero.mpr fun e => hv ((h.mem v).mpr e)
        show (1 : Int) = ((W ++ [v]).count v : Int)
        rw [hv1, h0]; rfl
theorem cnt_fold : ∀ (V W : List Int) (T : List (Int × Int)), Cnt W T → Cnt (W ++ V) (V.foldl (fun T v => bumpT T v 1) T)
  | [], W, T, h => by simpa using h
  | v :: V, W, T, h => by
    have := cnt_fold V (W ++ [v]) (bumpT T v 1) (h.bump v)
    simpa using this
theorem cnt_table (ns : List Int) (sg : Int) : Cnt (wordsT ns sg) (tableT ns sg) := by
  rw [tableT_words]
  have := cnt_fold (wordsT ns sg) [] [] ⟨List.nodup_nil, fun v => by simp, fun p hp => by simp at hp⟩
  simpa using this
/-! sums over lists -/
def S (f : Int → Int) (l : List Int) : Int := (l.map f).sum
theorem S_nil (f : Int → Int) : S f [] = 0 := rfl
theorem S_cons (f : Int → Int) (a : Int) (l : List Int) : S f (a :: l) = f a + S f l := by simp [S]
theorem S_add (f g : Int → Int) : ∀ l, S (fun x => f x + g x) l = S f l + S g l
  | [] => rfl
  | a :: l => by rw [S_cons, S_cons, S_cons, S_add f g l]; omega
theorem S_zero : ∀ l, S (fun _ => 0) l = 0
  | [] => rfl
  | a :: l => by rw [S_cons, S_zero l]; rfl
theorem S_congr {f g : Int → Int} : ∀ {l : List Int}, (∀ x ∈ l, f x = g x) → S f l = S g l
  | [], _ => rfl
  | a :: l, h => by rw [S_cons, S_cons, h a (.head _), S_congr fun x hx => h x (.tail _ hx)]
theorem S_comm (f : Int → Int → Int) : ∀ l m, S (fun a => S (fun b => f a b) m) l = S (fun b => S (fun a => f a b) l) m
  | [], m => by simp only [S_nil]; rw [S_zero]
  | a :: l, m => by
    rw [S_cons, S_comm f l m, ← S_add]
    exact S_congr fun b _ => by rw [S_cons]
theorem S_append (f : Int → Int) (l m : List Int) : S f (l ++ m) = S f l + S f m := by simp [S]
theorem S_flatMap (f : Int → Int) (g : Int → List Int) : ∀ l, S f (l.flatMap g) = S (fun a => S f (g a)) l
  | [] => rfl
  | a :: l => by rw [List.flatMap_cons, S_append, S_cons, S_flatMap f g l]
theorem S_map (f : Int → Int) (g : Int → Int) (l : List Int) : S f (l.map g) = S (fun a => f (g a)) l := by
  unfold S; rw [List.map_map]; rfl
theorem S_count (v : Int) : ∀ l, ((l.count v : Nat) : Int) = S (fun x => if x = v then 1 else 0) l
  | [] => rfl
  | a :: l => by
    rw [S_cons, ← S_count v l, List.count_cons]
    by_cases e : a = v
    · simp [e]; omega
    · simp [e]
theorem S_one (f : Int → Int) (w : Int) : ∀ K : List Int, K.Nodup → S (fun k => f k * (if w = k then 1 else 0)) K = if w ∈ K then f w else 0
  | [], _ => rfl
  | k :: K, h => by
    rw [List.nodup_cons] at h
    rw [S_cons, S_one f w K h.2]
    by_cases e : w = k
    · subst e; simp [h.1]
    · simp [e]
theorem S_keys (f : Int → Int) {K : List Int} (hK : K.Nodup) : ∀ W : List Int, (∀ w ∈ W, w ∈ K) → S (fun k => f k * (W.count k : Int)) K = S f W
  | [], _ => by
    have : (fun k => f k * ((([] : List Int).count k : Nat) : Int)) = fun _ => 0 := by funext k; simp
    rw [this, S_zero]; rfl
  | w :: W, h => by
    rw [S_cons, ← S_keys f hK W fun x hx => h x (.tail _ hx)]
    have e1 := S_one f w K hK
    rw [if_pos (h w (.head _))] at e1
    rw [← e1, ← S_add]
    refine S_congr fun k _ => ?_
    rw [List.count_cons]
    by_cases e : w = k
    · subst e; simp; rw [Int.mul_add]; omega
    · simp [e]
theorem Cnt.vals {W : List Int} {T : List (Int × Int)} (h : Cnt W T) (g : Int → Int) : ((T.map (·.2)).map g).sum = S (fun k => g (W.count k : Int)) (T.map (·.1)) := by
  unfold S
  rw [List.map_map, List.map_map]
  congr 1
  apply List.map_congr_left
  intro p hp
  show g p.2 = g (W.count p.1 : Int)
  rw [h.cnt p hp]
theorem Cnt.sum {W : List Int} {T : List (Int × Int)} (h : Cnt W T) : (T.map (·.2)).sum = W.length := by
  have h1 := h.vals id
  rw [List.map_id] at h1
  rw [h1]
  have h2 := S_keys (fun _ => 1) h.nd W fun w hw => (h.mem w).mpr hw
  simp only [Int.one_mul] at h2
  show S (fun k => ((W.count k : Nat) : Int)) _ = _
  rw [h2]
  clear h1 h2 h
  induction W with
  | nil => rfl
  | cons a W ih => rw [S_cons, ih]; simp; omega
theorem Cnt.squares {W : List Int} {T : List (Int × Int)} (h : Cnt W T) : ((T.map (·.2)).map fun k => k * k).sum = S (fun w => (W.count w : Int)) W := by
  rw [h.vals]
  exact S_keys (fun k => (W.count k : Int)) h.nd W fun w hw => (h.mem w).mpr hw
theorem words_len (ns : List Int) (sg : Int) : (wordsT ns sg).length = ns.length * ns.length := by
  unfold wordsT
  have : ∀ l : List Int, (l.flatMap fun a => ns.map fun b => a + sg * b).length = l.length * ns.length := by
    intro l
    induction l with
    | nil => simp
    | cons a l ih => rw [List.flatMap_cons, List.length_append, ih]; simp [Nat.add_mul]; omega
  exact this ns
theorem fact_count (ns : List Int) (sg : Int) : ((tableT ns sg).map (·.2)).sum = (ns.length : Int) * ns.length := by
  rw [(cnt_table ns sg).sum, words_len]; simp
theorem energy (ns : List Int) (sg : Int) : (((tableT ns sg).map (·.2)).map fun k => k * k).sum = S (fun a => S (fun b => S (fun c => S (fun d => if c + sg * d = a + sg * b then 1 else 0) ns) ns) ns) ns := by
  rw [(cnt_table ns sg).squares]
  unfold wordsT
  rw [S_flatMap]
  refine S_congr fun a _ => ?_
  rw [S_map]
  refine S_congr fun b _ => ?_
  rw [S_count, S_flatMap]
  refine S_congr fun c _ => ?_
  rw [S_map]
theorem fact_energy (ns : List Int) : (((tableT ns 1).map (·.2)).map fun k => k * k).sum = (((tableT ns (0 - 1)).map (·.2)).map fun k => k * k).sum := by
  rw [energy, energy]
  refine S_congr fun a _ => ?_
  have e : ∀ b c d : Int, (if c + (0 - 1) * d = a + (0 - 1) * b then (1 : Int) else 0) = if c + 1 * b = a + 1 * d then 1 else 0 := by
    intro b c d
    by_cases h : c + 1 * b = a + 1 * d
    · rw [if_pos h, if_pos (by omega)]
    · rw [if_neg h, if_neg (by omega)]
  simp only [e]
  -- the sums over b and d change places
  have h1 : ∀ b, S (fun c => S (fun d => if c + 1 * b = a + 1 * d then (1 : Int) else 0) ns) ns = S (fun d => S (fun c => if c + 1 * b = a + 1 * d then (1 : Int) else 0) ns) ns := fun b => S_comm _ _ _
  have h2 : ∀ b, S (fun c => S (fun d => if c + 1 * d = a + 1 * b then (1 : Int) else 0) ns) ns = S (fun d => S (fun c => if c + 1 * d = a + 1 * b then (1 : Int) else 0) ns) ns := fun b => S_comm _ _ _
  simp only [h1, h2]
  rw [S_comm (fun b d => S (fun c => if c + 1 * d = a + 1 * b then (1 : Int) else 0) ns)]
end Mine

/-! part P2 -/
set_option maxHeartbeats 400000
namespace Mine
theorem mem_words {ns : List Int} {sg v : Int} : v ∈ wordsT ns sg ↔ ∃ a ∈ ns, ∃ b ∈ ns, a + sg * b = v := by
  unfold wordsT
  simp only [List.mem_flatMap, List.mem_map]
theorem keysT (ns : List Int) (sg : Int) : ((tableT ns sg).map (·.1)).Nodup ∧ (∀ v, v ∈ (tableT ns sg).map (·.1) ↔ v ∈ wordsT ns sg) ∧ ((tableT ns sg).map (·.1)).length = (tableT ns sg).length :=
  ⟨(cnt_table ns sg).nd, (cnt_table ns sg).mem, by simp⟩
/-! the chain of sums that are there at least -/
def chain : List Int → List Int
  | [] => []
  | [a] => [a + a]
  | a :: b :: r => (a + a) :: (a + b) :: chain (b :: r)
theorem chain_len : ∀ ns : List Int, ns ≠ [] → (chain ns).length = 2 * ns.length - 1
  | [a], _ => rfl
  | a :: b :: r, _ => by
    have := chain_len (b :: r) (by simp)
    simp only [chain, List.length_cons] at this ⊢
    omega
theorem chain_ge : ∀ {b : Int} {r : List Int}, (b :: r).Pairwise (· < ·) → ∀ v ∈ chain (b :: r), b + b ≤ v
  | b, [], _, v, hv => by simp [chain] at hv; omega
  | a, b :: r, h, v, hv => by
    have h1 := List.pairwise_cons.mp h
    have hab := h1.1 b (.head _)
    simp only [chain, List.mem_cons] at hv
    rcases hv with e | e | e
    · omega
    · omega
    · have := chain_ge h1.2 v e; omega
theorem chain_nodup : ∀ {ns : List Int}, ns.Pairwise (· < ·) → (chain ns).Nodup
  | [], _ => List.nodup_nil
  | [a], _ => by simp [chain]
  | a :: b :: r, h => by
    have h1 := List.pairwise_cons.mp h
    have hab := h1.1 b (.head _)
    have hg := chain_ge h1.2
    unfold chain
    refine List.nodup_cons.mpr ⟨fun e => ?_, List.nodup_cons.mpr ⟨fun e => ?_, chain_nodup h1.2⟩⟩
    · rcases List.mem_cons.mp e with e | e
      · omega
      · have := hg _ e; omega
    · have := hg _ e; omega
theorem chain_sub : ∀ {ns : List Int}, ∀ v ∈ chain ns, ∃ a ∈ ns, ∃ b ∈ ns, a + b = v
  | [], v, hv => by simp [chain] at hv
  | [a], v, hv => by simp [chain] at hv; exact ⟨a, .head _, a, .head _, hv.symm⟩
  | a :: b :: r, v, hv => by
    simp only [chain, List.mem_cons] at hv
    rcases hv with e | e | e
    · exact ⟨a, .head _, a, .head _, e.symm⟩
    · exact ⟨a, .head _, b, .tail _ (.head _), e.symm⟩
    · obtain ⟨x, hx, y, hy, e⟩ := chain_sub (ns := b :: r) v e
      exact ⟨x, .tail _ hx, y, .tail _ hy, e⟩
theorem chain_words {ns : List Int} : ∀ v ∈ chain ns, v ∈ (tableT ns 1).map (·.1) := fun v hv => by
  obtain ⟨a, ha, b, hb, e⟩ := chain_sub v hv
  rw [(keysT ns 1).2.1, mem_words]
  exact ⟨a, ha, b, hb, by omega⟩
theorem fact_low {ns : List Int} (h : ns.Pairwise (· < ·)) (hn : ns ≠ []) : 2 * ns.length - 1 ≤ (tableT ns 1).length := by
  have := nd_le (chain_nodup h) chain_words
  rw [chain_len ns hn, (keysT ns 1).2.2] at this
  exact this
/-- equal steps, step by step -/
def AP : List Int → Prop
  | a :: b :: c :: r => c - b = b - a ∧ AP (b :: c :: r)
  | _ => True
theorem ap_of_chain : ∀ {ns : List Int}, ns.Pairwise (· < ·) → (∀ x ∈ ns, ∀ y ∈ ns, x + y ∈ chain ns) → AP ns
  | [], _, _ => trivial
  | [_], _, _ => trivial
  | [_, _], _, _ => trivial
  | a :: b :: c :: r, h, hc => by
    have h1 := List.pairwise_cons.mp h
    have h2 := List.pairwise_cons.mp h1.2
    have hab := h1.1 b (.head _)
    have hbc := h2.1 c (.head _)
    have hg := chain_ge h2.2
    refine ⟨?_, ap_of_chain h1.2 fun x hx y hy => ?_⟩
    · have e := hc a (.head _) c (.tail _ (.tail _ (.head _)))
      simp only [chain, List.mem_cons] at e
      rcases e with e | e | e | e | e
      · omega
      · omega
      · omega
      · omega
      · have := hg _ e; omega
    · have e := hc x (.tail _ hx) y (.tail _ hy)
      have hx2 : b ≤ x := by
        rcases List.mem_cons.mp hx with e | e
        · omega
        · have := h2.1 x e; omega
      have hy2 : b ≤ y := by
        rcases List.mem_cons.mp hy with e | e
        · omega
        · have := h2.1 y e; omega
      rw [chain] at e
      rcases List.mem_cons.mp e with e | e
      · omega
      · rcases List.mem_cons.mp e with e | e
        · omega
        · exact e
theorem ap_back : ∀ {a b : Int} {r : List Int}, AP (a :: b :: r) → ∀ y ∈ r, ∃ z ∈ b :: r, a + y = b + z
  | a, b, c :: r, h, y, hy => by
    obtain ⟨h1, h2⟩ := h
    rcases List.mem_cons.mp hy with e | hy
    · exact ⟨b, .head _, by omega⟩
    · obtain ⟨z, hz, e⟩ := ap_back h2 y hy
      exact ⟨z, .tail _ hz, by omega⟩
theorem chain_of_ap : ∀ {ns : List Int}, AP ns → ∀ x ∈ ns, ∀ y ∈ ns, x + y ∈ chain ns
  | [a], _, x, hx, y, hy => by
    rw [List.mem_singleton.mp hx, List.mem_singleton.mp hy]; simp [chain]
  | a :: b :: r, h, x, hx, y, hy => by
    have hT : AP (b :: r) := by
      cases r with
      | nil => trivial
      | cons c r => exact h.2
    have ih := chain_of_ap hT
    have key : ∀ y ∈ b :: r, a + y ∈ chain (a :: b :: r) := by
      intro y hy
      rcases List.mem_cons.mp hy with e | hy
      · subst e; simp [chain]
      · obtain ⟨z, hz, e⟩ := ap_back h y hy
        rw [e, chain]
        exact .tail _ (.tail _ (ih b (.head _) z hz))
    rcases List.mem_cons.mp hx with e | hx'
    · subst e
      rcases List.mem_cons.mp hy with e | hy'
      · subst e; simp [chain]
      · exact key y hy'
    · rcases List.mem_cons.mp hy with e | hy'
      · subst e
        rw [Int.add_comm]; exact key x hx'
      · rw [chain]
        exact .tail _ (.tail _ (ih x hx' y hy'))
theorem fact_ap {ns : List Int} (h : ns.Pairwise (· < ·)) (hn : ns ≠ []) : (tableT ns 1).length = 2 * ns.length - 1 ↔ AP ns := by
  have hl := chain_len ns hn
  obtain ⟨k1, k2, k3⟩ := keysT ns 1
  constructor
  · intro e
    have hs := nd_sub (chain_nodup h) chain_words (by rw [k3, hl]; omega)
    refine ap_of_chain h fun x hx y hy => hs _ ?_
    rw [k2, mem_words]
    exact ⟨x, hx, y, hy, by omega⟩
  · intro e
    have hc := chain_of_ap e
    have h1 := nd_le (B := chain ns) k1 (fun v hv => by
      obtain ⟨a, ha, b, hb, e⟩ := mem_words.mp ((k2 v).mp hv)
      have := hc a ha b hb
      have e' : v = a + b := by omega
      rw [e']; exact this)
    have h2 := fact_low h hn
    rw [k3, hl] at h1
    omega
def stepsL (ns : List Int) : List Int := (rangeKs 1 ((ns.length : Int) - 1).toNat).map fun k => ns.getD k.toNat 0 - ns.getD (k - 1).toNat 0
theorem even_ap {ns : List Int} (hlen : ns.length ≤ 6) : (stepsL ns).filter (fun k => decide (k ≠ (stepsL ns).getD 0 0)) = [] ↔ AP ns := by
  rw [List.filter_eq_nil_iff]
  rcases ns with _ | ⟨a, _ | ⟨b, _ | ⟨c, _ | ⟨d, _ | ⟨e, _ | ⟨f, _ | ⟨g, r⟩⟩⟩⟩⟩⟩⟩
  all_goals (try (simp at hlen; done))
  · simp [stepsL, AP, rangeKs]
  · simp [stepsL, AP, rangeKs]
  · simp [stepsL, AP, rangeKs, List.range_succ]
  · simp [stepsL, AP, rangeKs, List.range_succ]
  · simp [stepsL, AP, rangeKs, List.range_succ]; try omega
  · simp [stepsL, AP, rangeKs, List.range_succ]; try omega
  · simp [stepsL, AP, rangeKs, List.range_succ]; try omega
end Mine

/-! part P3 -/
set_option maxHeartbeats 400000
namespace Mine
theorem sumsB_len (ns : List Int) : ∀ k, 2 * (sumsB ns k).length = k * (k + 1)
  | 0 => rfl
  | k + 1 => by
    have := sumsB_len ns k
    rw [sumsB_succ, List.length_append, Nat.mul_add, this]
    simp only [sumsJ, List.length_map, List.length_range]
    rw [Nat.mul_comm k (k + 1), Nat.mul_comm 2 (k + 1), ← Nat.mul_add]
theorem mem_sumsB {ns : List Int} {k : Nat} {v : Int} : v ∈ sumsB ns k ↔ ∃ i, i < k ∧ ∃ j, j ≤ i ∧ ns.getD j 0 + ns.getD i 0 = v := by
  unfold sumsB sumsJ
  simp only [List.mem_flatMap, List.mem_range, List.mem_map]
  constructor
  · rintro ⟨i, hi, j, hj, e⟩; exact ⟨i, hi, j, by omega, e⟩
  · rintro ⟨i, hi, j, hj, e⟩; exact ⟨i, hi, j, by omega, e⟩
theorem getD_mem {ns : List Int} {i : Nat} (h : i < ns.length) : ns.getD i 0 ∈ ns := by
  rw [List.getD_eq_getElem?_getD, List.getElem?_eq_getElem h]; exact List.getElem_mem h
theorem mem_getD {ns : List Int} {a : Int} (h : a ∈ ns) : ∃ i, i < ns.length ∧ ns.getD i 0 = a := by
  obtain ⟨i, hi, e⟩ := List.getElem_of_mem h
  exact ⟨i, hi, by rw [List.getD_eq_getElem?_getD, List.getElem?_eq_getElem hi]; exact e⟩
theorem lt_getD {ns : List Int} (h : ns.Pairwise (· < ·)) {i j : Nat} (hij : i < j) (hj : j < ns.length) : ns.getD i 0 < ns.getD j 0 := by
  have hi : i < ns.length := by omega
  rw [List.getD_eq_getElem?_getD, List.getD_eq_getElem?_getD, List.getElem?_eq_getElem hi, List.getElem?_eq_getElem hj]
  exact List.pairwise_iff_getElem.mp h i j hi hj hij
theorem sums_words {ns : List Int} {v : Int} : v ∈ sumsB ns ns.length ↔ v ∈ wordsT ns 1 := by
  rw [mem_sumsB, mem_words]
  constructor
  · rintro ⟨i, hi, j, hj, e⟩
    exact ⟨_, getD_mem (by omega : j < ns.length), _, getD_mem hi, by omega⟩
  · rintro ⟨a, ha, b, hb, e⟩
    obtain ⟨i, hi, ea⟩ := mem_getD ha
    obtain ⟨j, hj, eb⟩ := mem_getD hb
    by_cases h : i ≤ j
    · exact ⟨j, hj, i, h, by omega⟩
    · exact ⟨i, hi, j, by omega, by omega⟩
theorem unl_len (ns : List Int) : (sumsB ns ns.length).Nodup ↔ 2 * (tableT ns 1).length = ns.length * (ns.length + 1) := by
  obtain ⟨k1, k2, k3⟩ := keysT ns 1
  have hl := sumsB_len ns ns.length
  have hs : ∀ v, v ∈ (tableT ns 1).map (·.1) ↔ v ∈ sumsB ns ns.length := fun v => (k2 v).trans sums_words.symm
  constructor
  · intro h
    have h1 := nd_le h fun v hv => (hs v).mpr hv
    have h2 := nd_le k1 fun v hv => (hs v).mp hv
    rw [k3] at h1 h2
    omega
  · intro h
    exact nd_of_len (fun v hv => (hs v).mp hv) k1 (by rw [k3]; omega)
/-- no two unordered pairs with one sum -/
def Sid (ns : List Int) : Prop := ∀ a ∈ ns, ∀ b ∈ ns, ∀ c ∈ ns, ∀ d ∈ ns, a + b = c + d → a = c ∨ a = d
theorem sums_iff {ns : List Int} (h : ns.Pairwise (· < ·)) : (sumsB ns ns.length).Nodup ↔ ∀ i i', i < i' → i' < ns.length → ∀ j, j ≤ i → ∀ j', j' ≤ i' → ns.getD j 0 + ns.getD i 0 ≠ ns.getD j' 0 + ns.getD i' 0 := by
  unfold sumsB List.Nodup
  rw [List.pairwise_flatMap]
  constructor
  · rintro ⟨_, h2⟩ i i' hi hl j hj j' hj'
    have := List.pairwise_iff_getElem.mp h2 i i' (by simp; omega) (by simp; omega) hi
    simp only [List.getElem_range, sumsJ, List.mem_map, List.mem_range] at this
    exact this _ ⟨j, by omega, rfl⟩ _ ⟨j', by omega, rfl⟩
  · intro hh
    refine ⟨fun i hi => ?_, ?_⟩
    · unfold sumsJ
      rw [List.pairwise_map]
      rw [List.mem_range] at hi
      rw [List.pairwise_iff_getElem]
      intro p q hp hq hpq
      simp only [List.length_range] at hp hq
      simp only [List.getElem_range]
      have := lt_getD h (i := p) (j := q) hpq (by omega)
      omega
    · rw [List.pairwise_iff_getElem]
      intro p q hp hq hpq
      simp only [List.length_range] at hp hq
      simp only [List.getElem_range, sumsJ, List.mem_map, List.mem_range]
      rintro _ ⟨j, hj, rfl⟩ _ ⟨j', hj', rfl⟩
      exact hh p q hpq hq j (by omega) j' (by omega)
theorem sums_sid {ns : List Int} (h : ns.Pairwise (· < ·)) : (sumsB ns ns.length).Nodup ↔ Sid ns := by
  rw [sums_iff h]
  constructor
  · intro hh a ha b hb c hc d hd e
    obtain ⟨p, hp, rfl⟩ := mem_getD ha
    obtain ⟨q, hq, rfl⟩ := mem_getD hb
    obtain ⟨r, hr, rfl⟩ := mem_getD hc
    obtain ⟨t, ht, rfl⟩ := mem_getD hd
    -- the larger place of each pair
    have key : ∀ p q r t : Nat, p < ns.length → q < ns.length → r < ns.length → t < ns.length → p ≤ q → r ≤ t → ns.getD p 0 + ns.getD q 0 = ns.getD r 0 + ns.getD t 0 → ns.getD q 0 = ns.getD t 0 := by
      intro p q r t hp hq hr ht hpq hrt e
      rcases Nat.lt_trichotomy q t with h1 | h1 | h1
      · exact absurd e (hh q t h1 ht p hpq r hrt)
      · rw [h1]
      · exact absurd e.symm (hh t q h1 hq r hrt p hpq)
    rcases Nat.le_total p q with h1 | h1 <;> rcases Nat.le_total r t with h2 | h2
    · have := key p q r t hp hq hr ht h1 h2 e; left; omega
    · have := key p q t r hp hq ht hr h1 h2 (by omega); right; omega
    · have := key q p r t hq hp hr ht h1 h2 (by omega); right; omega
    · have := key q p t r hq hp ht hr h1 h2 (by omega); left; omega
  · intro hs i i' hi hl j hj j' hj' e
    have h1 := lt_getD h hi hl
    have h2 := lt_getD h (i := j) (j := i') (by omega) hl
    rcases hs _ (getD_mem (by omega : j < ns.length)) _ (getD_mem (by omega : i < ns.length)) _ (getD_mem (by omega : j' < ns.length)) _ (getD_mem hl) e with e1 | e1 <;> omega
theorem count_one {f : Int → List Int} {v : Int} : ∀ {l : List Int}, l.Nodup → (∀ a ∈ l, (f a).Nodup) → ((l.flatMap f).count v ≤ 1 ↔ ∀ a ∈ l, ∀ d ∈ l, v ∈ f a → v ∈ f d → a = d)
  | [], _, _ => by simp
  | a :: l, hn, hf => by
    rw [List.nodup_cons] at hn
    have ih := count_one (v := v) hn.2 fun x hx => hf x (.tail _ hx)
    have ha : (f a).count v ≤ 1 := List.nodup_iff_count.mp (hf a (.head _)) v
    rw [List.flatMap_cons, List.count_append]
    constructor
    · intro h x hx y hy vx vy
      have up : ∀ y ∈ l, v ∈ f y → v ∈ f a → False := fun y hy vy va => by
        have h1 : 0 < (f a).count v := List.count_pos_iff.mpr va
        have h2 : 0 < (l.flatMap f).count v := List.count_pos_iff.mpr (List.mem_flatMap.mpr ⟨y, hy, vy⟩)
        omega
      rcases List.mem_cons.mp hx with e | hx' <;> rcases List.mem_cons.mp hy with e' | hy'
      · rw [e, e']
      · exact (up y hy' vy (e ▸ vx)).elim
      · exact (up x hx' vx (e' ▸ vy)).elim
      · exact ih.mp (by omega) x hx' y hy' vx vy
    · intro h
      by_cases va : v ∈ f a
      · have h0 : (l.flatMap f).count v = 0 := List.count_eq_zero.mpr fun hm => by
          obtain ⟨y, hy, vy⟩ := List.mem_flatMap.mp hm
          exact hn.1 (h a (.head _) y (.tail _ hy) va vy ▸ hy)
        omega
      · have h0 : (f a).count v = 0 := List.count_eq_zero.mpr va
        have := ih.mpr fun x hx y hy => h x (.tail _ hx) y (.tail _ hy)
        omega
theorem nodup_of_strict {ns : List Int} (h : ns.Pairwise (· < ·)) : ns.Nodup := h.imp fun h => Int.ne_of_lt h
theorem diff_count {ns : List Int} (h : ns.Pairwise (· < ·)) (v : Int) : (wordsT ns (0 - 1)).count v ≤ 1 ↔ ∀ a ∈ ns, ∀ d ∈ ns, a - v ∈ ns → d - v ∈ ns → a = d := by
  unfold wordsT
  rw [count_one (nodup_of_strict h) fun a _ => ?_]
  · have e : ∀ a, v ∈ (ns.map fun b => a + (0 - 1) * b) ↔ a - v ∈ ns := fun a => by
      rw [List.mem_map]
      constructor
      · rintro ⟨b, hb, e⟩
        have : a - v = b := by omega
        rw [this]; exact hb
      · intro hb; exact ⟨_, hb, by omega⟩
    simp only [e]
  · show List.Pairwise _ _
    rw [List.pairwise_map]
    exact h.imp fun {x y} hxy => by omega
theorem pass_nil {ns : List Int} : passT twiceT (tableT ns (0 - 1)) = [] ↔ ∀ v, v ≠ 0 → (wordsT ns (0 - 1)).count v ≤ 1 := by
  have hc := cnt_table ns (0 - 1)
  unfold passT
  rw [List.map_eq_nil_iff, List.filter_eq_nil_iff]
  constructor
  · intro h v hv
    apply Decidable.byContradiction
    intro hgt
    have hm : v ∈ wordsT ns (0 - 1) := List.count_pos_iff.mp (by omega)
    obtain ⟨p, hp, e⟩ := List.mem_map.mp ((hc.mem v).mpr hm)
    have e' : p.1 = v := e
    have h1 := hc.cnt p hp
    rw [e'] at h1
    refine h p hp ?_
    unfold twiceT
    simp only [Bool.and_eq_true, decide_eq_true_eq]
    exact ⟨by rw [e']; exact hv, by omega⟩
  · intro h p hp
    unfold twiceT
    simp only [Bool.and_eq_true, decide_eq_true_eq]
    rintro ⟨h1, h2⟩
    have := h p.1 h1
    rw [hc.cnt p hp] at h2
    omega
theorem pass_sid {ns : List Int} (h : ns.Pairwise (· < ·)) : passT twiceT (tableT ns (0 - 1)) = [] ↔ Sid ns := by
  rw [pass_nil]
  simp only [diff_count h]
  constructor
  · intro hh a ha b hb c hc d hd e
    by_cases q : a = c
    · exact .inl q
    · right
      refine hh (a - c) (by omega) a ha d hd ?_ ?_
      · rw [show a - (a - c) = c by omega]; exact hc
      · rw [show d - (a - c) = b by omega]; exact hb
  · intro hs v hv a ha d hd h1 h2
    rcases hs a ha (d - v) h2 (a - v) h1 d hd (by omega) with e | e
    · omega
    · exact e
theorem fact_unl {ns : List Int} (h : ns.Pairwise (· < ·)) : unl ns = decide (passT twiceT (tableT ns (0 - 1)) = []) := by
  unfold unl
  exact decide_eq_decide.mpr ((sums_sid h).trans (pass_sid h).symm)
theorem fact_unl2 (ns : List Int) : unl ns = decide (((tableT ns 1).length : Int) = Int.fdiv ((ns.length : Int) * ((ns.length : Int) + 1)) 2) := by
  unfold unl
  refine decide_eq_decide.mpr ((unl_len ns).trans ?_)
  rw [Int.fdiv_eq_ediv_of_nonneg _ (by omega)]
  have hl := sumsB_len ns ns.length
  generalize hq : ns.length * (ns.length + 1) = q at hl
  have : (ns.length : Int) * ((ns.length : Int) + 1) = (q : Int) := by rw [← hq]; push_cast; rfl
  rw [this]
  omega
end Mine

/-! part D13 -/
set_option maxHeartbeats 400000
namespace Mine
theorem counts_bound {ns : List Int} {sg : Int} (h : ns.length ≤ 6) : ∀ k ∈ (tableT ns sg).map (·.2), 0 ≤ k ∧ k ≤ 900 := by
  intro k hk
  obtain ⟨p, hp, e⟩ := List.mem_map.mp hk
  have e' : p.2 = k := e
  have h1 := (cnt_table ns sg).cnt p hp
  have h2 : (wordsT ns sg).count p.1 ≤ (wordsT ns sg).length := List.count_le_length
  rw [words_len] at h2
  have h3 : ns.length * ns.length ≤ 6 * 6 := Nat.mul_le_mul h h
  omega
/-- what the law's tests say -/
theorem no_low {ns : List Int} (h : ns.Pairwise (· < ·)) (hn : ns ≠ []) (hl : ((tableT ns 1).length : Int) < 2 * (ns.length : Int) - 1) : False := by
  have := fact_low h hn
  have : 0 < ns.length := List.length_pos_iff.mpr hn
  omega
theorem no_even {ns : List Int} (h : ns.Pairwise (· < ·)) (hn : ns ≠ []) (hlen : ns.length ≤ 6)
    (hl : ((((tableT ns 1).length : Int) == 2 * (ns.length : Int) - 1) != decide ((stepsL ns).filter (fun k => decide (k ≠ (stepsL ns).getD 0 0)) = [])) = true) : False := by
  have h1 := (fact_ap h hn).trans (even_ap hlen).symm
  have hp : 0 < ns.length := List.length_pos_iff.mpr hn
  have e : (((tableT ns 1).length : Int) == 2 * (ns.length : Int) - 1) = decide ((stepsL ns).filter (fun k => decide (k ≠ (stepsL ns).getD 0 0)) = []) := by
    rw [Bool.eq_iff_iff, beq_iff_eq, decide_eq_true_eq, ← h1]
    omega
  rw [e] at hl
  simp at hl
end Mine

/-! part D14 -/
set_option maxHeartbeats 400000
namespace Mine
section
variable {prog : Program} {w : World} {A : Around} {E : Value → Shared → Prop} {s : Shared} {h₀ : Heap} {L : Addr} {m : Str → Option Value} {env : Env}
theorem ListComp_I2 {elt iter test : Expr} {a b : Str} {pa pb tp : Pos} {kk : Nat} {scope : Scope} {cl : List (Str × Addr)} {pos : Pos} {Q : Value → Shared → Prop} (_F₀ : Fr h₀ L s.heap m)
    (hclos : closureFor scope env = pure cl) (hcell : ∀ y ∈ scope.names, y.2 ≠ .cell) (hkind : scope.kind = .function)
    (hnames : ∀ y ∈ scope.names, y.2 = .local → scope.names.lookup y.1 = some .local) (hxa : scope.names.lookup a = some .local) (hxb : scope.names.lookup b = some .local) (hab : ¬ a = b)
    (h : wpAny (model prog w) A (eval iter env) (SrcI prog w A h₀ L m env test elt a b scope cl Q) E s)
    (hs : ∀ x, foldedSetIterable iter env x = pure x := by intro _; rfl) :
    wpAny (model prog w) A (eval (.ListComp elt [⟨.Tuple [.Name a pa, .Name b pb] kk tp, iter, [test], 0⟩] scope pos) env) Q E s :=
  ListComp_I hclos hcell hkind hnames hxa hxb hab h hs
end
theorem updF_all {d : Addr} {o : Obj} : ∀ {l : List (Addr × Obj)} {g : Obj → List (Addr × Obj)}, UpdF d o l g → ∀ o', Upd d o o' l (g o')
  | _, _, .head h, _ => .head h
  | _, _, .tail h r, o' => .tail h (updF_all r o')
theorem Tab.dictNil {prog : Program} {w : World} {kn : List (Addr × Obj)} {o : Obj} {ns : List Int} {sg : Int} (t : Tab prog w kn o (tableT ns sg)) (h : decide (ns = []) = true) : Obj.IsDictOf (intKind prog w) o [] := by
  have e : ns = [] := of_decide_eq_true h
  subst e
  obtain ⟨xs, ⟨hc, es, ep, hd, he, _⟩, _, tv⟩ := t
  cases tv
  have e0 : es = #[] := by apply Array.ext'; simpa using he
  subst e0
  exact ⟨#[], ep, hc, hd, fun _ h => by simp at h, .nil, List.nodup_nil⟩
theorem not_any {ns : List Int} {c : Int} (h : (ns.any fun x => x == c) = false) : ¬ c ∈ ns := fun hm => by
  rw [List.any_eq_false] at h
  exact h c hm (by simp)
end Mine

/-! part D15 -/
set_option maxHeartbeats 400000
namespace Mine
/-- the law's row after i turns -/
def mc : Nat → List Int
  | 0 => [1]
  | i + 1 => if unl (mc i ++ [(i : Int) + 1 + 1]) = true then mc i ++ [(i : Int) + 1 + 1] else mc i
theorem mc_all : ∀ i, i ≤ 12 → (mc i).length ≤ 5 ∧ mc i = ([1, 2, 4, 8, 13] : List Int).take (mc i).length ∧ ((mc i).length = 5 ↔ i = 12) ∧ (4 ≤ (mc i).length ↔ 7 ≤ i) := by decide +kernel
theorem mc_len {i : Nat} (h : i ≤ 12) : (mc i).length ≤ 5 := (mc_all i h).1
theorem mc_row {i : Nat} (h : i ≤ 12) : mc i = ([1, 2, 4, 8, 13] : List Int).take (mc i).length := (mc_all i h).2.1
theorem mc_yes {i : Nat} {b : Bool} (h : b = unl (mc i ++ [(i : Int) + 1 + 1])) (hb : b = true) : mc (i + 1) = mc i ++ [(i : Int) + 1 + 1] := by
  rw [mc, if_pos (h.symm.trans hb)]
theorem mc_no {i : Nat} {b : Bool} (h : b = unl (mc i ++ [(i : Int) + 1 + 1])) (hb : b = false) : mc (i + 1) = mc i := by
  rw [mc, if_neg]
  rw [← h, hb]; simp
theorem mc_yesI {i : Nat} {b : Bool} {vs : List Value} (h : b = unl (mc i ++ [(i : Int) + 1 + 1])) (hb : b = true) (hI : IntsAre vs (mc i ++ [(i : Int) + 1 + 1])) : IntsAre vs (mc (i + 1)) := by
  rw [mc_yes h hb]; exact hI
theorem mc_noI {i : Nat} {b : Bool} {vs : List Value} (h : b = unl (mc i ++ [(i : Int) + 1 + 1])) (hb : b = false) (hI : IntsAre vs (mc i)) : IntsAre vs (mc (i + 1)) := by
  rw [mc_no h hb]; exact hI
theorem go_on {i : Nat} {b : Bool} (hi : i ≤ 12) (h : ((mc i).length : Int) < 4 + if b = true then 1 else 0) : i + 1 ≤ 12 := by
  have h1 := (mc_all i hi).2.2.1
  have h2 : ((mc i).length : Int) < 5 := by
    cases b with
    | true => simpa using h
    | false => simp at h; omega
  omega
theorem no_unl {ns : List Int} {b : Bool} (h : ns.Pairwise (· < ·)) (hb : b = unl ns) (hl : (b != decide (passT twiceT (tableT ns (0 - 1)) = [])) = true) : False := by
  rw [hb, fact_unl h] at hl
  simp at hl
theorem no_unl2 {ns : List Int} (h : ns.Pairwise (· < ·)) (hl : (decide (passT twiceT (tableT ns (0 - 1)) = []) != (((tableT ns 1).length : Int) == Int.fdiv ((ns.length : Int) * ((ns.length : Int) + 1)) 2)) = true) : False := by
  rw [← fact_unl h, fact_unl2 ns] at hl
  by_cases q : ((tableT ns 1).length : Int) = Int.fdiv ((ns.length : Int) * ((ns.length : Int) + 1)) 2
  · rw [beq_iff_eq.mpr q, decide_eq_true q] at hl; simp at hl
  · rw [beq_eq_false_iff_ne.mpr q, decide_eq_false q] at hl; simp at hl
theorem len_one {l : List Int} {x : Int} (h : l.length ≤ 5) : (l ++ [x]).length ≤ 6 := by
  rw [List.length_append, List.length_singleton]; omega
section
variable {prog : Program} {w : World} {A : Around} {E : Value → Shared → Prop} {s : Shared} {env : Env} {h₀ : Heap} {L : Addr} {Q : Flow → Shared → Prop}
/-- the frame in the while loop -/
def rowM (m₀ : Str → Option Value) (l : Addr) (x : Int) (t : Tok) : Str → Option Value := fun z => if z = Str.ofString "row" then some (.ref l) else if z = Str.ofString "here" then some (.int x t) else m₀ z
theorem rowM_next {m₀ : Str → Option Value} {l l' : Addr} {x x' : Int} {t t' : Tok} : (fun z => if z = Str.ofString "row" then some (.ref l') else if z = Str.ofString "here" then some (.int x' t') else rowM m₀ l x t z) = rowM m₀ l' x' t' := by
  funext z
  unfold rowM
  split
  · rfl
  · split
    · rfl
    · rfl
def RowPost (h₀ : Heap) (L : Addr) (s : Shared) (m₀ : Str → Option Value) (Q : Flow → Shared → Prop) (i : Nat) (f : Flow) (s₃ : Shared) : Prop :=
  match f with
  | .next | .cont => ∃ h' tk m₂ l vs k t, s₃ = { s with heap := h', toks := tk } ∧ Fr h₀ L h' m₂ ∧ News h₀ L h' [(l, W.listOf (List.toArray vs) k)] ∧ i + 1 ≤ 12 ∧ IntsAre vs (mc (i + 1)) ∧ m₂ = rowM m₀ l ((i : Int) + 1 + 1) t
  | .brk => Q .next s₃
  | .ret v => Q (.ret v) s₃
theorem RowPost.next {m₀ m₂ : Str → Option Value} {i : Nat} {h' : Heap} {tk : Nat} {l : Addr} {vs : List Value} {k : Nat} {t : Tok} {news : List (Addr × Obj)} (F : Fr h₀ L h' m₂) (N : News h₀ L h' news) (hl : (l, W.listOf vs.toArray k) ∈ news)
    (hi : i + 1 ≤ 12) (hI : IntsAre vs (mc (i + 1))) (hm : m₂ = rowM m₀ l ((i : Int) + 1 + 1) t) : RowPost h₀ L s m₀ Q i .next { s with heap := h', toks := tk } :=
  ⟨h', tk, m₂, l, vs, k, t, rfl, F, fun p hp => N p (by rw [List.mem_singleton.mp hp]; exact hl), hi, hI, hm⟩
/-- the loop's word: some turn's row -/
def RowAt (m₀ : Str → Option Value) (n : Nat) (m : Str → Option Value) (nw : List (Addr × Obj)) : Prop :=
  ∃ i l vs k t, n = 12 - i ∧ i ≤ 12 ∧ nw = [(l, W.listOf (List.toArray vs) k)] ∧ IntsAre vs (mc i) ∧ m = rowM m₀ l ((i : Int) + 1) t
theorem RowPost.step {m₀ : Str → Option Value} {i : Nat} {f : Flow} {s₃ : Shared} (q : RowPost h₀ L s m₀ Q i f s₃) : WhileStep2 h₀ L s (RowAt m₀) Q (12 - i) f s₃ := by
  have go : RowPost h₀ L s m₀ Q i .next s₃ → WhileStep2 h₀ L s (RowAt m₀) Q (12 - i) .next s₃ := fun ⟨h', tk, m₂, l, vs, k, t, e, F, N, hi, hI, hm⟩ =>
    ⟨h', tk, m₂, _, 12 - (i + 1), e, F, N, by omega, i + 1, l, vs, k, t, rfl, hi, rfl, hI, by rw [hm, show (((i + 1 : Nat) : Int) + 1) = (i : Int) + 1 + 1 from by omega]⟩
  cases f
  all_goals first | exact go q | exact q
theorem while_row {test : Expr} {body : List Stmt} {pos : Pos} {m₀ : Str → Option Value} {news : List (Addr × Obj)} {l₀ : Addr} {t₀ t₁ : Tok} {k₀ : Nat}
    (F : Fr h₀ L s.heap m₀) (N : News h₀ L s.heap news) (hl : (l₀, W.listOf #[.int 1 t₀] k₀) ∈ news) (hr : m₀ (Str.ofString "row") = some (.ref l₀)) (hh : m₀ (Str.ofString "here") = some (.int 1 t₁))
    (turn : ∀ i l vs k t h tk, i ≤ 12 → IntsAre vs (mc i) → Fr h₀ L h (rowM m₀ l ((i : Int) + 1) t) → News h₀ L h [(l, W.listOf (List.toArray vs) k)] →
      wpAny (model prog w) A (isTrue test env (eval test env)) (fun b s₂ =>
        if b = true then wpAny (model prog w) A (execs body env) (RowPost h₀ L s m₀ Q i) E s₂ else Q .next s₂) E { s with heap := h, toks := tk })
    (hE : PassesOwn (model prog w) A env E := by passes_own) :
    wpAny (model prog w) A (exec (.While test body [] pos) env) Q E s := by
  refine While_inv2 (n₀ := 12) (RowAt m₀) F (news := [(l₀, W.listOf #[.int 1 t₀] k₀)]) (fun p hp => N p (by rw [List.mem_singleton.mp hp]; exact hl)) ?_ ?_ hE
  · refine ⟨0, l₀, [.int 1 t₀], k₀, t₁, rfl, by omega, rfl, .cons 1 t₀ .nil, ?_⟩
    funext z
    unfold rowM
    split
    · rename_i e; subst e; exact hr
    · split
      · rename_i e; subst e; exact hh
      · rfl
  · rintro n m₁ n₁ h tk F₁ N₁ ⟨i, l, vs, k, t, rfl, hi, rfl, hI, rfl⟩
    refine wpAny_mono (turn i l vs k t h tk hi hI F₁ N₁) (fun b s₂ p => ?_) fun _ _ x => x
    by_cases hb : b = true
    · rw [if_pos hb] at p ⊢
      exact wpAny_mono p (fun f s₃ q => q.step) fun _ _ x => x
    · rw [if_neg hb] at p ⊢
      exact p
end
end Mine

/-! part LF -/

set_option maxRecDepth 100000
set_option maxHeartbeats 20000000

namespace Mine
section
local macro_rules | `(tactic| walk_at "compareOp Eq ref ref") => `(tactic| (k_here; k_dflt (refine' keq_pairs (knd := intKind _ _) (ka := []) (kb := []) ?zN ?z1 ?z2 ?zd ?ze ?z3 ?z4 rfl ?z5 .nil ?_; (case zN => k_asm); (case ze => with_reducible assumption); (case z1 => k_mem); (case z2 => k_mem); (case zd => exact Tab.dictNil (by with_reducible assumption) (by with_reducible assumption)); (case z3 => with_reducible assumption); (case z4 => with_reducible assumption); (case z5 => k_units)); k_whole))
local macro_rules | `(tactic| walk_at "eval ListComp") => `(tactic| (k_here; k_dflt (first
  | ((with_reducible show wpAny _ _ (eval (Expr.ListComp _ [⟨Expr.Name _ _, _, [_], 0⟩] _ _) _) _ _ _); refine' ListComp_F (cl := _) (x := _) ?z1 (by with_unfolding_all rfl) (by decide) (by rfl) (by decide) (by rfl) ?_; (case z1 => k_asm); k_whole)
  | ((with_reducible show wpAny _ _ (eval (Expr.ListComp _ [⟨Expr.Tuple _ _ _, _, [_], 0⟩] _ _) _) _ _ _); refine' ListComp_I2 (cl := _) (a := _) (b := _) ?z1 (by with_unfolding_all rfl) (by decide) (by rfl) (by decide) (by rfl) (by rfl) (by decide) ?_; (case z1 => k_asm); k_whole)
  | ((with_reducible show wpAny _ _ (eval (Expr.ListComp _ [⟨_, Expr.Call (Expr.Attribute _ _ _) _ _ _, [], 0⟩] _ _) _) _ _ _); (refine' ListComp_V (cl := _) (x := _) ?z1 (by with_unfolding_all rfl) (by decide) (by rfl) (by decide) (by rfl) ?_; (case z1 => k_asm); k_whole)))))
local macro_rules | `(tactic| walk_at "SrcF") => `(tactic| ((try (rename (_ ≠ _ ∧ _) => oo9; clear oo9)); (try (rename (_ ≠ _ ∧ _) => oo9; clear oo9)); k_dflt (refine' SrcF.ofNe ?zh ?zF ?zN ?zm ?zi ?zl ?zst ?_; (case zh => exact rfl); (case zF => k_asm); (case zN => k_asm); (case zm => k_mem); (case zi => with_reducible assumption); (case zl => (rw [List.length_map, rangeKs_length]; omega))); (case zst => exact fstep (by with_reducible assumption) (by k_mem) (by k_mem) (by with_reducible assumption) rfl rfl rfl (fun _ => rfl) (by decide) (by decide)); intro ys9 D9 h9 tk9 hy9 F9 N9 o9; clear o9))
local macro_rules | `(tactic| walk_at "SrcI") => `(tactic| (k_dflt (refine' SrcI.of ?zh ?zF ?zN ?zv ?zm ?zt ?zk ?zl ?zst ?_; (case zh => exact rfl); (case zF => k_asm); (case zN => k_asm); (case zv => (first | with_reducible assumption | ((try dsimp only); with_reducible assumption) | assumption)); (case zm => k_mem); (case zt => with_reducible assumption); (case zk => (repeat (first | exact fun _ h => h | refine' subC ?_))); (case zl => exact tableT_len (by with_reducible assumption))); (case zst => exact istep rfl rfl rfl (by decide) (by decide)); intro ys9 D9 h9 tk9 hy9 F9 N9 o9; clear o9))
local macro_rules | `(tactic| walk_at "SrcV") => `(tactic| (k_dflt (refine' SrcV.of2 (fun k => k * k) ?zh ?zF ?zN ?zv ?zm ?zt ?zl ?zst ?_; (case zh => exact rfl); (case zF => k_asm); (case zN => k_asm); (case zv => (first | with_reducible assumption | ((try dsimp only); with_reducible assumption) | assumption)); (case zm => k_mem); (case zt => with_reducible assumption); (case zl => exact tableT_len (by with_reducible assumption))); (case zst => exact vstep_sq (counts_bound (by with_reducible assumption)) rfl rfl (by decide)); intro ys9 D9 h9 tk9 hy9 F9 N9 o9; clear o9))
local macro_rules | `(tactic| walk_at "getMethod ref") => `(tactic| (k_here; k_dflt (first | (refine' tab_method PySem.F.slot_dict_values PySem.F.type_dict_values ?k1 ?k2 ?k3 ?_; (case k1 => k_asm); (case k2 => k_mem); (case k3 => with_reducible assumption); k_whole) | (refine' tab_method PySem.F.slot_dict_items PySem.F.type_dict_items ?k1 ?k2 ?k3 ?_; (case k1 => k_asm); (case k2 => k_mem); (case k3 => with_reducible assumption); k_whole))))
local macro_rules | `(tactic| walk_at "call builtin:dict.values") => `(tactic| (k_here; k_dflt (refine' tab_callValues ?k1 ?k2 ?k3 ?k4 ?k5 ?_; (case k1 => k_asm); (case k2 => k_asm); (case k3 => with_reducible assumption); (case k4 => k_mem); (case k5 => with_reducible assumption); k_whole); intro v9 h9 hv9 lv9 F9 N9))
local macro_rules | `(tactic| walk_at "call builtin:dict.items") => `(tactic| (k_here; k_dflt (refine' tab_callItems ?k1 ?k2 ?k3 ?k4 ?k5 ?_; (case k1 => k_asm); (case k2 => k_asm); (case k3 => with_reducible assumption); (case k4 => k_mem); (case k5 => with_reducible assumption); k_whole); intro v9 h9 hv9 lv9 F9 N9))
local macro_rules | `(tactic| walk_at "subscriptTail Name Constant ref int") => `(tactic| (k_here; k_dflt (refine' key_tail ?k1 ?k2 ?k3 ?_; (case k3 => with_reducible assumption); (case k1 => k_asm); (case k2 => exact List.mem_cons_of_mem _ (List.mem_cons_of_mem _ (List.mem_cons_of_mem _ (by with_reducible assumption)))); k_whole); intro u9))
local macro_rules | `(tactic| walk_at "call builtin:len") => `(tactic| (k_here; k_dflt (refine' tab_len ?k1 ?k2 ?k3 ?k4 ?k5 ?_; (case k2 => k_asm); (case k3 => k_mem); (case k4 => with_reducible assumption); (case k1 => with_reducible assumption); (case k5 => exact Nat.lt_of_le_of_lt (tableT_len (by with_reducible assumption)) (by decide)); k_whole)))
local macro_rules | `(tactic| k_all) => `(tactic| assumption)
local macro_rules | `(tactic| walk_at "exec For Name Subscript cons nil") => `(tactic| (k_here; (rename Fr _ _ _ _ => lF'); (with_unfolding_all refine' For_turns lF' ?_); k_whole))
local macro_rules | `(tactic| walk_at "exec While BoolOp cons nil") => `(tactic| (k_here; (rename Fr _ _ _ _ => lF9); (rename News _ _ _ _ => lN9); (with_unfolding_all refine' while_row lF9 lN9 ?w1 ?w2 ?w3 ?_); (case w1 => k_mem); (case w2 => exact rfl); (case w3 => exact rfl); intro i9 l9 vs9 k9 t9 h9 tk9 hi9 hI9 F9 N9; clear lF9 lN9; (have hl9 := mc_len hi9); (have hq9 := mc_all i9 hi9); (try k_fold)))
local macro_rules | `(tactic| walk_at "call ref") => `(tactic| (k_here; k_dflt (first
  | ((with_reducible show wpAny _ _ (call (Value.ref 23) [Value.ref _, Value.int _ _]) _ _ _); (refine' insort2 ⟨?k1, ?k2, ?k3, ?k4, ?k5, ?k6, ?k7, ?k8⟩ ?l (updF_all ?u) ?i ?n ?s ?_; (case k1 => k_asm); (case k2 => k_asm); (case k3 => k_asm); (case k4 => k_asm); (case k5 => k_asm); (case k6 => exact rfl); (case k7 => ktr_room); (case k8 => ktr_units); (case u => k_updF); (case l => k_mem); (case i => with_reducible assumption); (case n => omega); (case s => with_reducible assumption)); k_whole; intro v9 h9 tk9 hI9 F9 N9; (try dsimp only at N9); (try dsimp only); (try k_fold))
  | ((with_reducible show wpAny _ _ (call (Value.ref 53) [Value.ref _, Value.int 1 _]) _ _ _); (refine' table2 ⟨?k1, ?k2, ?k3, ?k4, ?k5, ?k6, ?k7, ?k8⟩ ?l ?i ?n ?b ?s ?_; (case k1 => k_asm); (case k2 => k_asm); (case k3 => k_asm); (case k4 => k_asm); (case k5 => k_asm); (case k6 => exact rfl); (case k7 => ktr_room); (case k8 => ktr_units); (case l => k_mem); (case i => with_reducible assumption); (case n => with_reducible assumption); (case b => with_reducible assumption); (case s => decide)); k_whole; intro D9 o9 kn9 h9 tk9 lo9 hs9 t9 F9 N9; (replace N9 := ledger1 N9 hs9); (have hq9 := splitL_of hs9); (simp only [List.cons_append, List.nil_append] at N9 hq9); (try dsimp only); (try k_fold))
  | ((with_reducible show wpAny _ _ (call (Value.ref 53) [Value.ref _, Value.int _ _]) _ _ _); (rename Tab _ _ _ _ _ => tp9); (refine' table2 ⟨?k1, ?k2, ?k3, ?k4, ?k5, ?k6, ?k7, ?k8⟩ ?l ?i ?n ?b ?s ?_; (case k1 => k_asm); (case k2 => k_asm); (case k3 => k_asm); (case k4 => k_asm); (case k5 => k_asm); (case k6 => exact rfl); (case k7 => ktr_room); (case k8 => ktr_units); (case l => k_mem); (case i => with_reducible assumption); (case n => with_reducible assumption); (case b => with_reducible assumption); (case s => decide)); k_whole; intro D9 o9 kn9 h9 tk9 lo9 hs9 t9 F9 N9; (obtain ⟨K9, hK9, hNe9, tA9, tB9, NK9⟩ := ledger3 (by with_reducible assumption) (by with_reducible assumption) N9 hs9 t9 tp9 (by k_mem)); (clear N9 hs9 t9 tp9); (simp only [List.cons_append, List.nil_append] at NK9); (try dsimp only); (try k_fold))
  | ((with_reducible show wpAny _ _ (call (Value.ref 46) [Value.ref _]) _ _ _); (refine' count1 ⟨?k1, ?k2, ?k3, ?k4, ?k5, ?k6, ?k7, ?k8⟩ ?lo ?m ?t ?_; (case k1 => k_asm); (case k2 => k_asm); (case k3 => k_asm); (case k4 => k_asm); (case k5 => k_asm); (case k6 => exact rfl); (case k7 => ktr_room); (case k8 => ktr_units); (case m => k_mem); (case lo => with_reducible assumption); (case t => with_reducible assumption)); k_whole; intro u9 h9 tk9 F9 N9; (try dsimp only); (try k_fold))
  | ((with_reducible show wpAny _ _ (call (Value.ref 60) [Value.ref _]) _ _ _); (refine' unlike1 ⟨?k1, ?k2, ?k3, ?k4, ?k5, ?k6, ?k7, ?k8⟩ ?l ?i ?n ?_; (case k1 => k_asm); (case k2 => k_asm); (case k3 => k_asm); (case k4 => k_asm); (case k5 => k_asm); (case k6 => exact rfl); (case k7 => ktr_room); (case k8 => ktr_units); (case l => k_mem); (case i => with_reducible assumption); (case n => first | with_reducible assumption | exact len_one (by with_reducible assumption) | exact Nat.le_of_ble_eq_true rfl)); k_whole; intro b9 h9 tk9 hb9 F9 N9; (try dsimp only); (try k_fold)))))
theorem law1 : PySem.Challenge.rw_gm0004_01.Holds := hd (by
  k_go0
  all_goals (try k_fold)
  k_steps
  rename Fr _ _ _ _ => lF
  rename News _ _ _ _ => lN
  rename IntsAre _ (List.take 6 _) => lS
  with_unfolding_all refine' list_ins (Str.ofString "cell") NumP (by rfl) lF lN lS numP_nil ?q1 ?q2
  case q1 =>
    intro I oI i c t vs ns k u h tk hc hI hP hoff F9 N9
    k_lt hoff
    clear lF lN
    have hsrt := sorted_of_strict hP.1
    have hlen := hP.2.2
    have hlen6 : ns.length ≤ 6 := by rw [List.length_take, List.length_take] at hlen; omega
    k_steps
    · exact TurnPost.next (by k_asm) (by k_asm) (by k_all) (.head _) ⟨⟨_, _, _, rfl, by with_reducible assumption, numP_old hP hc⟩, fun z hz => by simp [hz]⟩
    · exact TurnPost.next (by k_asm) (by k_asm) (by k_all) (.head _) ⟨⟨_, _, _, rfl, by with_reducible assumption, numP_new hP hc (not_any (by with_reducible assumption))⟩, fun z hz => by simp [hz]⟩
  case q2 =>
    intro vs ns k u h tk hI hP F9 N9
    clear lF lN
    have hsrt := sorted_of_strict hP.1
    have hstrict := hP.1
    have hlen : ns.length ≤ 6 := Nat.le_trans hP.2.2 (by rw [List.length_take]; omega)
    have hb := hP.2.1
    rename _ = Data.cell (bindC _ _ _ (Str.ofString "steps")) => hcell
    have hstep : StepCell _ := ⟨_, hcell⟩
    have fc1 := fact_count ns 1
    have fc2 := fact_count ns (0 - 1)
    k_steps
    all_goals (try (exfalso; first | exact absurd fc1 (by with_reducible assumption) | exact absurd fc2 (by with_reducible assumption) | exact absurd (fact_energy _) (by with_reducible assumption) | exact no_low hstrict (of_decide_eq_false (by with_reducible assumption)) (by with_reducible assumption) | ((rename (_ != _) = true => hh); exact no_even hstrict (of_decide_eq_false (by with_reducible assumption)) hlen hh)))
    k_steps
    all_goals first
      | (exfalso; exact no_unl hstrict (by with_reducible assumption) (by with_reducible assumption))
      | (exfalso; exact no_unl2 hstrict (by with_reducible assumption))
      | exact RowPost.next (by with_reducible assumption) (by with_reducible assumption) (by k_mem) (go_on (by with_reducible assumption) (by with_reducible assumption)) (mc_yesI (by with_reducible assumption) (by with_reducible assumption) (by with_reducible assumption)) rowM_next
      | exact RowPost.next (by with_reducible assumption) (by with_reducible assumption) (by k_mem) (go_on (by with_reducible assumption) (by with_reducible assumption)) (mc_noI (by with_reducible assumption) (by with_reducible assumption) (by with_reducible assumption)) rowM_next
  )
end
end Mine

set_option maxRecDepth 100000 in
set_option maxHeartbeats 8000000 in
theorem PySem.Challenge.cw_gm0004_01_holds : PySem.Challenge.rw_gm0004_01.Holds :=
  Mine.law1
