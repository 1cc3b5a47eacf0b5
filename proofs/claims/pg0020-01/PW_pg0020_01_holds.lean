import PyProof.Rows.All
import Wide.All
import OpenK.AllK
import Wide.FinOn
import PySem.Challenge.RW_pg0020_01
open PySem PySem.W PySem.Calls PyProof.Rows
set_option Elab.async false
namespace Mine
set_option maxRecDepth 100000 in
set_option maxHeartbeats 8000000 in
open_top hd for PySem.Challenge.rw_pg0020_01
end Mine
namespace Mine
theorem runs_toks {M : Model} {Γ : Ctx} {p : Pos} {t : Sem Fin} {fs : List Frame} {s : Shared} {e : End} {s' : Shared}
    (h : Runs M Γ p t fs s e s') : s.toks ≤ s'.toks := by
  induction h with
  | done => exact Nat.le_refl _
  | raise => exact Nat.le_refl _
  | yield => exact Nat.le_refl _
  | fresh _ ih => exact Nat.le_trans (Nat.le_succ _) ih
  | call _ _ ih1 ih2 => exact Nat.le_trans ih1 ih2
  | resumeFresh _ _ _ _ ih1 ih2 => exact Nat.le_trans ih1 ih2
  | resumeSuspended _ _ _ _ ih1 ih2 => exact Nat.le_trans ih1 ih2
  | segRet _ _ ih1 ih2 => exact Nat.le_trans ih1 ih2
  | segGen _ _ ih1 ih2 => exact Nat.le_trans ih1 ih2
  | segSuspGen _ _ _ _ ih1 ih2 => exact Nat.le_trans ih1 ih2
  | _ => assumption
theorem wakes_toks {M : Model} {Γ : Ctx} {p : Pos} {g : Nat} {r : Resume} {s : Shared} {res : GenResult} {s' : Shared}
    (h : Wakes M Γ p g r s res s') : s.toks ≤ s'.toks := by
  unfold Wakes at h
  split at h
  · exact h.elim
  · split at h
    · obtain ⟨e, s₁, hr, _, _, rfl⟩ := h
      have q := runs_toks hr; exact q
    · rw [h.2]; exact Nat.le_refl _
    · rw [h.2]; exact Nat.le_refl _
  · obtain ⟨e, s₁, hr, _, _, rfl⟩ := h
    have q := runs_toks hr; exact q
  · rw [h.2]; exact Nat.le_refl _
  · rw [h.2]; exact Nat.le_refl _
theorem wp_toks {α : Type} (M : Model) (Γ : Ctx) (t : Sem α) : ∀ (n : Nat) (Q : α → Pos → Shared → Prop) (E : Value → Pos → Shared → Prop) (p : Pos) (s : Shared), n ≤ s.toks →
    Sem.wp M Γ t Q E p s → Sem.wp M Γ t (fun a p' s' => n ≤ s'.toks ∧ Q a p' s') E p s := by
  induction t with
  | pure a => intro n Q E p s hn h; exact ⟨hn, h⟩
  | raise e => intro n Q E p s hn h; exact h
  | unsupported _ => intro n Q E p s hn h; exact h
  | finish _ => intro n Q E p s hn h; exact h
  | register _ _ _ => intro n Q E p s hn h; exact h
  | yield _ _ _ _ _ => intro n Q E p s hn h; exact h
  | fork _ _ _ => intro n Q E p s hn h; exact h
  | await _ _ _ _ _ _ => intro n Q E p s hn h; exact h
  | rule _ k ih => intro n Q E p s hn h; simp only [Sem.wp] at h ⊢; exact ih _ n Q E _ _ hn h
  | «at» _ k ih => intro n Q E p s hn h; simp only [Sem.wp] at h ⊢; exact ih _ n Q E _ _ hn h
  | load a part k ih => intro n Q E p s hn h; simp only [Sem.wp] at h ⊢; obtain ⟨o, ho, h⟩ := h; exact ⟨o, ho, ih _ n Q E _ _ hn h⟩
  | update a part f k ih => intro n Q E p s hn h; simp only [Sem.wp] at h ⊢; exact ⟨h.1, ih _ n Q E _ _ hn h.2⟩
  | loadIfAlive a k ih => intro n Q E p s hn h; simp only [Sem.wp] at h ⊢; exact ih _ n Q E _ _ hn h
  | point _ k ih => intro n Q E p s hn h; simp only [Sem.wp] at h ⊢; exact ih _ n Q E _ _ hn h
  | alloc o k ih => intro n Q E p s hn h; simp only [Sem.wp] at h ⊢; exact ih _ n Q E _ _ hn h
  | fresh k ih => intro n Q E p s hn h; simp only [Sem.wp] at h ⊢; exact ih _ n Q E _ { s with toks := s.toks + 1 } (Nat.le_succ_of_le hn) h
  | ask k ih => intro n Q E p s hn h; simp only [Sem.wp] at h ⊢; exact ih _ n Q E _ _ hn h
  | choose src m k ih => intro n Q E p s hn h; simp only [Sem.wp] at h ⊢; exact ⟨h.1, ih _ n Q E _ { s with drawn := s.drawn.bump src } hn h.2⟩
  | os q l k ih => intro n Q E p s hn h; simp only [Sem.wp] at h ⊢; exact ih _ n Q E _ { s with os := (Os.step s.os q).1 } hn h
  | call c hh g l k ih =>
    intro n Q E p s hn h
    simp only [Sem.wp] at h ⊢
    obtain ⟨r, s', hr, h⟩ := h
    exact ⟨r, s', hr, ih r n Q E p s' (Nat.le_trans hn (runs_toks hr)) h⟩
  | handled own k ih => intro n Q E p s hn h; simp only [Sem.wp] at h ⊢; exact ih _ n Q E _ _ hn h
  | genState g k ih => intro n Q E p s hn h; simp only [Sem.wp] at h ⊢; obtain ⟨st, hs, h⟩ := h; exact ⟨st, hs, ih _ n Q E _ _ hn h⟩
  | newGen c k ih => intro n Q E p s hn h; simp only [Sem.wp] at h ⊢; exact ih _ n Q E _ { s with gens := s.gens.push (.fresh c) } hn h
  | resume g r l k ih =>
    intro n Q E p s hn h
    simp only [Sem.wp] at h ⊢
    obtain ⟨res, s', hw, h⟩ := h
    exact ⟨res, s', hw, ih res n Q E p s' (Nat.le_trans hn (wakes_toks hw)) h⟩
  | stack k ih => intro n Q E p s hn h; simp only [Sem.wp] at h ⊢; exact ih _ n Q E _ _ hn h
  | thread k ih => intro n Q E p s hn h; simp only [Sem.wp] at h ⊢; exact ih _ n Q E _ _ hn h
theorem up {α : Type} {M : Model} {A : Around} {t : Sem α} {Q : α → Shared → Prop} {E : Value → Shared → Prop} {s : Shared}
    (h : wpAny M A t (fun v s' => s.toks ≤ s'.toks → Q v s') E s) : wpAny M A t Q E s := fun Γ p hΓ =>
  Sem.wp_mono M Γ t (fun _ _ _ hh => hh.2 hh.1) (fun _ _ _ h' => h') p s (wp_toks M Γ t s.toks _ _ p s (Nat.le_refl _) (h Γ p hΓ))
end Mine
namespace Mine
set_option maxRecDepth 100000
set_option maxHeartbeats 8000000
def sparedS (x y : PySem.Str) : Bool :=
  if (x == y) = true then true else
  if ((PySem.Txt.slice x none (some 1) == PySem.Str.ofString "\"") && (PySem.Txt.slice y none (some 1) == PySem.Str.ofString "\"")) = true then
    (PySem.Txt.slice x (some 1) none != PySem.Str.ofString "") && (PySem.Txt.slice y (some 1) none != PySem.Str.ofString "") && !(PySem.Txt.contains (PySem.Txt.slice x (some 1) none ++ PySem.Txt.slice y (some 1) none) (PySem.Str.ofString "\""))
  else (x != PySem.Str.ofString "") && (y != PySem.Str.ofString "") && !(PySem.Txt.contains (x ++ y) (PySem.Str.ofString "\""))
theorem c_spared (w : World) {loose : List PySem.Str} {mean : ExcName → Option Value} {mg mb : PySem.Str → Option Value} {news : List (Addr × Obj)}
   (dp un : Nat) (gd : Option (List Code)) (cn : PySem.Str) (cs : Scope) (a : Addr) (ccd : Value) (cl : List (PySem.Str × Addr)) (outer : List Env) (A₀ : Around) (base h₀ : Heap) (L : Addr) (m : PySem.Str → Option Value) (s : Shared) (Q E : Value → Shared → Prop)
   (x y : PySem.Str) (t u : Tok)
   (B : Below A₀ base outer h₀) (F : Fr h₀ L s.heap m) (X : (hd.heap_39 w.params).In h₀) (N : News h₀ L s.heap news) (T : Top hd.view_39 loose mean mg mb h₀) (hk : cs.kind = .function)
   (hx : x.length ≤ 1000) (hy : y.length ≤ 1000)
   (hdp : dp + 1 < recursionLimit) (hu : un + 8 < cLine)
   (h : ∀ h' tk', Fr h₀ L h' m → News h₀ L h' news → Q (.bool (sparedS x y)) {s with heap := h', toks := tk'}) :
    wpAny (model Challenge.rw_pg0020_01.prog w) (ktrTop dp un gd cn cs L a ccd cl outer) (call (.ref 72) [.str x t, .str y u]) Q E s := by
  revert X; k_fill; intro X
  refine wpAny_call ?_
  k_dflt cell_enter
  k_steps
  all_goals (refine cb_retB (h₀ := h₀) (L := L) (m := m) (news := news) (s := s) (Q := Q) (fun _ h' tk' F' N' => h h' tk' F' N') ?_ (by assumption) (by assumption))
  all_goals (clear h F N B X T; simp only [sparedS, PySem.Txt.contains, Bool.not_not, Bool.true_and, Bool.false_and, Bool.and_true, Bool.and_false, Bool.and_self, if_true, Bool.false_eq_true, if_false, *])
end Mine
namespace Mine
set_option maxRecDepth 100000
set_option maxHeartbeats 8000000
def dblG (a : PySem.Str) : PySem.Str := if (a == PySem.Str.ofString "\"") = true then a ++ a else a
def dblS (x : PySem.Str) : PySem.Str := PySem.Txt.join (PySem.Str.ofString "") ((PyProof.Rows.signs x).map dblG)
theorem add_dq {prog : Program} {w : World} {A : Around} {E : Value → Shared → Prop} {s : Shared} {a : PySem.Str} {u v : Tok} {Q : Value → Shared → Prop}
    (hc : (a == PySem.Str.ofString "\"") = true) (h : ∀ t' k, Q (.str (a ++ a) t') { s with toks := k }) :
    wpAny (model prog w) A (binaryOp .Add (.str a u) (.str a v)) Q E s := by
  have e : a = PySem.Str.ofString "\"" := eq_of_beq hc
  subst e
  exact KXadd.add (K := 1) (L := 1) (by decide) (by decide) (by decide) (fun t' k _ => h t' k)
theorem dbl_len (a : PySem.Str) (h : a.length ≤ 1) : (dblG a).length ≤ 2 := by
  unfold dblG
  split
  · rw [PySem.Str.length_append]; omega
  · omega
theorem dbl_carried {ys : List Value} {x : PySem.Str} (h : CarriedAll ys (List.map (fun a => if (a == PySem.Str.ofString "\"") = true then PyData.str (a ++ a) else PyData.str a) (List.filter (fun _ => true) (signs x)))) :
    CarriedAll ys ((signs x).map fun a => PyData.str (dblG a)) := by
  have e : (fun a : PySem.Str => if (a == PySem.Str.ofString "\"") = true then PyData.str (a ++ a) else PyData.str a) = fun a => PyData.str (dblG a) := by
    funext a; unfold dblG; split <;> rfl
  rw [e] at h
  rw [filter_true'] at h
  exact h
theorem signs_one {x a : PySem.Str} (h : a ∈ signs x) : a.length = 1 := by
  unfold signs at h
  simp only [List.mem_map] at h
  obtain ⟨c, _, rfl⟩ := h
  rfl
theorem signs_len (x : PySem.Str) : (signs x).length = x.length := by
  unfold signs
  rw [List.length_map]; exact Array.length_toList
local macro_rules | `(tactic| walk_at "binaryOp Add str str") => `(tactic| (k_here; (with_reducible refine add_dq (by assumption) ?_); intro _ _))
local macro_rules | `(tactic| walk_at "call builtin:str.join") => `(tactic| (k_here; (with_reducible rename CarriedAll _ _ => ktC); (refine KT.join_B 2 (by assumption) (dbl_carried ktC) (fun a ha => dbl_len a (Nat.le_of_eq (signs_one ha))) (by rw [signs_len]; omega) (by decide) ?_); intro _ _))
theorem c_doubled (w : World) {loose : List PySem.Str} {mean : ExcName → Option Value} {mg mb : PySem.Str → Option Value} {news : List (Addr × Obj)}
   (dp un : Nat) (gd : Option (List Code)) (cn : PySem.Str) (cs : Scope) (a : Addr) (ccd : Value) (cl : List (PySem.Str × Addr)) (outer : List Env) (A₀ : Around) (base h₀ : Heap) (L : Addr) (m : PySem.Str → Option Value) (s : Shared) (Q E : Value → Shared → Prop)
   (x : PySem.Str) (t : Tok)
   (B : Below A₀ base outer h₀) (F : Fr h₀ L s.heap m) (X : (hd.heap_39 w.params).In h₀) (N : News h₀ L s.heap news) (T : Top hd.view_39 loose mean mg mb h₀) (hk : cs.kind = .function)
   (hx : x.length ≤ 1000)
   (hdp : dp + 1 < recursionLimit) (hu : un + 8 < cLine)
   (h : ∀ t' h' tk', Fr h₀ L h' m → News h₀ L h' news → Q (.str (dblS x) t') {s with heap := h', toks := tk'}) :
    wpAny (model Challenge.rw_pg0020_01.prog w) (ktrTop dp un gd cn cs L a ccd cl outer) (call (.ref 65) [.str x t]) Q E s := by
  revert X; k_fill; intro X
  refine wpAny_call ?_
  k_dflt cell_enter
  k_steps
  exact h _ _ _ (by assumption) (cb_drop (by assumption) (fun p hp => List.mem_cons_of_mem _ hp))
end Mine
namespace Mine
set_option maxRecDepth 100000
set_option maxHeartbeats 8000000
theorem split_ok {x y z : PySem.Str} (hx : x.length ≤ 1000) (hz : z.length ≤ 1000) (hy : (y.length == 0) = false) : JoinOk z (PySem.Txt.split x y) = true := by
  have hy1 : 1 ≤ y.length := by
    have : y.length ≠ 0 := by simpa using hy
    omega
  have h1 := split_weight x y hy1
  have h2 : (PySem.Txt.split x y).length * z.length ≤ (PySem.Txt.split x y).length * 1000 := Nat.mul_le_mul_left _ hz
  unfold JoinOk
  rw [Bool.not_eq_true', StrLaws.joinTotal]
  unfold Builtin.Str.tooLong
  exact decide_eq_false (by rw [sizeLine_eq]; omega)
local macro_rules | `(tactic| walk_at "call builtin:str.join") => `(tactic| (k_here; (with_reducible rename (List.map _ _ = PySem.Txt.split _ _) => hlook'); (refine SC.join (by assumption) hlook' (split_ok (by assumption) (by assumption) (by assumption)) ?_); intro _ _))
theorem tup_rest {prog : Program} {w : World} {A : Around} {E : Value → Shared → Prop} {s : Shared} {h₀ : Heap} {L : Addr} {m : PySem.Str → Option Value} {news : List (Addr × Obj)} {value slice : PySem.Expr} {t : Addr} {v1 v2 : Value} {n : Nat} {u : Tok} {Q : Value → Shared → Prop}
    (F : Fr h₀ L s.heap m) (N : News h₀ L s.heap news) (hm : (t, ({ cls := .type "tuple", data := .seq #[v1, v2] n } : Obj)) ∈ news)
    (h : ∀ h', Fr h₀ L h' m → News h₀ L h' ((s.heap.objs.size + 1, ({ cls := .type "tuple", data := .seq #[] } : Obj)) :: news) → Q (.ref (s.heap.objs.size + 1)) { s with heap := h' })
    (hs : subscripted slice false (.ref t) (.ref s.heap.objs.size) = operate [.ref s.heap.objs.size, .ref t] (getItem (.ref t) (.ref s.heap.objs.size)))
    (hg : ∀ r, letTemporaryGo value (.ref t) r = pure ()) :
    wpAny (model prog w) A (subscriptTail value slice (.ref t) (.ref s.heap.objs.size)) Q E { s with heap := s.heap.push { cls := .type "slice", data := .fields #[.int 2 u, .none, .none] } } :=
  slice_tuple_from (a := 2) F N (items := #[v1, v2]) (News.isTup N hm) (by decide) (Nat.le_refl 2) h hs hg (by rw [sizeLine_eq]; exact Nat.le_of_ble_eq_true rfl)
local macro_rules | `(tactic| walk_at "subscriptTail Name Slice ref ref") => `(tactic| (k_here; (with_reducible show wpAny _ _ (subscriptTail _ (PySem.Expr.Slice _ _ none _) (Value.ref _) (Value.ref _)) _ _ _); k_dflt (refine' tup_rest ?f ?n ?m ?_ ?s ?g; (case f => k_asm); (case n => k_asm); (case m => k_mem); (case s => with_unfolding_all rfl); (case g => intro _; with_unfolding_all rfl)); intro h' F' N'))
local macro_rules | `(tactic| walk_at "exec While") => `(tactic| (k_here; k_dflt (refine whl_start 3 ?_)))
local macro_rules | `(tactic| k_enter) => `(tactic| (refine' kp_rest ?k1 ?k2 ?k3 ?k4 ?k5 ?kA ?kF ?kK ?k6 ?k7 ?k8 ?kV ?kP ?kG ?kB ?_ ?c2 ?c3 ?c4 ?c5; (case kA => exact rfl); (case kF => exact rfl); (case kK => assumption); (case k1 => k_asm); (case k2 => k_asm); (case k3 => k_asm); (case k4 => k_asm); (case k5 => k_asm); (case k6 => k_is); (case k7 => k_is); (case k8 => ktr_room); (case kV => kl_lit); (case kP => exact rfl); (case kG => exact fun _ => rfl); (case kB => exact fun _ => locs rfl); (case c5 => decide); (case c2 => exact rfl); (case c3 => exact rfl); (case c4 => exact rfl); k_whole; intro D' g' L' h' l1 FG' F' N' B' X' T'; (try k_lt l1); (try dsimp only); (try k_lift B'); (try k_fold)))
theorem c_replace (w : World) {loose : List PySem.Str} {mean : ExcName → Option Value} {mg mb : PySem.Str → Option Value} {news : List (Addr × Obj)}
   (dp un : Nat) (gd : Option (List Code)) (cn : PySem.Str) (cs : Scope) (a : Addr) (ccd : Value) (cl : List (PySem.Str × Addr)) (outer : List Env) (A₀ : Around) (base h₀ : Heap) (L : Addr) (m : PySem.Str → Option Value) (s : Shared) (Q E : Value → Shared → Prop)
   (x y z : PySem.Str) (t u v : Tok)
   (B : Below A₀ base outer h₀) (F : Fr h₀ L s.heap m) (X : (hd.heap_39 w.params).In h₀) (N : News h₀ L s.heap news) (T : Top hd.view_39 loose mean mg mb h₀) (hk : cs.kind = .function)
   (hx : x.length ≤ 1000) (hy : y.length ≤ 1000) (hz : z.length ≤ 1000) (hy0 : (y.length == 0) = false)
   (hdp : dp + 1 < recursionLimit) (hu : un + 8 < cLine)
   (h : ∀ t' h' tk', Fr h₀ L h' m → News h₀ L h' news → Q (.str (PySem.Txt.join z (PySem.Txt.split x y)) t') {s with heap := h', toks := tk'}) :
    wpAny (model Challenge.rw_pg0020_01.prog w) (ktrTop dp un gd cn cs L a ccd cl outer) (call (.ref 53) [.str x t, .str y u, .str z v]) Q E s := by
  revert X; k_fill; intro X
  refine wpAny_call ?_
  k_dflt k_enter
  k_steps
  exact h _ _ _ (by assumption) (cb_drop (by assumption) (fun p hp => List.mem_cons_of_mem _ (List.mem_cons_of_mem _ (List.mem_cons_of_mem _ hp))))
end Mine
namespace Mine
set_option maxRecDepth 100000
set_option maxHeartbeats 8000000
def parseL : List Nat → List Nat
  | [] => []
  | [c] => if c = 34 then [] else [c]
  | c :: d :: r => if c = 34 then (if d = 34 then 34 :: parseL r else []) else c :: parseL (d :: r)
theorem parseL_other {c : Nat} (h : c ≠ 34) (r : List Nat) : parseL (c :: r) = c :: parseL r := by
  cases r with
  | nil => simp [parseL, h]
  | cons d r => simp [parseL, h]
def ParInv (r : PySem.Str) (i : Int) (d : PySem.Str) : Prop := d.cps.toList ++ parseL (r.cps.toList.drop i.toNat) = parseL (r.cps.toList.drop 5)
theorem item_drop {r : PySem.Str} {i : Int} (h0 : 0 ≤ i) (hi : i < (r.length : Int)) :
    ∃ c, PySem.Txt.item r i = ⟨#[c]⟩ ∧ r.cps.toList.drop i.toNat = c :: r.cps.toList.drop (i.toNat + 1) := by
  have hl : i.toNat < r.cps.toList.length := by
    have : r.cps.toList.length = r.length := Array.length_toList
    omega
  refine ⟨r.cps.toList[i.toNat], ?_, List.drop_eq_getElem_cons hl⟩
  have hl' : i.toNat < r.cps.size := by simpa using hl
  have e : PySem.Txt.charAt r i = some (r.cps.toList[i.toNat]) := by
    unfold PySem.Txt.charAt seqIndex?
    have hj : (if i < 0 then i + (r.length : Int) else i) = i := if_neg (by omega)
    simp only [hj]
    have hb : (decide (0 ≤ i) && decide (i < (r.length : Int))) = true := by simp [h0, hi]
    simp [h0, hi, hl']
  unfold PySem.Txt.item
  rw [e]
  rfl
theorem dq_is : PySem.Str.ofString "\"" = ⟨#[34]⟩ := by decide +kernel
theorem one_eq {c : Nat} (h : ((⟨#[c]⟩ : PySem.Str) == PySem.Str.ofString "\"") = true) : c = 34 := by
  rw [dq_is] at h
  have := eq_of_beq h
  injection this with h1
  simpa using h1
theorem one_ne {c : Nat} (h : ((⟨#[c]⟩ : PySem.Str) == PySem.Str.ofString "\"") = false) : c ≠ 34 := by
  intro e
  subst e
  rw [dq_is] at h
  simp at h
theorem par_end1 {r : PySem.Str} {i : Int} {d : PySem.Str} (h1 : ParInv r i d) (h0 : 5 ≤ i) (hi : i < (r.length : Int)) (hc : (PySem.Txt.item r i == PySem.Str.ofString "\"") = true) (hn : (r.length : Int) ≤ i + 1) :
    d.cps.toList = parseL (r.cps.toList.drop 5) := by
  obtain ⟨c, e1, e2⟩ := item_drop (by omega) hi
  rw [e1] at hc
  have hc' := one_eq hc
  subst hc'
  have e3 : r.cps.toList.drop (i.toNat + 1) = [] := List.drop_eq_nil_of_le (by
    have : r.cps.toList.length = r.length := Array.length_toList
    omega)
  unfold ParInv at h1
  rw [e2, e3] at h1
  simpa [parseL] using h1
theorem par_end2 {r : PySem.Str} {i : Int} {d : PySem.Str} (h1 : ParInv r i d) (h0 : 5 ≤ i) (hi : i < (r.length : Int)) (hc : (PySem.Txt.item r i == PySem.Str.ofString "\"") = true) (hn : ¬ (r.length : Int) ≤ i + 1)
    (hd : (PySem.Txt.item r (i + 1) != PySem.Str.ofString "\"") = true) :
    d.cps.toList = parseL (r.cps.toList.drop 5) := by
  obtain ⟨c, e1, e2⟩ := item_drop (by omega) hi
  obtain ⟨c', e3, e4⟩ := item_drop (r := r) (i := i + 1) (by omega) (by omega)
  rw [e1] at hc
  have hc' := one_eq hc
  subst hc'
  rw [e3] at hd
  have hd' := one_ne (by simpa [bne] using hd)
  have e5 : (i + 1).toNat = i.toNat + 1 := by omega
  rw [e5] at e4
  unfold ParInv at h1
  rw [e2, e4] at h1
  simpa [parseL, hd'] using h1
theorem par_done {r : PySem.Str} {i : Int} {d : PySem.Str} (h1 : ParInv r i d) (h0 : 5 ≤ i) (hi : ¬ i < (r.length : Int)) :
    d.cps.toList = parseL (r.cps.toList.drop 5) := by
  have e3 : r.cps.toList.drop i.toNat = [] := List.drop_eq_nil_of_le (by
    have : r.cps.toList.length = r.length := Array.length_toList
    omega)
  unfold ParInv at h1
  rw [e3] at h1
  simpa [parseL] using h1
theorem app_list (x y : PySem.Str) : (x ++ y).cps.toList = x.cps.toList ++ y.cps.toList := by rw [PySem.Str.cps_append, Array.toList_append]
theorem par_two {r : PySem.Str} {i : Int} {d : PySem.Str} (h1 : ParInv r i d) (h0 : 5 ≤ i) (hl : d.length ≤ i.toNat) (hi : i < (r.length : Int)) (hc : (PySem.Txt.item r i == PySem.Str.ofString "\"") = true) (hn : ¬ (r.length : Int) ≤ i + 1)
    (hd : (PySem.Txt.item r (i + 1) != PySem.Str.ofString "\"") = false) :
    5 ≤ i + 1 + 1 ∧ i + 1 + 1 ≤ (r.length : Int) ∧ (d ++ PySem.Txt.item r i).length ≤ (i + 1 + 1).toNat ∧ ParInv r (i + 1 + 1) (d ++ PySem.Txt.item r i) := by
  obtain ⟨c, e1, e2⟩ := item_drop (by omega) hi
  obtain ⟨c', e3, e4⟩ := item_drop (r := r) (i := i + 1) (by omega) (by omega)
  rw [e1] at hc
  have hc' := one_eq hc
  subst hc'
  rw [e3] at hd
  have hd' := one_eq (by simpa [bne] using hd)
  subst hd'
  have e5 : (i + 1).toNat = i.toNat + 1 := by omega
  have e6 : (i + 1 + 1).toNat = i.toNat + 1 + 1 := by omega
  rw [e5] at e4
  unfold ParInv at h1 ⊢
  rw [e2, e4] at h1
  refine ⟨by omega, by omega, ?_, ?_⟩
  · rw [e1, PySem.Str.length_append, e6]
    show d.length + 1 ≤ _
    omega
  · rw [e1, e6, app_list, ← h1]
    simp [parseL]
theorem par_one {r : PySem.Str} {i : Int} {d : PySem.Str} (h1 : ParInv r i d) (h0 : 5 ≤ i) (hl : d.length ≤ i.toNat) (hi : i < (r.length : Int)) (hc : (PySem.Txt.item r i == PySem.Str.ofString "\"") = false) :
    5 ≤ i + 1 ∧ i + 1 ≤ (r.length : Int) ∧ (d ++ PySem.Txt.item r i).length ≤ (i + 1).toNat ∧ ParInv r (i + 1) (d ++ PySem.Txt.item r i) := by
  obtain ⟨c, e1, e2⟩ := item_drop (by omega) hi
  rw [e1] at hc
  have hc' := one_ne hc
  have e5 : (i + 1).toNat = i.toNat + 1 := by omega
  unfold ParInv at h1 ⊢
  rw [e2, parseL_other hc'] at h1
  refine ⟨by omega, by omega, ?_, ?_⟩
  · rw [e1, PySem.Str.length_append, e5]
    show d.length + 1 ≤ _
    omega
  · rw [e1, e5, app_list, ← h1]
    simp
theorem par_start {r : PySem.Str} (h5 : 5 ≤ r.length) : (5 : Int) ≤ 5 ∧ (5 : Int) ≤ (r.length : Int) ∧ (PySem.Str.ofString "").length ≤ (5 : Int).toNat ∧ ParInv r 5 (PySem.Str.ofString "") := by
  refine ⟨by omega, by omega, by decide, ?_⟩
  unfold ParInv
  rfl
theorem c_parse (w : World) {loose : List PySem.Str} {mean : ExcName → Option Value} {mg mb : PySem.Str → Option Value} {news : List (Addr × Obj)}
   (dp un : Nat) (gd : Option (List Code)) (cn : PySem.Str) (cs : Scope) (a : Addr) (ccd : Value) (cl : List (PySem.Str × Addr)) (outer : List Env) (A₀ : Around) (base h₀ : Heap) (L : Addr) (m : PySem.Str → Option Value) (s : Shared) (Q E : Value → Shared → Prop)
   (r : PySem.Str) (t : Tok)
   (B : Below A₀ base outer h₀) (F : Fr h₀ L s.heap m) (X : (hd.heap_39 w.params).In h₀) (N : News h₀ L s.heap news) (T : Top hd.view_39 loose mean mg mb h₀) (hk : cs.kind = .function)
   (hx : r.length ≤ 1000) (h5 : 5 ≤ r.length) (h3 : (PySem.Txt.slice r none (some 3) != PySem.Str.ofString "257") = false) (h4 : (PySem.Txt.slice r (some 3) (some 5) != PySem.Str.ofString " \"") = false)
   (hdp : dp + 1 < recursionLimit) (hu : un + 8 < cLine)
   (h : ∀ b t' h' tk', Fr h₀ L h' m → News h₀ L h' news → b.cps.toList = parseL (r.cps.toList.drop 5) → Q (.str b t') {s with heap := h', toks := tk'}) :
    wpAny (model Challenge.rw_pg0020_01.prog w) (ktrTop dp un gd cn cs L a ccd cl outer) (call (.ref 46) [.str r t]) Q E s := by
  revert X; k_fill; intro X
  refine wpAny_call ?_
  (k_with "exec While Compare cons nil" => k_while (fun _ i d => 5 ≤ i ∧ i ≤ (r.length : Int) ∧ d.length ≤ i.toNat ∧ ParInv r i d) (fun _ i d => r.length - i.toNat) "i" "dirname")
  (k_with "state" => first | exact par_start (by assumption) | exact par_two (by assumption) (by assumption) (by assumption) (by assumption) (by assumption) (by assumption) (by assumption) | exact par_one (by assumption) (by assumption) (by assumption) (by assumption) (by assumption))
  k_dflt cell_enter
  k_steps
  · exact h _ _ _ _ (by assumption) (by assumption) (par_end1 (by assumption) (by assumption) (by assumption) (by assumption) (by assumption))
  · exact h _ _ _ _ (by assumption) (by assumption) (par_end2 (by assumption) (by assumption) (by assumption) (by assumption) (by assumption) (by assumption))
  · exact h _ _ _ _ (by assumption) (by assumption) (par_done (by assumption) (by assumption) (by assumption))
end Mine
namespace Mine
set_option maxRecDepth 100000
set_option maxHeartbeats 8000000
def TEnd (h₀ : Heap) (L : Addr) (s : Shared) (news : List (Addr × Obj)) (Jn : (PySem.Str → Option Value) → Nat → Prop) (f : Flow) (s₂ : Shared) : Prop :=
  f = .next ∧ ∃ h' tk' m', s₂ = { s with heap := h', toks := tk' } ∧ Fr h₀ L h' m' ∧ News h₀ L h' news ∧ Jn m' tk'
theorem for_rangeT {prog : Program} {w : World} {A : Around} {s : Shared} {env : Env} {h₀ : Heap} {E : Value → Shared → Prop} {Q : Flow → Shared → Prop} {x : PySem.Str} {px : Pos} {body : List Stmt} {I : Addr} {n : Nat}
    {m : PySem.Str → Option Value} {news : List (Addr × Obj)} (J : Nat → (PySem.Str → Option Value) → Nat → Prop)
    (hx : env.kindOf x = some .local) (hp : (env.scope.kind == .class || (env.scope.kind == .module && env.locals != env.globals)) = false) (hh : A.handled = none)
    (N : News h₀ env.locals s.heap ((I, itR 0 (n : Int)) :: news)) (hIn : ∀ p ∈ news, p.1 ≠ I) (F : Fr h₀ env.locals s.heap m) (h0 : J 0 m s.toks)
    (step : ∀ (i : Nat) m₁ h tk, i < n → J i m₁ tk → Fr h₀ env.locals h (fun y => if y = x then some (.int (i : Int) tk) else m₁ y) →
      News h₀ env.locals h ((I, itR ((i : Int) + 1) ((n : Int) - (i : Int) - 1)) :: news) →
      wpAny (model prog w) A (execs body env) (TEnd h₀ env.locals s ((I, itR ((i : Int) + 1) ((n : Int) - (i : Int) - 1)) :: news) (J (i + 1))) E { s with heap := h, toks := tk + 1 + 1 })
    (hQ : ∀ h' tk m', Fr h₀ env.locals h' m' → News h₀ env.locals h' news → J n m' tk → Q .next { s with heap := h', toks := tk })
    (hE : PassesOwn (model prog w) A env E) :
    codeAny (model prog w) A (.forLoop (.Name x px) (.ref I) body [] env) (fun r s' => match r with | .ok f => Q f s' | .error e => cameBackBy (model prog w) A env E e s') s := by
  refine codeAny_forLoop
    (fun k s' => ∃ (h' : Heap) (tk : Nat) (m' : PySem.Str → Option Value) (i : Nat), s' = { s with heap := h', toks := tk } ∧ Fr h₀ env.locals h' m' ∧ News h₀ env.locals h' ((I, itR (i : Int) ((n : Int) - (i : Int))) :: news) ∧ J i m' tk ∧ i ≤ n ∧ k = n + 1 - i) ?_ (n + 1)
    ⟨s.heap, s.toks, m, 0, rfl, F, (by simpa using N), h0, Nat.zero_le _, rfl⟩
  rintro k s' ⟨h', tk, m', i, rfl, F', N', hJ, hi, rfl⟩
  have hI := N' _ (List.mem_cons_self ..)
  have hIL : I ≠ env.locals := hI.2.1
  have hI0 : h₀.get? I = none := hI.2.2
  have old : ∀ b o, h₀.get? b = some o → b ≠ I := fun b o e hb => by rw [hb, hI0] at e; cases e
  by_cases hlt : i < n
  · refine wpAny_pyNext_range_item (x := (i : Int)) (left := (n : Int) - (i : Int)) (step := 1) hI.1 (by omega) fun h₁ hit₁ hs₁ => ?_
    have hk₁ : ∀ b o, b ≠ I → h'.get? b = some o → h₁.get? b = some o := fun b o hb e => hs₁.extBut b o hb e
    have F₁ : Fr h₀ env.locals h₁ m' := ⟨F'.ns.at' fun o e => hk₁ _ o (Ne.symm hIL) e, fun b o e => hk₁ b o (old b o e) (F'.keep b o e), F'.above⟩
    have N₁ : News h₀ env.locals h₁ ((I, itR ((i : Int) + 1) ((n : Int) - (i : Int) - 1)) :: news) := fun p hp => by
      rcases List.mem_cons.mp hp with rfl | hp
      · exact ⟨hit₁, hIL, hI0⟩
      · have q := N' p (List.mem_cons_of_mem _ hp)
        exact ⟨hk₁ _ _ (hIn p hp) q.1, q.2⟩
    refine wpAny_assign_Name (wpAny_storeName_local hx F₁.ns (fun h₂ hn₂ hs₂ => ?_) hp)
    have F₂ := F₁.set hn₂ hs₂
    have N₂ := N₁.set hs₂
    refine wpAny_passesOwn hE (wpAny_mono (step i m' h₂ tk hlt hJ F₂ N₂) (fun f s₃ h₃ => ?_) fun _ _ e => e)
    obtain ⟨rfl, h₃', tk₃, m₃, rfl, F₃, N₃, J₃⟩ := h₃
    refine ⟨n + 1 - (i + 1), by omega, h₃', tk₃, m₃, i + 1, rfl, F₃, ?_, J₃, hlt, rfl⟩
    have e : (n : Int) - ((i + 1 : Nat) : Int) = (n : Int) - (i : Int) - 1 := by omega
    rw [e]
    exact N₃
  · have hin : i = n := by omega
    subst hin
    refine wpAny_pyNext_range_end (x := (i : Int)) (left := (i : Int) - (i : Int)) (step := 1) hh hI.1 (by omega) fun h₁ he₁ => wpAny_execs_nil ?_
    have hk₁ : ∀ b o, b ≠ I → h'.get? b = some o → h₁.get? b = some o := fun b o hb e => he₁ b o hb e
    have F₁ : Fr h₀ env.locals h₁ m' := ⟨F'.ns.at' fun o e => hk₁ _ o (Ne.symm hIL) e, fun b o e => hk₁ b o (old b o e) (F'.keep b o e), F'.above⟩
    exact hQ h₁ tk m' F₁ (fun p hp => by
      have q := N' p (List.mem_cons_of_mem _ hp)
      exact ⟨hk₁ _ _ (hIn p hp) q.1, q.2⟩) hJ
theorem add_tok {prog : Program} {w : World} {A : Around} {E : Value → Shared → Prop} {s : Shared} {x y : PySem.Str} {t u : Nat} {Q : Value → Shared → Prop} (hs : x.length + y.length ≤ 16777216)
    (h : ∀ (t' k : Nat), s.toks ≤ k → (t' = t ∨ t' = u ∨ (t' = s.toks ∧ k = s.toks + 1)) → Q (.str (x ++ y) t') { s with toks := k }) : wpAny (model prog w) A (binaryOp .Add (.str x t) (.str y u)) Q E s := by
  refine concat_gives (typeIs_str s x t) (typeIs_str s y u) PySem.noFill_str_add PySem.seq_str_add F.slot_str_add F.entry_str_add (F.args_str_add_2 _ _) (gives_str_add x y t u) ?_
  cases hb : (x.length == 0) with
  | true =>
    rw [if_pos rfl]
    have h' := h u s.toks (Nat.le_refl _) (.inr (.inl rfl))
    rw [PySem.Str.append_left_empty hb] at h'
    exact h'
  | false =>
    rw [if_neg Bool.false_ne_true]
    cases hc : (y.length == 0) with
    | true =>
      rw [if_pos rfl]
      have h' := h t s.toks (Nat.le_refl _) (.inl rfl)
      rw [PySem.Str.append_right_empty hc] at h'
      exact h'
    | false =>
      rw [if_neg Bool.false_ne_true]
      exact ⟨by rw [PySem.Str.length_append, sizeLine_eq]; omega, h s.toks (s.toks + 1) (Nat.le_succ _) (.inr (.inr ⟨rfl, rfl⟩))⟩
theorem gen_toks {α : Type} {M : Model} {A : Around} {t : Sem α} {Q : α → Shared → Prop} {E : Value → Shared → Prop} {h : Heap} {g : Array GenState} {d : Drawn} {k : Nat} {o : OsState}
    (H : ∀ tk, k = tk → wpAny M A t Q E ⟨h, g, d, tk, o⟩) : wpAny M A t Q E ⟨h, g, d, k, o⟩ := H k rfl
def OkWord (b : PySem.Str) : Prop := ∀ c ∈ b.cps.toList, c = 97 ∨ c = 98 ∨ c = 34
def WordJ (lo : Nat) (i : Nat) (m : PySem.Str → Option Value) (tk : Nat) : Prop :=
  ∃ (b : PySem.Str) (tb : Nat) (r : Int) (tr : Nat), m (PySem.Str.ofString "signs") = some (.str b tb) ∧ m (PySem.Str.ofString "rest") = some (.int r tr) ∧ b.length = i ∧ OkWord b ∧ lo ≤ tb ∧ tb < tk
theorem size_is (n : Nat) : Builtin.Range.rangeSize 0 (n : Int) 1 = (n : Int) := by
  unfold Builtin.Range.rangeSize
  simp
  omega
theorem small_is (n : Nat) (h : n ≤ 3) : Builtin.Range.small 0 (n : Int) 1 = true := by
  have : n = 0 ∨ n = 1 ∨ n = 2 ∨ n = 3 := by omega
  rcases this with rfl | rfl | rfl | rfl <;> decide +kernel
theorem word_fr {h₀ : Heap} {L : Addr} {h : Heap} {m : PySem.Str → Option Value} {p : Option Value} {b : PySem.Str} {tb : Tok} {r : Int} {tr : Tok} (F : Fr h₀ L h (fun y => if y = PySem.Str.ofString "place" then p else m y))
    (h1 : m (PySem.Str.ofString "signs") = some (.str b tb)) (h2 : m (PySem.Str.ofString "rest") = some (.int r tr)) :
    Fr h₀ L h (fun y => if y = PySem.Str.ofString "place" then p else if y = PySem.Str.ofString "signs" then some (.str b tb) else if y = PySem.Str.ofString "rest" then some (.int r tr) else m y) := by
  have e : m = fun y => if y = PySem.Str.ofString "signs" then some (.str b tb) else if y = PySem.Str.ofString "rest" then some (.int r tr) else m y := by
    funext y
    by_cases hy : y = PySem.Str.ofString "signs"
    · rw [if_pos hy, hy, h1]
    · rw [if_neg hy]
      by_cases hy2 : y = PySem.Str.ofString "rest"
      · rw [if_pos hy2, hy2, h2]
      · rw [if_neg hy2]
  have e2 : (fun y => if y = PySem.Str.ofString "place" then p else m y) = (fun y => if y = PySem.Str.ofString "place" then p else if y = PySem.Str.ofString "signs" then some (.str b tb) else if y = PySem.Str.ofString "rest" then some (.int r tr) else m y) := by
    funext y
    by_cases hp : y = PySem.Str.ofString "place"
    · rw [if_pos hp, if_pos hp]
    · rw [if_neg hp, if_neg hp]; exact congrFun e y
  rw [← e2]
  exact F
theorem word_fr0 {h₀ : Heap} {L : Addr} {h : Heap} {m : PySem.Str → Option Value} {b : PySem.Str} {tb : Tok} (F : Fr h₀ L h m)
    (h1 : m (PySem.Str.ofString "signs") = some (.str b tb)) :
    Fr h₀ L h (fun y => if y = PySem.Str.ofString "signs" then some (.str b tb) else m y) := by
  have e : m = fun y => if y = PySem.Str.ofString "signs" then some (.str b tb) else m y := by
    funext y
    by_cases hy : y = PySem.Str.ofString "signs"
    · rw [if_pos hy, hy, h1]
    · rw [if_neg hy]
  rw [← e]
  exact F
theorem item_ok (r : Int) : OkWord (PySem.Txt.item (PySem.Str.ofString "ab\"") (r.fmod 3)) := by
  have h1 := Int.fmod_nonneg_of_pos r (b := 3) (by decide)
  have h2 := Int.fmod_lt_of_pos r (b := 3) (by decide)
  have : r.fmod 3 = 0 ∨ r.fmod 3 = 1 ∨ r.fmod 3 = 2 := by omega
  rcases this with e | e | e <;> rw [e] <;> unfold OkWord <;> decide +kernel
theorem ok_app {a b : PySem.Str} (ha : OkWord a) (hb : OkWord b) : OkWord (a ++ b) := by
  intro c hc
  rw [PySem.Str.cps_append, Array.toList_append, List.mem_append] at hc
  exact hc.elim (ha c) (hb c)
local macro_rules | `(tactic| walk_at "exec For Name Call cons nil") => `(tactic| (k_here; k_dflt (refine' wpAny_For (up ?_) ?hs; (case hs => intro _; exact rfl))))
local macro_rules | `(tactic| walk_at "execs cons") => `(tactic| (k_here; (with_reducible show wpAny _ _ (execs _ _) _ _ (Shared.mk _ _ _ (_ + _) _)); (refine gen_toks ?_); intro tk htk))
local macro_rules | `(tactic| walk_at "execs nil") => `(tactic| (k_here; (with_reducible show wpAny _ _ (execs _ _) _ _ (Shared.mk _ _ _ (_ + _) _)); (refine gen_toks ?_); intro tk htk))
local macro_rules | `(tactic| walk_at "binaryOp Add str str") => `(tactic| (k_here; (with_reducible show wpAny _ _ (binaryOp Operator.Add (Value.str _ _) (Value.str _ _)) _ _ _); (refine' add_tok ?kxac ?_; (case kxac => (simp only [len_item]; omega))); intro t9 k9 hk9 ht9))
theorem c_word (w : World) {loose : List PySem.Str} {mean : ExcName → Option Value} {mg mb : PySem.Str → Option Value} {news : List (Addr × Obj)}
   (dp un : Nat) (gd : Option (List Code)) (cn : PySem.Str) (cs : Scope) (a : Addr) (ccd : Value) (cl : List (PySem.Str × Addr)) (outer : List Env) (A₀ : Around) (base h₀ : Heap) (L : Addr) (m : PySem.Str → Option Value) (s : Shared) (Q E : Value → Shared → Prop)
   (x : Int) (n : Nat) (t u : Tok)
   (B : Below A₀ base outer h₀) (F : Fr h₀ L s.heap m) (X : (hd.heap_39 w.params).In h₀) (N : News h₀ L s.heap news) (T : Top hd.view_39 loose mean mg mb h₀) (hk : cs.kind = .function)
   (h3 : n ≤ 3)
   (hdp : dp + 1 < recursionLimit) (hu : un + 8 < cLine)
   (h : ∀ (b : PySem.Str) (t' : Nat) h' (tk' : Nat), Fr h₀ L h' m → News h₀ L h' news → b.length = n → OkWord b → s.toks ≤ t' → t' < tk' → Q (.str b t') {s with heap := h', toks := tk'}) :
    wpAny (model Challenge.rw_pg0020_01.prog w) (ktrTop dp un gd cn cs L a ccd cl outer) (call (.ref 60) [.int x t, .int (n : Int) u]) Q E s := by
  revert X; k_fill; intro X
  refine wpAny_call ?_
  k_dflt cell_enter
  k_steps
  rename IsRange _ _ _ _ _ _ _ _ => hR
  rename (_ ≤ Shared.toks _) => hle
  rename Fr _ _ _ _ => F'
  rename News _ _ _ _ => N'
  refine wpAny_pyIter_range hR (small_is n h3) ?_
  rw [size_is]
  refine' for_rangeT (n := n) (J := WordJ s.toks) ?hx ?hp ?hh (News.push F' N' _ rfl) ?hIn (F'.push _) ?h0 ?step ?hQ ?hE
  case hx => exact rfl
  case hp => exact rfl
  case hh => exact rfl
  case hIn => exact fun p hp => Nat.ne_of_lt (Heap.lt_size (N' p hp).1)
  case hE => first | passes_own | with_unfolding_all passes_own
  case h0 =>
    refine ⟨_, _, _, _, rfl, rfl, rfl, ?_, ?_, ?_⟩
    · intro c hc; exact nomatch hc
    · (try dsimp only at *); omega
    · (try dsimp only at *); omega
  case step =>
    rintro i m₁ h₁ tk₁ hi ⟨b, tb, r, tr, e1, e2, hl, ok, lo, up⟩ F₁ N₁
    have F₂ := word_fr F₁ e1 e2
    clear F₁ F' N'
    k_steps
    refine ⟨rfl, _, _, _, rfl, by assumption, by assumption, ?_⟩
    refine ⟨_, _, _, _, rfl, rfl, ?_, ok_app ok (item_ok r), ?_, ?_⟩
    · rw [PySem.Str.length_append, len_item, hl]
    · (dsimp only at *); omega
    · (dsimp only at *); omega
  case hQ =>
    rintro h₁ tk₁ m₁ F₁ N₁ ⟨b, tb, r, tr, e1, e2, hl, ok, lo, up⟩
    have F₂ := word_fr0 F₁ e1
    clear F₁ F' N'
    (try dsimp only)
    k_steps
    exact h _ _ _ _ (by assumption) (by assumption) hl ok lo up
end Mine
namespace Mine
set_option maxRecDepth 100000
set_option maxHeartbeats 8000000
def parseS (y : PySem.Str) : PySem.Str := ⟨(parseL y.cps.toList).toArray⟩
theorem parseL_len : ∀ l : List Nat, (parseL l).length ≤ l.length
  | [] => by simp [parseL]
  | [c] => by unfold parseL; split <;> simp
  | c :: d :: r => by
    have h1 := parseL_len r
    have h2 := parseL_len (d :: r)
    unfold parseL
    split
    · split
      · simp; omega
      · simp
    · simp only [List.length_cons] at h2 ⊢; omega
theorem parseS_len (y : PySem.Str) : (parseS y).length ≤ y.length := by
  have h := parseL_len y.cps.toList
  have e : (parseS y).length = (parseL y.cps.toList).length := by unfold parseS PySem.Str.length; simp
  rw [e]
  simpa [PySem.Str.length] using h
theorem str_ext {a b : PySem.Str} (h : a.cps.toList = b.cps.toList) : a = b := PySem.Str.ext' (Array.toList_inj.mp h)
theorem pre_is : (PySem.Str.ofString "257 \"").cps.toList = [50, 53, 55, 32, 34] := by decide +kernel
theorem pre_list (y : PySem.Str) : (PySem.Str.ofString "257 \"" ++ y).cps.toList = [50, 53, 55, 32, 34] ++ y.cps.toList := by rw [app_list, pre_is]
theorem pre_len (y : PySem.Str) : (PySem.Str.ofString "257 \"" ++ y).length = 5 + y.length := by rw [PySem.Str.length_append]; rfl
theorem pre_3 (y : PySem.Str) : (PySem.Txt.slice (PySem.Str.ofString "257 \"" ++ y) none (some 3) != PySem.Str.ofString "257") = false := by
  have h : (0 : Int) ≤ 3 ∧ (3 : Int) ≤ (PySem.Str.ofString "257 \"" ++ y).cps.toList.length := by rw [pre_list]; simp; omega
  have e := eq_of_beq (slice_closes_to (x := PySem.Str.ofString "257 \"" ++ y) (j := 3) h)
  rw [e, pre_list]
  have e2 : (⟨((([50, 53, 55, 32, 34] ++ y.cps.toList).drop (0 : Int).toNat).take ((3 : Int) - 0).toNat).toArray⟩ : PySem.Str) = PySem.Str.ofString "257" := by
    rw [show PySem.Str.ofString "257" = ⟨#[50, 53, 55]⟩ from by decide +kernel]
    rfl
  rw [e2]
  simp [bne]
theorem pre_5 (y : PySem.Str) : (PySem.Txt.slice (PySem.Str.ofString "257 \"" ++ y) (some 3) (some 5) != PySem.Str.ofString " \"") = false := by
  have h : (0 : Int) ≤ 3 ∧ (3 : Int) ≤ 5 ∧ (5 : Int) ≤ (PySem.Str.ofString "257 \"" ++ y).cps.toList.length := by rw [pre_list]; simp; omega
  have e := eq_of_beq (slice_closes (x := PySem.Str.ofString "257 \"" ++ y) (i := 3) (j := 5) h)
  rw [e, pre_list]
  have e2 : (⟨((([50, 53, 55, 32, 34] ++ y.cps.toList).drop (3 : Int).toNat).take ((5 : Int) - 3).toNat).toArray⟩ : PySem.Str) = PySem.Str.ofString " \"" := by
    rw [show PySem.Str.ofString " \"" = ⟨#[32, 34]⟩ from by decide +kernel]
    rfl
  rw [e2]
  simp [bne]
theorem kind_le {x y : PySem.Str} (h : ∀ c ∈ y.cps.toList, c ∈ x.cps.toList) : Builtin.Str.strKind y ≤ Builtin.Str.strKind x := by
  have hall : ∀ B : Nat, x.cps.all (· < B) = true → y.cps.all (· < B) = true := fun B hB => by
    rw [← Array.all_toList] at hB ⊢
    rw [List.all_eq_true] at hB ⊢
    exact fun c hc => hB c (h c hc)
  unfold Builtin.Str.strKind
  by_cases a1 : x.cps.all (· < 256) = true
  · rw [if_pos a1, if_pos (hall 256 a1)]; exact Nat.le_refl _
  · rw [if_neg a1]
    by_cases a2 : x.cps.all (· < 65536) = true
    · rw [if_pos a2]
      split
      · omega
      · rw [if_pos (hall 65536 a2)]; exact Nat.le_refl _
    · rw [if_neg a2]
      split
      · omega
      · split <;> omega
theorem split_rep (x y z : PySem.Str) (hy : (y.length == 0) = false) : PySem.Txt.join z (PySem.Txt.split x y) = PySem.Txt.replace x y z := by
  unfold PySem.Txt.replace
  rw [hy, Bool.false_and, Bool.or_false]
  unfold PySem.Txt.join
  cases he : (Builtin.Str.occurrences x y 0 x.length (x.length + 1)).isEmpty
  · rw [if_neg Bool.false_ne_true]
    by_cases hc : (decide (x.length < y.length) || decide (Builtin.Str.strKind x < Builtin.Str.strKind y)) = true
    · exfalso
      obtain ⟨f, h⟩ := StrLaws.occ_chain x y (x.length + 1)
      cases ho : Builtin.Str.occurrences x y 0 x.length (x.length + 1) with
      | nil => rw [ho] at he; exact absurd he (by simp)
      | cons i r =>
        rw [ho] at h
        have hA := h.2.1
        have hsub := hA.2
        rw [StrLaws.subAt_eq] at hsub
        have hl : y.length ≤ x.length := by have := hA.1; omega
        have hk : Builtin.Str.strKind y ≤ Builtin.Str.strKind x := kind_le fun c hc => by
          rw [← eq_of_beq hsub] at hc
          exact List.mem_of_mem_drop (List.mem_of_mem_take hc)
        rw [Bool.or_eq_true, decide_eq_true_eq, decide_eq_true_eq] at hc
        omega
    · unfold PySem.Txt.split
      rw [if_neg hc, he, if_neg Bool.false_ne_true]
  · rw [if_pos rfl]
    unfold PySem.Txt.split
    rw [he]
    split <;> rfl
theorem rep_len (x y z : PySem.Str) (hy : (y.length == 0) = false) (hz : z.length ≤ 4) : (PySem.Txt.replace x y z).length ≤ 5 * x.length + 5 := by
  have hy1 : 1 ≤ y.length := by
    have : y.length ≠ 0 := by simpa using hy
    omega
  rw [← split_rep x y z hy]
  have h1 := split_weight x y hy1
  have h2 := StrLaws.join_length_le z (PySem.Txt.split x y)
  have h3 : (PySem.Txt.split x y).length * z.length ≤ (PySem.Txt.split x y).length * 4 := Nat.mul_le_mul_left _ hz
  have e : (PySem.Txt.join z (PySem.Txt.split x y)).length = (PySem.Str.join z (PySem.Txt.split x y)).length := by
    unfold PySem.Txt.join; rw [StrLaws.glued_eq_join]
  rw [e]
  omega
def dblL : List Nat → List Nat
  | [] => []
  | c :: r => if c = 34 then 34 :: 34 :: dblL r else c :: dblL r
theorem join_cons (a : PySem.Str) (l : List PySem.Str) : (PySem.Str.join (PySem.Str.ofString "") (a :: l)).cps.toList = a.cps.toList ++ (PySem.Str.join (PySem.Str.ofString "") l).cps.toList := by
  cases l with
  | nil => show a.cps.toList = _ ++ []; simp
  | cons b r =>
    show (a ++ PySem.Str.ofString "" ++ PySem.Str.join (PySem.Str.ofString "") (b :: r)).cps.toList = _
    rw [app_list, app_list]
    have : (PySem.Str.ofString "").cps.toList = [] := rfl
    rw [this, List.append_nil]
theorem dbl_join : ∀ l : List Nat, (PySem.Str.join (PySem.Str.ofString "") ((l.map fun n => (⟨#[n]⟩ : PySem.Str)).map dblG)).cps.toList = dblL l
  | [] => rfl
  | c :: r => by
    rw [List.map_cons, List.map_cons, join_cons, dbl_join r]
    rw [show dblL (c :: r) = if c = 34 then 34 :: 34 :: dblL r else c :: dblL r from rfl]
    unfold dblG
    by_cases h : c = 34
    · subst h
      rw [if_pos (by rw [dq_is]; exact beq_self_eq_true _), if_pos rfl, app_list]
      rfl
    · rw [if_neg (by intro hh; exact h (one_eq hh)), if_neg h]
      rfl
theorem dblS_list (x : PySem.Str) : (dblS x).cps.toList = dblL x.cps.toList := by
  unfold dblS PySem.Txt.join
  rw [StrLaws.glued_eq_join]
  exact dbl_join x.cps.toList
theorem dblL_len : ∀ l : List Nat, (dblL l).length ≤ 2 * l.length
  | [] => by simp [dblL]
  | c :: r => by
    have := dblL_len r
    unfold dblL
    split <;> simp <;> omega
theorem str_len (x : PySem.Str) : x.length = x.cps.toList.length := Array.length_toList.symm
theorem dblS_len (x : PySem.Str) : (dblS x).length ≤ 2 * x.length := by
  rw [str_len, dblS_list, str_len]
  exact dblL_len _
theorem none_booked {P : Params} {h : Heap} (X : (hd.heap_39 P).In h) : NoneBooked h := by
  refine ⟨_, ⟨_, _, _, X 2 _ rfl, rfl, ?_, fun _ => rfl⟩, ?_⟩
  · intro e he
    simp only [List.mem_toArray, List.mem_cons, List.not_mem_nil, or_false] at he
    rcases he with rfl | rfl
    · exact ⟨_, _, rfl⟩
    · exact ⟨_, _, rfl⟩
  · rfl
section
variable {w : World} {loose : List PySem.Str} {mean : ExcName → Option Value} {mg mb : PySem.Str → Option Value} {news : List (Addr × Obj)}
   {dp un : Nat} {gd : Option (List Code)} {cn : PySem.Str} {cs : Scope} {a : Addr} {ccd : Value} {cl : List (PySem.Str × Addr)} {outer : List Env} {A₀ : Around} {base h₀ : Heap} {L : Addr} {m : PySem.Str → Option Value} {s : Shared} {Q E : Value → Shared → Prop}
theorem k_parse {y : PySem.Str} {t : Tok}
   (B : Below A₀ base outer h₀) (F : Fr h₀ L s.heap m) (X : (hd.heap_39 w.params).In h₀) (N : News h₀ L s.heap news) (T : Top hd.view_39 loose mean mg mb h₀) (hk : cs.kind = .function)
   (hy : y.length ≤ 900) (hdp : dp + 1 < recursionLimit) (hu : un + 8 < cLine)
   (h : ∀ t' h' tk', Fr h₀ L h' m → News h₀ L h' news → (parseS y).length ≤ y.length → Q (.str (parseS y) t') {s with heap := h', toks := tk'}) :
    wpAny (model Challenge.rw_pg0020_01.prog w) (ktrTop dp un gd cn cs L a ccd cl outer) (call (.ref 46) [.str (PySem.Str.ofString "257 \"" ++ y) t]) Q E s := by
  refine c_parse w dp un gd cn cs a ccd cl outer A₀ base h₀ L m s Q E _ t B F X N T hk (by rw [pre_len]; omega) (by rw [pre_len]; omega) (pre_3 y) (pre_5 y) hdp hu ?_
  intro b t' h' tk' F' N' e
  have eb : b = parseS y := str_ext (by rw [e, pre_list]; unfold parseS; simp)
  rw [eb]
  exact h t' h' tk' F' N' (parseS_len y)
theorem k_replace {x y z : PySem.Str} {t u v : Tok}
   (B : Below A₀ base outer h₀) (F : Fr h₀ L s.heap m) (X : (hd.heap_39 w.params).In h₀) (N : News h₀ L s.heap news) (T : Top hd.view_39 loose mean mg mb h₀) (hk : cs.kind = .function)
   (hx : x.length ≤ 100) (hy : y.length ≤ 4) (hz : z.length ≤ 4) (hy0 : (y == PySem.Str.ofString "") = false) (hdp : dp + 1 < recursionLimit) (hu : un + 8 < cLine)
   (h : ∀ t' h' tk', Fr h₀ L h' m → News h₀ L h' news → (PySem.Txt.replace x y z).length ≤ 5 * x.length + 5 → Q (.str (PySem.Txt.replace x y z) t') {s with heap := h', toks := tk'}) :
    wpAny (model Challenge.rw_pg0020_01.prog w) (ktrTop dp un gd cn cs L a ccd cl outer) (call (.ref 53) [.str x t, .str y u, .str z v]) Q E s := by
  have hy1 : (y.length == 0) = false := by
    rw [beq_eq_false_iff_ne] at hy0 ⊢
    intro e
    exact hy0 (str_ext (by rw [str_len] at e; rw [List.length_eq_zero_iff.mp e]; rfl))
  refine c_replace w dp un gd cn cs a ccd cl outer A₀ base h₀ L m s Q E x y z t u v B F X N T hk (by omega) (by omega) (by omega) hy1 hdp hu ?_
  intro t' h' tk' F' N'
  rw [split_rep x y z hy1]
  exact h t' h' tk' F' N' (rep_len x y z hy1 hz)
theorem k_doubled {x : PySem.Str} {t : Tok}
   (B : Below A₀ base outer h₀) (F : Fr h₀ L s.heap m) (X : (hd.heap_39 w.params).In h₀) (N : News h₀ L s.heap news) (T : Top hd.view_39 loose mean mg mb h₀) (hk : cs.kind = .function)
   (hx : x.length ≤ 1000) (hdp : dp + 1 < recursionLimit) (hu : un + 8 < cLine)
   (h : ∀ t' h' tk', Fr h₀ L h' m → News h₀ L h' news → (dblS x).length ≤ 2 * x.length → Q (.str (dblS x) t') {s with heap := h', toks := tk'}) :
    wpAny (model Challenge.rw_pg0020_01.prog w) (ktrTop dp un gd cn cs L a ccd cl outer) (call (.ref 65) [.str x t]) Q E s :=
  c_doubled w dp un gd cn cs a ccd cl outer A₀ base h₀ L m s Q E x t B F X N T hk hx hdp hu (fun t' h' tk' F' N' => h t' h' tk' F' N' (dblS_len x))
theorem k_spared {x y : PySem.Str} {t u : Tok}
   (B : Below A₀ base outer h₀) (F : Fr h₀ L s.heap m) (X : (hd.heap_39 w.params).In h₀) (N : News h₀ L s.heap news) (T : Top hd.view_39 loose mean mg mb h₀) (hk : cs.kind = .function)
   (hx : x.length ≤ 4) (hy : y.length ≤ 4) (hdp : dp + 1 < recursionLimit) (hu : un + 8 < cLine)
   (h : ∀ h' tk', Fr h₀ L h' m → News h₀ L h' news → Q (.bool (sparedS x y)) {s with heap := h', toks := tk'}) :
    wpAny (model Challenge.rw_pg0020_01.prog w) (ktrTop dp un gd cn cs L a ccd cl outer) (call (.ref 72) [.str x t, .str y u]) Q E s :=
  c_spared w dp un gd cn cs a ccd cl outer A₀ base h₀ L m s Q E x y t u B F X N T hk (by omega) (by omega) hdp hu h
theorem k_word1 {x k : Int} {t u : Tok}
   (B : Below A₀ base outer h₀) (F : Fr h₀ L s.heap m) (X : (hd.heap_39 w.params).In h₀) (N : News h₀ L s.heap news) (T : Top hd.view_39 loose mean mg mb h₀) (hk : cs.kind = .function)
   (hdp : dp + 1 < recursionLimit) (hu : un + 8 < cLine)
   (h : ∀ (b : PySem.Str) (t' : Nat) h' (tk' : Nat), Fr h₀ L h' m → News h₀ L h' news → b.length ≤ 3 → (b == PySem.Str.ofString "") = false → OkWord b → s.toks ≤ t' → t' < tk' → Q (.str b t') {s with heap := h', toks := tk'}) :
    wpAny (model Challenge.rw_pg0020_01.prog w) (ktrTop dp un gd cn cs L a ccd cl outer) (call (.ref 60) [.int x t, .int (1 + Int.fmod k 3) u]) Q E s := by
  have h1 := Int.fmod_nonneg_of_pos k (b := 3) (by decide)
  have h2 := Int.fmod_lt_of_pos k (b := 3) (by decide)
  have e : (1 + Int.fmod k 3) = (((1 + Int.fmod k 3).toNat : Nat) : Int) := by omega
  rw [e]
  refine c_word w dp un gd cn cs a ccd cl outer A₀ base h₀ L m s Q E x _ t u B F X N T hk (by omega) hdp hu ?_
  intro b t' h' tk' F' N' hl ok lo up
  refine h b t' h' tk' F' N' (by omega) ?_ ok lo up
  rw [beq_eq_false_iff_ne]
  intro hb
  rw [hb] at hl
  have : (PySem.Str.ofString "").length = 0 := by decide
  omega
theorem k_word0 {x k : Int} {t u : Tok}
   (B : Below A₀ base outer h₀) (F : Fr h₀ L s.heap m) (X : (hd.heap_39 w.params).In h₀) (N : News h₀ L s.heap news) (T : Top hd.view_39 loose mean mg mb h₀) (hk : cs.kind = .function)
   (hdp : dp + 1 < recursionLimit) (hu : un + 8 < cLine)
   (h : ∀ (b : PySem.Str) (t' : Nat) h' (tk' : Nat), Fr h₀ L h' m → News h₀ L h' news → b.length ≤ 3 → OkWord b → s.toks ≤ t' → t' < tk' → Q (.str b t') {s with heap := h', toks := tk'}) :
    wpAny (model Challenge.rw_pg0020_01.prog w) (ktrTop dp un gd cn cs L a ccd cl outer) (call (.ref 60) [.int x t, .int (Int.fmod k 4) u]) Q E s := by
  have h1 := Int.fmod_nonneg_of_pos k (b := 4) (by decide)
  have h2 := Int.fmod_lt_of_pos k (b := 4) (by decide)
  have e : (Int.fmod k 4) = (((Int.fmod k 4).toNat : Nat) : Int) := by omega
  rw [e]
  refine c_word w dp un gd cn cs a ccd cl outer A₀ base h₀ L m s Q E x _ t u B F X N T hk (by omega) hdp hu ?_
  intro b t' h' tk' F' N' hl ok lo up
  exact h b t' h' tk' F' N' (by omega) ok lo up
end
end Mine
namespace Mine
set_option maxRecDepth 100000
set_option maxHeartbeats 8000000
theorem nums_len (w : List Int) : (List.take 2 w ++ List.drop ((w.length : Int)).toNat [0, 5]).length = 2 := by
  rcases w with _ | ⟨a, _ | ⟨b, r⟩⟩
  · rfl
  · rfl
  · have e : (((a :: b :: r).length : Int)).toNat = r.length + 2 := by simp only [List.length_cons]; omega
    rw [e]
    simp
theorem num_item {prog : Program} {w : World} {A : Around} {E : Value → Shared → Prop} {s : Shared} {value slice : PySem.Expr} {l : Addr} {vs : List Value} {ns : List Int} {k : Int} {u : Tok} {Q : Value → Shared → Prop}
    (hl : s.heap.IsList l vs.toArray) (hi : IntsAre vs ns) (h0 : 0 ≤ k) (hk : k.toNat < 2) (hn : ns.length = 2) (h : ∀ (n : Int) (t : Tok), Q (.int n t) s)
    (hs : subscripted slice false (.ref l) (.int k u) = operate [.ref l, .int k u] (getItem (.ref l) (.int k u))) :
    wpAny (model prog w) A (subscriptTail value slice (.ref l) (.int k u)) Q E s := by
  have hlen : vs.length = 2 := by rw [hi.length, hn]
  have hlt : k.toNat < vs.length := by omega
  have hv : vs[k.toNat]? = some vs[k.toNat] := List.getElem?_eq_getElem hlt
  obtain ⟨n, t, e, _⟩ := IntsAre.at hi k.toNat _ hv
  rw [e] at hv
  exact tail_any hl.typeIs slot_list_getitem.lookup (wpAny_getItem_list hl h0 (by omega) (by simpa using hv) (h n t)) hs
def Q3 (r : PySem.Str) : Prop := ∃ y : PySem.Str, OkWord y ∧ y.length ≤ 3 ∧ r.cps.toList = 34 :: y.cps.toList
def TokLo (t k : Nat) : Prop := 0 < t ∧ t < k
def TokOk (u v : Nat) : Prop := u ≠ 0 ∧ v ≠ 0 ∧ u ≠ v
theorem tok_ok {t k v : Nat} (h : TokLo t k) (hk : k ≤ v) : TokOk t v ∧ TokOk v t := by
  unfold TokLo at h
  unfold TokOk
  omega
theorem add_q0 {prog : Program} {w : World} {A : Around} {E : Value → Shared → Prop} {s : Shared} {y : PySem.Str} {t u : Nat} {Q : Value → Shared → Prop} (hs : y.length ≤ 3) (hok : OkWord y)
    (h : ∀ (r : PySem.Str) (t' k : Nat), Q3 r → r.length ≤ 4 → (r == PySem.Str.ofString "") = false → (t' = t ∧ k = s.toks ∧ y.length = 0 ∨ t' = s.toks ∧ k = s.toks + 1) → Q (.str r t') { s with toks := k }) : wpAny (model prog w) A (binaryOp .Add (.str (PySem.Str.ofString "\"") t) (.str y u)) Q E s := by
  have hl : (PySem.Str.ofString "\"" ++ y).length = 1 + y.length := by rw [PySem.Str.length_append]; rfl
  have hokr : Q3 (PySem.Str.ofString "\"" ++ y) := ⟨y, hok, hs, by rw [app_list, dq_is]; rfl⟩
  have hne : ((PySem.Str.ofString "\"" ++ y) == PySem.Str.ofString "") = false := by
    rw [beq_eq_false_iff_ne]
    intro e
    rw [e] at hl
    have : (PySem.Str.ofString "").length = 0 := by decide
    omega
  have h' := fun t' k => h _ t' k hokr (by omega) hne
  refine concat_gives (typeIs_str s _ t) (typeIs_str s y u) PySem.noFill_str_add PySem.seq_str_add F.slot_str_add F.entry_str_add (F.args_str_add_2 _ _) (gives_str_add _ y t u) ?_
  have hb : ((PySem.Str.ofString "\"").length == 0) = false := by decide
  rw [hb, if_neg Bool.false_ne_true]
  cases hc : (y.length == 0) with
  | true =>
    rw [if_pos rfl]
    have h'' := h' t s.toks (.inl ⟨rfl, rfl, by simpa using hc⟩)
    rw [PySem.Str.append_right_empty hc] at h''
    exact h''
  | false =>
    rw [if_neg Bool.false_ne_true]
    exact ⟨by rw [PySem.Str.length_append, sizeLine_eq]; have : (PySem.Str.ofString "\"").length = 1 := rfl; omega, h' s.toks (s.toks + 1) (.inr ⟨rfl, rfl⟩)⟩
theorem len_nz {y : PySem.Str} (h : (y == PySem.Str.ofString "") = false) : y.length ≠ 0 := by
  intro e
  rw [beq_eq_false_iff_ne] at h
  refine h (str_ext ?_)
  rw [str_len] at e
  rw [List.length_eq_zero_iff.mp e]; rfl
theorem add_q1 {prog : Program} {w : World} {A : Around} {E : Value → Shared → Prop} {s : Shared} {y : PySem.Str} {t u : Nat} {Q : Value → Shared → Prop} (hne : (y == PySem.Str.ofString "") = false) (hs : y.length ≤ 3) (hok : OkWord y)
    (ht : s.toks = t + 1) (h : ∀ (r : PySem.Str) (t' k : Nat), Q3 r → r.length ≤ 4 → (r == PySem.Str.ofString "") = false → TokLo t' k → Q (.str r t') { s with toks := k }) : wpAny (model prog w) A (binaryOp .Add (.str (PySem.Str.ofString "\"") t) (.str y u)) Q E s :=
  add_q0 hs hok fun r t' k h1 h2 h3 h4 => h r t' k h1 h2 h3 (by
    have := len_nz hne
    unfold TokLo
    omega)
theorem add_q2 {prog : Program} {w : World} {A : Around} {E : Value → Shared → Prop} {s : Shared} {y : PySem.Str} {t u t₁ : Nat} {Q : Value → Shared → Prop} (hs : y.length ≤ 3) (hok : OkWord y)
    (ht : s.toks = t + 1) (hp : TokLo t₁ t) (h : ∀ (r : PySem.Str) (t' k : Nat), Q3 r → r.length ≤ 4 → (r == PySem.Str.ofString "") = false → TokOk t₁ t' → Q (.str r t') { s with toks := k }) : wpAny (model prog w) A (binaryOp .Add (.str (PySem.Str.ofString "\"") t) (.str y u)) Q E s :=
  add_q0 hs hok fun r t' k h1 h2 h3 h4 => h r t' k h1 h2 h3 (tok_ok hp (by omega)).1
section
variable {prog : Program} {w : World} {A : Around} {E : Value → Shared → Prop} {s : Shared} {env : Env} {h₀ : Heap} {nm : PySem.Str} {body : List Stmt} {Q : Flow → Shared → Prop}
theorem listRest_J {I : Addr} {lp : Addr × Obj} {news : List (Addr × Obj)} (J : List PySem.Str → (PySem.Str → Option Value) → Prop) (hm : lp ∈ news) (hoff : ∀ p ∈ news, p.1 ≠ I) :
    ∀ {vs : List Value} {xs : List PySem.Str}, StrsAre vs xs → ∀ (done : List PySem.Str) (m : PySem.Str → Option Value), J done m →
    (∀ (done : List PySem.Str) (x : PySem.Str) (t : Tok) it h tk m, x ∈ xs → J done m → it.cls = .type "list_iterator" → Fr h₀ env.locals h (fun y => if y = nm then some (.str x t) else m y) → News h₀ env.locals h ((I, it) :: news) →
      wpAny (model prog w) A (execs body env) (UnrPost h₀ env.locals { s with heap := h, toks := tk } I it (fun m' n' => n' = news ∧ J (done ++ [x]) m') Q) E { s with heap := h, toks := tk }) →
    (∀ h tk m, J (done ++ xs) m → Fr h₀ env.locals h m → News h₀ env.locals h news → Q .next { s with heap := h, toks := tk }) →
    ListRest prog w A E h₀ env nm body Q s I lp vs m news
  | _, _, .nil, done, m, hJ, _, hf => by
    rw [List.append_nil] at hf
    exact ListRest.zero fun h tk F N => hf h tk m hJ F N
  | _, _, .cons x t (vs := vs) (ys := ys) r, done, m, hJ, ht, hf => by
    refine ListRest.succ fun it h tk hc F N => ?_
    refine wpAny_mono (ht done x t it h tk m (List.mem_cons_self ..) hJ hc F N) (fun f s₂ p => ?_) fun _ _ e => e
    have fin : UnrEnd h₀ env.locals { s with heap := h, toks := tk } I it (fun m' n' => n' = news ∧ J (done ++ [x]) m') s₂ →
        UnrEnd h₀ env.locals { s with heap := h, toks := tk } I it (fun m' n' => lp ∈ n' ∧ ListRest prog w A E h₀ env nm body Q s I lp vs m' n') s₂ := by
      rintro ⟨h', tk', m', news', e, F', N', off, en, J'⟩
      subst en
      refine ⟨h', tk', m', news', e, F', N', off, hm, ?_⟩
      refine listRest_J J hm hoff r (done ++ [x]) m' J' (fun d x' t' it' h2 tk2 m2 hx' => ht d x' t' it' h2 tk2 m2 (List.mem_cons_of_mem _ hx')) ?_
      intro h2 tk2 m2 J2
      rw [List.append_assoc] at J2
      exact hf h2 tk2 m2 J2
    cases f with
    | ret v => exact p
    | brk => exact p
    | next => exact fin p
    | cont => exact fin p
theorem iter_J {ax : Addr} {lo : Obj} {vs : List Value} {xs : List PySem.Str} {n : Nat} {m₀ : PySem.Str → Option Value} {news : List (Addr × Obj)} (J : List PySem.Str → (PySem.Str → Option Value) → Prop)
    (hh : A.handled = none) (F : Fr h₀ env.locals s.heap m₀) (N : News h₀ env.locals s.heap news) (hm : (ax, lo) ∈ news) (hc : lo.cls = .type "list") (hd : lo.data = .seq vs.toArray n)
    (hs : StrsAre vs xs) (hJ : J [] m₀) (hlen : ∀ x ∈ xs, x.length ≤ 40)
    (ht : ∀ (done : List PySem.Str) (x : PySem.Str) (t : Tok) I it h tk m, (∀ p ∈ news, p.1 ≠ I) → x.length ≤ 40 → J done m → it.cls = .type "list_iterator" → Fr h₀ env.locals h (fun y => if y = nm then some (.str x t) else m y) → News h₀ env.locals h ((I, it) :: news) →
      wpAny (model prog w) A (execs body env) (UnrPost h₀ env.locals { s with heap := h, toks := tk } I it (fun m' n' => n' = news ∧ J (done ++ [x]) m') Q) E { s with heap := h, toks := tk })
    (hf : ∀ h tk m, J xs m → Fr h₀ env.locals h m → News h₀ env.locals h news → Q .next { s with heap := h, toks := tk }) :
    wpAny (model prog w) A (pyIter (.ref ax)) (fun it s₂ => LoopAtV prog w A h₀ env nm body Q E it s₂) E s :=
  iter_listUnr hh F N hm hc hd fun I hI => listRest_J J hm (fun p hp => Nat.ne_of_lt (hI p hp)) hs [] m₀ hJ (fun done x t it h tk m hx => ht done x t I it h tk m (fun p hp => Nat.ne_of_lt (hI p hp)) (hlen x hx)) (by simpa using hf)
end
def comm (o n x : PySem.Str) : Bool := parseS (PySem.Txt.replace x o n) == PySem.Txt.replace (parseS x) o n
def LoopJ (o : PySem.Str) (u : Tok) (n : PySem.Str) (v : Tok) (d : PySem.Str) (td : Tok) (done : List PySem.Str) (m : PySem.Str → Option Value) : Prop :=
  m (PySem.Str.ofString "old") = some (.str o u) ∧ m (PySem.Str.ofString "new") = some (.str n v) ∧ m (PySem.Str.ofString "drawn") = some (.str d td) ∧ m (PySem.Str.ofString "alike") = some (.bool (done.all (comm o n)))
theorem loop_fr {o : PySem.Str} {u : Tok} {n : PySem.Str} {v : Tok} {d : PySem.Str} {td : Tok} {done : List PySem.Str} {m : PySem.Str → Option Value} (h : LoopJ o u n v d td done m) :
    m = fun y => if y = PySem.Str.ofString "old" then some (.str o u) else if y = PySem.Str.ofString "new" then some (.str n v) else if y = PySem.Str.ofString "drawn" then some (.str d td) else if y = PySem.Str.ofString "alike" then some (.bool (done.all (comm o n))) else m y := by
  obtain ⟨h1, h2, h3, h4⟩ := h
  funext y
  by_cases e1 : y = PySem.Str.ofString "old"
  · rw [if_pos e1, e1, h1]
  rw [if_neg e1]
  by_cases e2 : y = PySem.Str.ofString "new"
  · rw [if_pos e2, e2, h2]
  rw [if_neg e2]
  by_cases e3 : y = PySem.Str.ofString "drawn"
  · rw [if_pos e3, e3, h3]
  rw [if_neg e3]
  by_cases e4 : y = PySem.Str.ofString "alike"
  · rw [if_pos e4, e4, h4]
  rw [if_neg e4]
theorem loop_frT {o : PySem.Str} {u : Tok} {n : PySem.Str} {v : Tok} {d : PySem.Str} {td : Tok} {done : List PySem.Str} {m : PySem.Str → Option Value} {h₀ h : Heap} {L : Addr} {p : Option Value} (hJ : LoopJ o u n v d td done m)
    (F : Fr h₀ L h (fun y => if y = PySem.Str.ofString "text" then p else m y)) :
    Fr h₀ L h (fun y => if y = PySem.Str.ofString "text" then p else if y = PySem.Str.ofString "old" then some (.str o u) else if y = PySem.Str.ofString "new" then some (.str n v) else if y = PySem.Str.ofString "drawn" then some (.str d td) else if y = PySem.Str.ofString "alike" then some (.bool (done.all (comm o n))) else m y) := by
  have e := loop_fr hJ
  have e2 : (fun y => if y = PySem.Str.ofString "text" then p else m y) = (fun y => if y = PySem.Str.ofString "text" then p else if y = PySem.Str.ofString "old" then some (.str o u) else if y = PySem.Str.ofString "new" then some (.str n v) else if y = PySem.Str.ofString "drawn" then some (.str d td) else if y = PySem.Str.ofString "alike" then some (.bool (done.all (comm o n))) else m y) := by
    funext y
    by_cases hp : y = PySem.Str.ofString "text"
    · rw [if_pos hp, if_pos hp]
    · rw [if_neg hp, if_neg hp]; exact congrFun e y
  rw [← e2]
  exact F
theorem loop_frE {o : PySem.Str} {u : Tok} {n : PySem.Str} {v : Tok} {d : PySem.Str} {td : Tok} {done : List PySem.Str} {m : PySem.Str → Option Value} {h₀ h : Heap} {L : Addr} {b : Bool} (hJ : LoopJ o u n v d td done m)
    (hb : done.all (comm o n) = b) (F : Fr h₀ L h m) :
    Fr h₀ L h (fun y => if y = PySem.Str.ofString "old" then some (.str o u) else if y = PySem.Str.ofString "new" then some (.str n v) else if y = PySem.Str.ofString "drawn" then some (.str d td) else if y = PySem.Str.ofString "alike" then some (.bool b) else m y) := by
  rw [← hb, ← loop_fr hJ]
  exact F
section
variable {w : World} {loose : List PySem.Str} {mean : ExcName → Option Value} {mg mb : PySem.Str → Option Value} {news : List (Addr × Obj)}
   {dp un : Nat} {gd : Option (List Code)} {cn : PySem.Str} {cs : Scope} {a : Addr} {ccd : Value} {cl : List (PySem.Str × Addr)} {outer : List Env} {A₀ : Around} {base h₀ : Heap} {L : Addr} {m : PySem.Str → Option Value} {s : Shared} {Q E : Value → Shared → Prop}
theorem t_word1 {x k : Int} {t u : Tok}
   (B : Below A₀ base outer h₀) (F : Fr h₀ L s.heap m) (X : (hd.heap_39 w.params).In h₀) (N : News h₀ L s.heap news) (T : Top hd.view_39 loose mean mg mb h₀) (hk : cs.kind = .function)
   (hdp : dp + 1 < recursionLimit) (hu : un + 8 < cLine) (hpos : 0 < s.toks)
   (h : ∀ (b : PySem.Str) (t' : Nat) h' (tk' : Nat), Fr h₀ L h' m → News h₀ L h' news → b.length ≤ 3 → b.length ≤ 4 → (b == PySem.Str.ofString "") = false → OkWord b → TokLo t' tk' → Q (.str b t') {s with heap := h', toks := tk'}) :
    wpAny (model Challenge.rw_pg0020_01.prog w) (ktrTop dp un gd cn cs L a ccd cl outer) (call (.ref 60) [.int x t, .int (1 + Int.fmod k 3) u]) Q E s :=
  k_word1 B F X N T hk hdp hu fun b t' h' tk' F' N' hl hn ok lo up => h b t' h' tk' F' N' hl (by omega) hn ok ⟨by omega, up⟩
theorem t_word0 {x k : Int} {t u : Tok} {t₁ k₁ : Nat}
   (B : Below A₀ base outer h₀) (F : Fr h₀ L s.heap m) (X : (hd.heap_39 w.params).In h₀) (N : News h₀ L s.heap news) (T : Top hd.view_39 loose mean mg mb h₀) (hk : cs.kind = .function)
   (hdp : dp + 1 < recursionLimit) (hu : un + 8 < cLine) (hp : TokLo t₁ k₁) (hle : k₁ ≤ s.toks)
   (h : ∀ (b : PySem.Str) (t' : Nat) h' (tk' : Nat), Fr h₀ L h' m → News h₀ L h' news → b.length ≤ 3 → b.length ≤ 4 → OkWord b → TokOk t₁ t' → TokOk t' t₁ → Q (.str b t') {s with heap := h', toks := tk'}) :
    wpAny (model Challenge.rw_pg0020_01.prog w) (ktrTop dp un gd cn cs L a ccd cl outer) (call (.ref 60) [.int x t, .int (Int.fmod k 4) u]) Q E s :=
  k_word0 B F X N T hk hdp hu fun b t' h' tk' F' N' hl ok lo up => h b t' h' tk' F' N' hl (by omega) ok (tok_ok hp (Nat.le_trans hle lo)).1 (tok_ok hp (Nat.le_trans hle lo)).2
end
theorem str_rep {prog : Program} {w : World} {A : Around} {E : Value → Shared → Prop} {s : Shared} {x y z : PySem.Str} {t u v : Tok} {Q : Value → Shared → Prop} (hx : x.length ≤ 40) (hz : z.length ≤ 4) (ht : TokOk u v) (hb : NoneBooked s.heap)
    (hq : ∀ t' k, Q (.str (Txt.replace x y z) t') { s with toks := k }) : wpAny (model prog w) A (call (.builtin "str.replace") [.str x t, .str y u, .str z v]) Q E s :=
  SC.replaceW2 1000 1000 (by decide) ht.1 ht.2.1 ht.2.2 (by omega) (by omega) hq hb
theorem lenA {x : PySem.Str} (h : x.length ≤ 40) : x.length ≤ 900 := by omega
theorem lenB {x y z : PySem.Str} (h : (PySem.Txt.replace x y z).length ≤ 5 * x.length + 5) (hx : x.length ≤ 40) : (PySem.Txt.replace x y z).length ≤ 900 := by omega
theorem lenC {x : PySem.Str} (h : x.length ≤ 4) : ((PySem.Str.ofString "z" ++ dblS x) ++ PySem.Str.ofString "z").length ≤ 900 := by
  have := dblS_len x
  have e : (PySem.Str.ofString "z").length = 1 := by decide
  rw [PySem.Str.length_append, PySem.Str.length_append, e]
  omega
theorem lenD {x : PySem.Str} (h : x.length ≤ 40) : x.length ≤ 100 := by omega
theorem lenE {x : PySem.Str} (h : (parseS x).length ≤ x.length) (hx : x.length ≤ 40) : (parseS x).length ≤ 100 := by omega
theorem lenF {x : PySem.Str} (h : x.length ≤ 4) : x.length ≤ 1000 := by omega
theorem lenG {x : PySem.Str} (h : x.length ≤ 8) : x.length ≤ 1000 := by omega
end Mine
namespace Mine
set_option maxRecDepth 100000
set_option maxHeartbeats 8000000
theorem join_d {prog : Program} {w : World} {A : Around} {E : Value → Shared → Prop} {s : Shared} {D : Addr} {ys : List Value} {l : List Int} {g : Int → PySem.Str} {t : Tok} {Q : Value → Shared → Prop}
    (hl : s.heap.IsList D ys.toArray) (hc : CarriedAll ys (l.map fun a => PyData.str (g a))) (h1 : ∀ a ∈ l, (g a).length = 1) (hn : l.length ≤ 8)
    (h : ∀ (d : PySem.Str) t' k, d.length ≤ 8 → Q (.str d t') { s with toks := k }) :
    wpAny (model prog w) A (call (.builtin "str.join") [.str (PySem.Str.ofString "") t, .ref D]) Q E s :=
  KT.join_1 hl hc h1 (by omega) fun t' k e => h _ t' k (by omega)
theorem ite_ffEq {c : Bool} {P Q : Prop} (hc : c = false) (h : Q) : if c = true then P else Q := by rw [hc]; exact h
theorem bne_self' (a : PySem.Str) : (a != a) = false := bne_self_eq_false a
theorem bne_selfB (a : Bool) : (a != a) = false := bne_self_eq_false a
theorem lz : (PySem.Str.ofString "z").length = 1 := by decide
theorem lzq : (PySem.Str.ofString "z\"").length = 2 := by decide
theorem lqz : (PySem.Str.ofString "\"z").length = 2 := by decide
theorem texts_len {o d : PySem.Str} (ho : o.length ≤ 4) (hd : d.length ≤ 8) :
    ∀ x ∈ ([(PySem.Str.ofString "z" ++ dblS o) ++ PySem.Str.ofString "z", (PySem.Str.ofString "z" ++ o) ++ PySem.Str.ofString "z", (PySem.Str.ofString "z\"" ++ o) ++ PySem.Str.ofString "z", (PySem.Str.ofString "z" ++ o) ++ PySem.Str.ofString "\"z", (PySem.Str.ofString "z\"" ++ o) ++ PySem.Str.ofString "\"z", d, (dblS d ++ o) ++ d] : List PySem.Str), x.length ≤ 40 := by
  have h1 := dblS_len o
  have h2 := dblS_len d
  intro x hx
  simp only [List.mem_cons, List.not_mem_nil, or_false] at hx
  rcases hx with e | e | e | e | e | e | e <;> rw [e] <;> (try simp only [PySem.Str.length_append, lz, lzq, lqz]) <;> omega
theorem turn_done {o n x : PySem.Str} {done : List PySem.Str} {b : Bool} (h : (parseS (PySem.Txt.replace x o n) != PySem.Txt.replace (parseS x) o n) = b) : (done ++ [x]).all (comm o n) = (done.all (comm o n) && !b) := by
  rw [List.all_append, ← h]
  simp [comm, bne]
theorem loop_end0 {o : PySem.Str} {u : Tok} {n : PySem.Str} {v : Tok} {d : PySem.Str} {td : Tok} {done : List PySem.Str} {x : PySem.Str} {m : PySem.Str → Option Value}
    (h : (parseS (PySem.Txt.replace x o n) != PySem.Txt.replace (parseS x) o n) = false)
    (h1 : m (PySem.Str.ofString "old") = some (.str o u)) (h2 : m (PySem.Str.ofString "new") = some (.str n v)) (h3 : m (PySem.Str.ofString "drawn") = some (.str d td)) (h4 : m (PySem.Str.ofString "alike") = some (.bool (done.all (comm o n)))) :
    LoopJ o u n v d td (done ++ [x]) m := ⟨h1, h2, h3, by rw [turn_done h, h4, Bool.not_false, Bool.and_true]⟩
theorem loop_end1 {o : PySem.Str} {u : Tok} {n : PySem.Str} {v : Tok} {d : PySem.Str} {td : Tok} {done : List PySem.Str} {x : PySem.Str} {m : PySem.Str → Option Value}
    (h : (parseS (PySem.Txt.replace x o n) != PySem.Txt.replace (parseS x) o n) = true)
    (h1 : m (PySem.Str.ofString "old") = some (.str o u)) (h2 : m (PySem.Str.ofString "new") = some (.str n v)) (h3 : m (PySem.Str.ofString "drawn") = some (.str d td)) (h4 : m (PySem.Str.ofString "alike") = some (.bool false)) :
    LoopJ o u n v d td (done ++ [x]) m := ⟨h1, h2, h3, by rw [turn_done h, h4, Bool.not_true, Bool.and_false]⟩
def Bd (x : PySem.Str) (n : Nat) : Prop := x.length ≤ n
theorem bd_z : Bd (PySem.Str.ofString "z") 1 := Nat.le_of_eq lz
theorem bd_zq : Bd (PySem.Str.ofString "z\"") 2 := Nat.le_of_eq lzq
theorem bd_qz : Bd (PySem.Str.ofString "\"z") 2 := Nat.le_of_eq lqz
theorem bd_pre : Bd (PySem.Str.ofString "257 \"") 5 := by unfold Bd; decide
theorem bd_app {x y : PySem.Str} {n k : Nat} (hx : Bd x n) (hy : Bd y k) : Bd (x ++ y) (n + k) := by
  unfold Bd at *
  rw [PySem.Str.length_append]; omega
theorem bd_4 {x : PySem.Str} (h : x.length ≤ 4) : Bd x 4 := h
theorem bd_8 {x : PySem.Str} (h : x.length ≤ 8) : Bd x 8 := h
theorem bd_40 {x : PySem.Str} (h : x.length ≤ 40) : Bd x 40 := h
theorem bd_dbl {x : PySem.Str} {n : Nat} (h : Bd x n) : Bd (dblS x) (2 * n) := by
  have := dblS_len x
  unfold Bd at *
  omega
theorem bd_rep {x y z : PySem.Str} (h : (PySem.Txt.replace x y z).length ≤ 5 * x.length + 5) (hx : x.length ≤ 40) : Bd (PySem.Txt.replace x y z) 205 := by
  unfold Bd
  omega
theorem addB {prog : Program} {w : World} {A : Around} {E : Value → Shared → Prop} {s : Shared} {x y : PySem.Str} {t u : Tok} {n k : Nat} {Q : Value → Shared → Prop} (hx : Bd x n) (hy : Bd y k) (hn : Nat.ble (n + k) 16777216 = true)
    (h : ∀ (t' k : Nat), Q (.str (x ++ y) t') { s with toks := k }) : wpAny (model prog w) A (binaryOp .Add (.str x t) (.str y u)) Q E s :=
  add_tok (by have := Nat.le_of_ble_eq_true hn; unfold Bd at *; omega) fun t' k _ _ => h t' k
end Mine
namespace Mine
set_option maxRecDepth 100000
def preB : List Nat → List Nat → Bool
  | [], _ => true
  | _ :: _, [] => false
  | a :: l, b :: r => bif Nat.beq a b then preB l r else false
def rps (o n : List Nat) : Nat → List Nat → List Nat
  | _, [] => []
  | k + 1, _ :: r => rps o n k r
  | 0, c :: r => bif preB o (c :: r) then n ++ rps o n (o.length - 1) r else c :: rps o n 0 r
theorem preB_iff : ∀ {o x : List Nat}, preB o x = true ↔ ∃ y, x = o ++ y
  | [], x => ⟨fun _ => ⟨x, rfl⟩, fun _ => rfl⟩
  | a :: l, [] => ⟨fun h => (by cases h), fun ⟨y, h⟩ => (by cases h)⟩
  | a :: l, b :: r => by
    have e : preB (a :: l) (b :: r) = bif Nat.beq a b then preB l r else false := rfl
    rw [e]
    cases hb : Nat.beq a b
    · constructor
      · intro h; cases h
      · rintro ⟨y, h⟩
        injection h with h1 h2
        rw [h1, Nat.beq_refl] at hb
        cases hb
    · have hab : a = b := Nat.eq_of_beq_eq_true hb
      subst hab
      rw [cond_true, preB_iff]
      constructor
      · rintro ⟨y, h⟩; exact ⟨y, by rw [h]; rfl⟩
      · rintro ⟨y, h⟩; injection h with h1 h2; exact ⟨y, h2⟩
theorem rps_nil (o n : List Nat) (k : Nat) : rps o n k [] = [] := by cases k <;> rfl
theorem rps_skip (o n : List Nat) : ∀ (k : Nat) (x : List Nat), rps o n k x = rps o n 0 (x.drop k)
  | 0, _ => rfl
  | k + 1, [] => by rw [rps_nil]; rfl
  | k + 1, c :: r => by
    show rps o n k r = _
    rw [rps_skip o n k r]; rfl
theorem rps_at {o : List Nat} (n y : List Nat) (h : o ≠ []) : rps o n 0 (o ++ y) = n ++ rps o n 0 y := by
  cases o with
  | nil => exact absurd rfl h
  | cons a l =>
    show (bif preB (a :: l) (a :: (l ++ y)) then n ++ rps (a :: l) n ((a :: l).length - 1) (l ++ y) else a :: rps (a :: l) n 0 (l ++ y)) = _
    have e : preB (a :: l) (a :: (l ++ y)) = true := preB_iff.mpr ⟨y, rfl⟩
    have e2 : (l ++ y).drop ((a :: l).length - 1) = y := by simp
    rw [e, cond_true, rps_skip, e2]
theorem rps_no {o n : List Nat} {c : Nat} {r : List Nat} (h : preB o (c :: r) = false) : rps o n 0 (c :: r) = c :: rps o n 0 r := by
  show (bif preB o (c :: r) then n ++ rps o n (o.length - 1) r else c :: rps o n 0 r) = _
  rw [h, cond_false]
theorem rps_self {o : List Nat} (h : o ≠ []) : ∀ (k : Nat) (x : List Nat), x.length ≤ k → rps o o 0 x = x
  | _, [], _ => rfl
  | 0, c :: r, hk => by simp at hk
  | k + 1, c :: r, hk => by
    cases hp : preB o (c :: r)
    · rw [rps_no hp, rps_self h k r (by simpa using hk)]
    · obtain ⟨y, hy⟩ := preB_iff.mp hp
      rw [hy, rps_at o y h, rps_self h k y]
      have := congrArg List.length hy
      rw [List.length_append] at this
      have h0 : o.length ≠ 0 := fun e => h (List.length_eq_zero_iff.mp e)
      omega
theorem par_app : ∀ {s : List Nat} (y : List Nat), 34 ∉ s → parseL (s ++ y) = s ++ parseL y
  | [], _, _ => rfl
  | a :: l, y, h => by
    rw [List.cons_append, parseL_other (by intro e; exact h (by rw [e]; exact List.mem_cons_self ..)), par_app y (fun hh => h (List.mem_cons_of_mem _ hh))]
    rfl
theorem par_mm (r : List Nat) : parseL (34 :: 34 :: r) = 34 :: parseL r := by
  show (if (34 : Nat) = 34 then (if (34 : Nat) = 34 then 34 :: parseL r else []) else 34 :: parseL (34 :: r)) = _
  rw [if_pos rfl, if_pos rfl]
theorem par_mo {d : Nat} (h : d ≠ 34) (r : List Nat) : parseL (34 :: d :: r) = [] := by
  show (if (34 : Nat) = 34 then (if d = 34 then 34 :: parseL r else []) else 34 :: parseL (d :: r)) = _
  rw [if_pos rfl, if_neg h]
theorem par_m : parseL [34] = [] := rfl
theorem pre_par : ∀ {s r : List Nat}, 34 ∉ s → preB s (parseL r) = true → preB s r = true
  | [], _, _, _ => rfl
  | a :: l, r, h, hp => by
    have ha : a ≠ 34 := fun e => h (by rw [e]; exact List.mem_cons_self ..)
    have hl : 34 ∉ l := fun hh => h (List.mem_cons_of_mem _ hh)
    cases r with
    | nil => cases hp
    | cons b r' =>
      by_cases hb : b = 34
      · subst hb
        cases r' with
        | nil => rw [par_m] at hp; cases hp
        | cons d r'' =>
          by_cases hd : d = 34
          · subst hd
            rw [par_mm] at hp
            obtain ⟨y, hy⟩ := preB_iff.mp hp
            injection hy with h1 h2
            exact absurd h1.symm ha
          · rw [par_mo hd] at hp; cases hp
      · rw [parseL_other hb] at hp
        obtain ⟨y, hy⟩ := preB_iff.mp hp
        injection hy with h1 h2
        subst h1
        have := pre_par hl (preB_iff.mpr ⟨y, h2⟩)
        obtain ⟨y2, hy2⟩ := preB_iff.mp this
        exact preB_iff.mpr ⟨y2, by rw [hy2]; rfl⟩
theorem pre_mark {s : List Nat} (hs : s ≠ []) (h : 34 ∉ s) (r : List Nat) : preB s (34 :: r) = false := by
  cases hp : preB s (34 :: r)
  · rfl
  · obtain ⟨y, hy⟩ := preB_iff.mp hp
    cases s with
    | nil => exact absurd rfl hs
    | cons a l =>
      injection hy with h1 h2
      exact absurd (by rw [h1]; exact List.mem_cons_self ..) h
theorem par_m_app {p : List Nat} (hp : p ≠ []) (h : 34 ∉ p) (y : List Nat) : parseL (34 :: (p ++ y)) = [] := by
  cases p with
  | nil => exact absurd rfl hp
  | cons a l => exact par_mo (fun e => h (by rw [e]; exact List.mem_cons_self ..)) _
theorem plain_comm {s p : List Nat} (hs : s ≠ []) (hp : p ≠ []) (hsm : 34 ∉ s) (hpm : 34 ∉ p) : ∀ (k : Nat) (x : List Nat), x.length ≤ k → parseL (rps s p 0 x) = rps s p 0 (parseL x)
  | _, [], _ => rfl
  | 0, c :: r, hk => by simp at hk
  | k + 1, c :: r, hk => by
    have hk' : r.length ≤ k := by simpa using hk
    cases hpre : preB s (c :: r)
    · by_cases hc : c = 34
      · subst hc
        rw [rps_no hpre]
        cases r with
        | nil => rfl
        | cons d r' =>
          by_cases hd : d = 34
          · subst hd
            rw [rps_no (pre_mark hs hsm r'), par_mm, par_mm, rps_no (pre_mark hs hsm _), plain_comm hs hp hsm hpm k r' (by simp at hk'; omega)]
          · rw [par_mo hd, rps_nil]
            cases hpre2 : preB s (d :: r')
            · rw [rps_no hpre2, par_mo hd]
            · obtain ⟨y, hy⟩ := preB_iff.mp hpre2
              rw [hy, rps_at p y hs, par_m_app hp hpm]
      · rw [rps_no hpre, parseL_other hc, parseL_other hc, plain_comm hs hp hsm hpm k r hk', rps_no]
        cases hpre2 : preB s (c :: parseL r)
        · rfl
        · have q : preB s (c :: r) = true := pre_par hsm (by rw [parseL_other hc]; exact hpre2)
          rw [q] at hpre
          cases hpre
    · obtain ⟨y, hy⟩ := preB_iff.mp hpre
      have hlen := congrArg List.length hy
      rw [List.length_append] at hlen
      have h0 : s.length ≠ 0 := fun e => hs (List.length_eq_zero_iff.mp e)
      rw [hy, rps_at p y hs, par_app _ hpm, par_app _ hsm, rps_at p _ hs, plain_comm hs hp hsm hpm k y (by simp at hlen; omega)]
theorem pre_q {s : List Nat} {c : Nat} (h : c ≠ 34) (r : List Nat) : preB (34 :: s) (c :: r) = false := by
  cases hp : preB (34 :: s) (c :: r)
  · rfl
  · obtain ⟨y, hy⟩ := preB_iff.mp hp
    injection hy with h1 h2
    exact absurd h1 h
theorem pre_qq {s : List Nat} (r : List Nat) : preB (34 :: s) (34 :: r) = preB s r := rfl
theorem quote_comm {s p : List Nat} (hs : s ≠ []) (hp : p ≠ []) (hsm : 34 ∉ s) (hpm : 34 ∉ p) : ∀ (k : Nat) (x : List Nat), x.length ≤ k → parseL (rps (34 :: s) (34 :: p) 0 x) = rps (34 :: s) (34 :: p) 0 (parseL x)
  | _, [], _ => rfl
  | 0, c :: r, hk => by simp at hk
  | k + 1, c :: r, hk => by
    have hk' : r.length ≤ k := by simpa using hk
    have ho : (34 :: s) ≠ [] := List.cons_ne_nil _ _
    by_cases hc : c = 34
    · subst hc
      cases r with
      | nil =>
        have e : preB (34 :: s) [34] = false := by
          rw [pre_qq]
          cases s with
          | nil => exact absurd rfl hs
          | cons a l => rfl
        rw [rps_no e]; rfl
      | cons d r' =>
        by_cases hd : d = 34
        · subst hd
          have e : preB (34 :: s) (34 :: 34 :: r') = false := by rw [pre_qq]; exact pre_mark hs hsm r'
          rw [rps_no e, par_mm]
          cases hpre : preB s r'
          · rw [rps_no (by rw [pre_qq]; exact hpre), par_mm, rps_no, quote_comm hs hp hsm hpm k r' (by simp at hk'; omega)]
            rw [pre_qq]
            cases hpre2 : preB s (parseL r')
            · rfl
            · rw [pre_par hsm hpre2] at hpre; cases hpre
          · obtain ⟨y, hy⟩ := preB_iff.mp hpre
            have hlen := congrArg List.length hy
            rw [List.length_append] at hlen
            have e1 : 34 :: r' = (34 :: s) ++ y := by rw [hy]; rfl
            have e2 : 34 :: parseL r' = (34 :: s) ++ parseL y := by rw [hy, par_app _ hsm]; rfl
            rw [e1, e2, rps_at _ _ ho, rps_at _ _ ho, List.cons_append, par_mm, par_app _ hpm, quote_comm hs hp hsm hpm k y (by simp at hk'; omega)]
            rfl
        · rw [par_mo hd, rps_nil]
          cases hpre : preB (34 :: s) (34 :: d :: r')
          · rw [rps_no hpre, rps_no (pre_q hd r'), par_mo hd]
          · obtain ⟨y, hy⟩ := preB_iff.mp hpre
            rw [hy, rps_at _ _ ho, List.cons_append, par_m_app hp hpm]
    · rw [rps_no (pre_q hc r), parseL_other hc, parseL_other hc, rps_no (pre_q hc _), quote_comm hs hp hsm hpm k r hk']
end Mine
namespace Mine
set_option maxRecDepth 100000
def TL (x : PySem.Str) : List Nat := x.cps.toList
theorem TL_len (x : PySem.Str) : x.length = (TL x).length := str_len x
theorem TL_app (x y : PySem.Str) : TL (x ++ y) = TL x ++ TL y := app_list x y
theorem at_pre {x y : PySem.Str} {k : Nat} : StrLaws.At x y x.length k ↔ (k ≤ x.length ∧ preB (TL y) ((TL x).drop k) = true) := by
  unfold StrLaws.At
  rw [StrLaws.subAt_eq, TL_len x, TL_len y]
  constructor
  · rintro ⟨h1, h2⟩
    refine ⟨by omega, preB_iff.mpr ⟨((TL x).drop k).drop (TL y).length, ?_⟩⟩
    have e := eq_of_beq h2
    have e' : ((TL x).drop k).take (TL y).length = TL y := e
    conv => lhs; rw [← List.take_append_drop (TL y).length ((TL x).drop k)]
    rw [e']
  · rintro ⟨h1, h2⟩
    obtain ⟨r, hr⟩ := preB_iff.mp h2
    have hl := congrArg List.length hr
    rw [List.length_drop, List.length_append] at hl
    refine ⟨by omega, ?_⟩
    show (((TL x).drop k).take (TL y).length == TL y) = true
    rw [hr, List.take_left]
    exact beq_self_eq_true _
theorem rps_gap {o n X : List Nat} : ∀ (d a : Nat), a + d ≤ X.length → (∀ k, a ≤ k → k < a + d → preB o (X.drop k) = false) →
    rps o n 0 (X.drop a) = (X.drop a).take d ++ rps o n 0 (X.drop (a + d))
  | 0, a, _, _ => by simp
  | d + 1, a, hl, hn => by
    have hlt : a < X.length := by omega
    have e := List.drop_eq_getElem_cons hlt
    have h0 := hn a (Nat.le_refl _) (by omega)
    rw [e] at h0 ⊢
    rw [rps_no h0, rps_gap d (a + 1) (by omega) (fun k h1 h2 => hn k (by omega) (by omega)), List.take_succ_cons]
    rw [show a + 1 + d = a + (d + 1) by omega]
    rfl
theorem join_cons2 (z p q : PySem.Str) (r : List PySem.Str) : PySem.Str.join z (p :: q :: r) = p ++ z ++ PySem.Str.join z (q :: r) := rfl
theorem join_one (z p : PySem.Str) : PySem.Str.join z [p] = p := rfl
theorem sub_list (x : PySem.Str) (i j : Nat) : TL (Builtin.Str.strSub x i j) = ((TL x).drop i).take (j - i) := StrLaws.strSub_toList x i j
theorem chain_rps {x y z : PySem.Str} (hy : TL y ≠ []) : ∀ (cuts : List Nat) (a f : Nat), a ≤ x.length → StrLaws.ChainG x y x.length a cuts f → (∀ k, f ≤ k → ¬ StrLaws.At x y x.length k) →
    TL (PySem.Str.join z (StrLaws.partsFrom x y.length a cuts)) = rps (TL y) (TL z) 0 ((TL x).drop a)
  | [], a, f, ha, h, hn => by
    have e : f = a := h
    subst e
    have hlen := TL_len x
    have g := rps_gap (o := TL y) (n := TL z) (X := TL x) ((TL x).length - f) f (by omega) (fun k h1 h2 => by
      cases hp : preB (TL y) ((TL x).drop k)
      · rfl
      · exact absurd (at_pre.mpr ⟨by omega, hp⟩) (hn k h1))
    have e2 : (TL x).drop (f + ((TL x).length - f)) = [] := List.drop_eq_nil_of_le (by omega)
    rw [g, e2, rps_nil, List.append_nil]
    show TL (PySem.Str.join z [Builtin.Str.strSub x f x.length]) = _
    rw [join_one, sub_list, hlen]
  | c :: r, a, f, ha, h, hn => by
    obtain ⟨h1, h2, h3, h4⟩ := h
    have hlen := TL_len x
    have hA := at_pre.mp h2
    have hle : c + y.length ≤ x.length := h2.1
    obtain ⟨w, hw⟩ := preB_iff.mp hA.2
    have g := rps_gap (o := TL y) (n := TL z) (X := TL x) (c - a) a (by omega) (fun k k1 k2 => by
      cases hp : preB (TL y) ((TL x).drop k)
      · rfl
      · exact absurd (at_pre.mpr ⟨by omega, hp⟩) (h3 k k1 (by omega)))
    have hd : (TL x).drop (c + y.length) = w := by
      rw [← List.drop_drop, hw, TL_len y, List.drop_left]
    have ih := chain_rps (z := z) hy r (c + y.length) f hle h4 hn
    rw [g, show a + (c - a) = c by omega, hw, rps_at _ _ hy, ← hd, ← ih]
    obtain ⟨p, q, hpq⟩ := StrLaws.partsFrom_ne x y.length (c + y.length) r
    show TL (PySem.Str.join z (Builtin.Str.strSub x a c :: StrLaws.partsFrom x y.length (c + y.length) r)) = _
    rw [hpq, join_cons2, TL_app, TL_app, sub_list, List.append_assoc]
theorem rep_TL {x y z : PySem.Str} (hy : TL y ≠ []) : TL (PySem.Txt.replace x y z) = rps (TL y) (TL z) 0 (TL x) := by
  have hy1 : 1 ≤ y.length := by
    rw [TL_len]
    have : (TL y).length ≠ 0 := fun e => hy (List.length_eq_zero_iff.mp e)
    omega
  obtain ⟨f, hG, hn⟩ := StrLaws.occ_tight x y hy1
  have key := chain_rps (z := z) hy _ 0 f (Nat.zero_le _) hG hn
  rw [← StrLaws.partsBetween_eq, ← StrLaws.glued_eq_join, List.drop_zero] at key
  unfold PySem.Txt.replace
  have h0 : (y.length == 0) = false := by
    rw [beq_eq_false_iff_ne]; omega
  rw [h0, Bool.false_and, Bool.or_false]
  cases he : (Builtin.Str.occurrences x y 0 x.length (x.length + 1)).isEmpty
  · rw [if_neg Bool.false_ne_true]; exact key
  · rw [if_pos rfl, ← key]
    rw [List.isEmpty_iff.mp he]
    show _ = TL (Builtin.Str.glued z (Builtin.Str.partsBetween x [] y.length))
    rw [StrLaws.glued_eq_join, StrLaws.partsBetween_eq]
    show _ = TL (PySem.Str.join z [Builtin.Str.strSub x 0 x.length])
    rw [join_one, StrLaws.sub_whole]
theorem TL_inj {a b : PySem.Str} (h : TL a = TL b) : a = b := str_ext h
theorem beq_TL (a b : PySem.Str) : (a == b) = (TL a == TL b) := by
  cases h : (TL a == TL b)
  · rw [beq_eq_false_iff_ne] at h ⊢
    exact fun e => h (by rw [e])
  · rw [TL_inj (eq_of_beq h)]; exact beq_self_eq_true _
theorem par_TL (x : PySem.Str) : TL (parseS x) = parseL (TL x) := rfl
def cmL (o n x : List Nat) : Bool := parseL (rps o n 0 x) == rps o n 0 (parseL x)
theorem comm_TL {o n x : PySem.Str} (ho : TL o ≠ []) : comm o n x = cmL (TL o) (TL n) (TL x) := by
  unfold comm cmL
  rw [beq_TL, par_TL, rep_TL ho, rep_TL ho, par_TL]
end Mine
namespace Mine
set_option maxRecDepth 100000
def isM : List Nat → Bool
  | [] => false
  | c :: _ => Nat.beq c 34
def hasM : List Nat → Bool
  | [] => false
  | c :: r => bif Nat.beq c 34 then true else hasM r
def eqL : List Nat → List Nat → Bool
  | [], [] => true
  | a :: l, b :: r => bif Nat.beq a b then eqL l r else false
  | [], _ :: _ => false
  | _ :: _, [] => false
theorem eqL_iff : ∀ {a b : List Nat}, eqL a b = true ↔ a = b
  | [], [] => ⟨fun _ => rfl, fun _ => rfl⟩
  | a :: l, b :: r => by
    show (bif Nat.beq a b then eqL l r else false) = true ↔ _
    cases hb : Nat.beq a b
    · constructor
      · intro h; cases h
      · intro h
        injection h with h1 h2
        rw [h1, Nat.beq_refl] at hb
        cases hb
    · rw [cond_true, eqL_iff, Nat.eq_of_beq_eq_true hb]
      exact ⟨fun h => by rw [h], fun h => by injection h⟩
  | [], _ :: _ => ⟨fun h => (by cases h), fun h => (by cases h)⟩
  | _ :: _, [] => ⟨fun h => (by cases h), fun h => (by cases h)⟩
theorem hasM_iff : ∀ {l : List Nat}, hasM l = true ↔ 34 ∈ l
  | [] => ⟨fun h => (by cases h), fun h => (by cases h)⟩
  | c :: r => by
    show (bif Nat.beq c 34 then true else hasM r) = true ↔ _
    cases hb : Nat.beq c 34
    · rw [cond_false, hasM_iff, List.mem_cons]
      have : (34 : Nat) ≠ c := fun e => by rw [← e] at hb; cases hb
      exact ⟨Or.inr, fun h => h.elim (fun e => absurd e this) id⟩
    · rw [cond_true, Nat.eq_of_beq_eq_true hb]
      exact ⟨fun _ => List.mem_cons_self .., fun _ => rfl⟩
def spL (o n : List Nat) : Bool :=
  bif eqL o n then true else
  bif isM o && isM n then !(o.drop 1).isEmpty && !(n.drop 1).isEmpty && !hasM (o.drop 1 ++ n.drop 1)
  else !o.isEmpty && !n.isEmpty && !hasM (o ++ n)
theorem dq_TL : TL (PySem.Str.ofString "\"") = [34] := by decide +kernel
theorem z_TL : TL (PySem.Str.ofString "z") = [122] := by decide +kernel
theorem zq_TL : TL (PySem.Str.ofString "z\"") = [122, 34] := by decide +kernel
theorem qz_TL : TL (PySem.Str.ofString "\"z") = [34, 122] := by decide +kernel
theorem e_TL : TL (PySem.Str.ofString "") = [] := rfl
theorem s1 (x : PySem.Str) : (PySem.Txt.slice x none (some 1) == PySem.Str.ofString "\"") = isM (TL x) := by
  cases h : TL x with
  | nil =>
    have e : x = PySem.Str.ofString "" := TL_inj (by rw [h]; rfl)
    rw [e]
    decide +kernel
  | cons c r =>
    have hx : x.cps.toList = c :: r := h
    have e := eq_of_beq (slice_closes_to (x := x) (j := 1) ⟨by decide, by rw [hx]; simp only [List.length_cons]; omega⟩)
    rw [e, beq_TL, dq_TL]
    show ((x.cps.toList.drop (0 : Int).toNat).take (1 - 0 : Int).toNat == [34]) = Nat.beq c 34
    rw [hx]
    show ([c] == [34]) = Nat.beq c 34
    cases hb : Nat.beq c 34
    · rw [beq_eq_false_iff_ne]
      intro e; injection e with e1; rw [e1] at hb; cases hb
    · rw [Nat.eq_of_beq_eq_true hb]; rfl
theorem s2 {x : PySem.Str} (h : isM (TL x) = true) : TL (PySem.Txt.slice x (some 1) none) = (TL x).drop 1 := by
  cases hx : TL x with
  | nil => rw [hx] at h; cases h
  | cons c r =>
    have hx' : x.cps.toList = c :: r := hx
    have e := eq_of_beq (slice_closes_from (x := x) (i := 1) ⟨by decide, by rw [hx']; simp only [List.length_cons]; omega⟩)
    rw [e]
    show (x.cps.toList.drop (1 : Int).toNat).take ((x.cps.toList.length : Int) - 1).toNat = _
    rw [hx']
    show r.take ((((c :: r).length : Nat) : Int) - 1).toNat = r
    exact List.take_of_length_le (by simp only [List.length_cons]; omega)
theorem s3 (x : PySem.Str) : PySem.Txt.contains x (PySem.Str.ofString "\"") = hasM (TL x) := by
  unfold PySem.Txt.contains
  rw [dq_is, StrLaws.found_one]
  cases h : hasM (TL x)
  · exact decide_eq_false fun hm => by rw [show hasM (TL x) = true from hasM_iff.mpr hm] at h; cases h
  · exact decide_eq_true (hasM_iff.mp h)
theorem s4 (x : PySem.Str) : (x != PySem.Str.ofString "") = !(TL x).isEmpty := by
  unfold bne
  rw [beq_TL, e_TL]
  cases TL x <;> rfl
theorem spared_TL (o n : PySem.Str) : sparedS o n = spL (TL o) (TL n) := by
  unfold sparedS spL
  have e1 : (o == n) = eqL (TL o) (TL n) := by
    rw [beq_TL]
    cases h : eqL (TL o) (TL n)
    · rw [beq_eq_false_iff_ne]; intro e; rw [eqL_iff.mpr e] at h; cases h
    · rw [eqL_iff.mp h]; exact beq_self_eq_true _
  rw [e1, s1, s1]
  cases eqL (TL o) (TL n)
  · rw [if_neg Bool.false_ne_true, cond_false]
    cases h : (isM (TL o) && isM (TL n))
    · rw [if_neg Bool.false_ne_true, cond_false, s3, s4, s4, TL_app]
    · rw [if_pos rfl, cond_true, s3, s4, s4, TL_app]
      rw [Bool.and_eq_true] at h
      rw [s2 h.1, s2 h.2]
  · rw [if_pos rfl, cond_true]
theorem not_em {l : List Nat} (h : (!l.isEmpty) = true) : l ≠ [] := by
  intro e; rw [e] at h; cases h
theorem not_has {a b : List Nat} (h : (!hasM (a ++ b)) = true) : 34 ∉ a ∧ 34 ∉ b := by
  have hn : 34 ∉ a ++ b := fun hm => by rw [hasM_iff.mpr hm] at h; cases h
  exact ⟨fun hm => hn (List.mem_append_left _ hm), fun hm => hn (List.mem_append_right _ hm)⟩
theorem isM_cons {l : List Nat} (h : isM l = true) : l = 34 :: l.drop 1 := by
  cases l with
  | nil => cases h
  | cons c r => rw [Nat.eq_of_beq_eq_true (show Nat.beq c 34 = true from h)]; rfl
theorem fwd {o n : List Nat} (ho : o ≠ []) (h : spL o n = true) (x : List Nat) : cmL o n x = true := by
  unfold cmL
  suffices hs : parseL (rps o n 0 x) = rps o n 0 (parseL x) by rw [hs]; exact beq_self_eq_true _
  unfold spL at h
  cases he : eqL o n
  · rw [he, cond_false] at h
    cases hb : (isM o && isM n)
    · rw [hb, cond_false, Bool.and_eq_true, Bool.and_eq_true] at h
      have hm := not_has h.2
      exact plain_comm ho (not_em h.1.2) hm.1 hm.2 _ x (Nat.le_refl _)
    · rw [hb, cond_true, Bool.and_eq_true, Bool.and_eq_true] at h
      rw [Bool.and_eq_true] at hb
      have hm := not_has h.2
      have q := quote_comm (not_em h.1.1) (not_em h.1.2) hm.1 hm.2 _ x (Nat.le_refl _)
      rw [← isM_cons hb.1, ← isM_cons hb.2] at q
      exact q
  · rw [← eqL_iff.mp he, rps_self ho _ _ (Nat.le_refl _), rps_self ho _ _ (Nat.le_refl _)]
def cmF (o n x : List Nat) : Bool := eqL (parseL (rps o n 0 x)) (rps o n 0 (parseL x))
theorem cmF_of {o n x : List Nat} (h : cmL o n x = true) : cmF o n x = true := eqL_iff.mpr (eq_of_beq h)
def all5 (o n : List Nat) : Bool :=
  cmF o n (([122] ++ dblL o) ++ [122]) && (cmF o n (([122] ++ o) ++ [122]) && (cmF o n (([122, 34] ++ o) ++ [122]) && (cmF o n (([122] ++ o) ++ [34, 122]) && cmF o n (([122, 34] ++ o) ++ [34, 122]))))
def ws : Nat → List (List Nat)
  | 0 => [[]]
  | k + 1 => (ws k).flatMap fun w => [97 :: w, 98 :: w, 34 :: w]
theorem ws_mem : ∀ (l : List Nat), (∀ c ∈ l, c = 97 ∨ c = 98 ∨ c = 34) → l ∈ ws l.length
  | [], _ => List.mem_cons_self ..
  | c :: r, h => by
    have hr := ws_mem r fun d hd => h d (List.mem_cons_of_mem _ hd)
    show c :: r ∈ (ws r.length).flatMap fun w => [97 :: w, 98 :: w, 34 :: w]
    rw [List.mem_flatMap]
    refine ⟨r, hr, ?_⟩
    rcases h c (List.mem_cons_self ..) with e | e | e <;> rw [e] <;> simp
def w03 : List (List Nat) := ws 0 ++ ws 1 ++ ws 2 ++ ws 3
theorem w03_mem {l : List Nat} (hl : l.length ≤ 3) (h : ∀ c ∈ l, c = 97 ∨ c = 98 ∨ c = 34) : l ∈ w03 := by
  have hm := ws_mem l h
  have : l.length = 0 ∨ l.length = 1 ∨ l.length = 2 ∨ l.length = 3 := by omega
  unfold w03
  simp only [List.mem_append]
  rcases this with e | e | e | e <;> rw [e] at hm
  · exact .inl (.inl (.inl hm))
  · exact .inl (.inl (.inr hm))
  · exact .inl (.inr hm)
  · exact .inr hm
theorem all_mem {α : Type} {l : List α} {p : α → Bool} (h : l.all p = true) {a : α} (ha : a ∈ l) : p a = true := List.all_eq_true.mp h a ha
theorem back1 : (w03.all fun u => w03.all fun v => bif u.isEmpty then true else bif all5 u v then spL u v else true) = true := by decide +kernel
theorem back2 : (w03.all fun u => w03.all fun v => bif all5 (34 :: u) (34 :: v) then spL (34 :: u) (34 :: v) else true) = true := by decide +kernel
theorem w03_of {x : PySem.Str} (h : OkWord x) (hl : x.length ≤ 3) : TL x ∈ w03 := w03_mem (by rw [← TL_len]; exact hl) h
theorem back {o n : PySem.Str} (h0 : TL o ≠ []) (hp : ((OkWord o ∧ o.length ≤ 3) ∧ (OkWord n ∧ n.length ≤ 3)) ∨ (Q3 o ∧ Q3 n)) (h : all5 (TL o) (TL n) = true) : spL (TL o) (TL n) = true := by
  rcases hp with ⟨⟨h1, h2⟩, h3, h4⟩ | ⟨⟨y, h1, h2, e1⟩, w, h3, h4, e2⟩
  · have q := all_mem (all_mem back1 (w03_of h1 h2)) (w03_of h3 h4)
    have e : (TL o).isEmpty = false := by
      cases hb : TL o with
      | nil => exact absurd hb h0
      | cons _ _ => rfl
    rw [e, cond_false, h, cond_true] at q
    exact q
  · have e1 : TL o = 34 :: TL y := e1
    have e2 : TL n = 34 :: TL w := e2
    rw [e1, e2] at h ⊢
    have q := all_mem (all_mem back2 (w03_of h1 h2)) (w03_of h3 h4)
    rw [h, cond_true] at q
    exact q
theorem law_all (o n d : PySem.Str) (hp : ((OkWord o ∧ o.length ≤ 3) ∧ (OkWord n ∧ n.length ≤ 3)) ∨ (Q3 o ∧ Q3 n)) (h0 : (o == PySem.Str.ofString "") = false) :
  ([(PySem.Str.ofString "z" ++ dblS o) ++ PySem.Str.ofString "z", (PySem.Str.ofString "z" ++ o) ++ PySem.Str.ofString "z", (PySem.Str.ofString "z\"" ++ o) ++ PySem.Str.ofString "z", (PySem.Str.ofString "z" ++ o) ++ PySem.Str.ofString "\"z", (PySem.Str.ofString "z\"" ++ o) ++ PySem.Str.ofString "\"z", d, (dblS d ++ o) ++ d] : List PySem.Str).all (comm o n) = sparedS o n := by
  have ho : TL o ≠ [] := fun e => by
    rw [beq_TL, e] at h0
    cases h0
  rw [spared_TL]
  cases hs : spL (TL o) (TL n)
  · cases ha : List.all _ _
    · rfl
    · exfalso
      rw [List.all_eq_true] at ha
      have get : ∀ x, x ∈ ([(PySem.Str.ofString "z" ++ dblS o) ++ PySem.Str.ofString "z", (PySem.Str.ofString "z" ++ o) ++ PySem.Str.ofString "z", (PySem.Str.ofString "z\"" ++ o) ++ PySem.Str.ofString "z", (PySem.Str.ofString "z" ++ o) ++ PySem.Str.ofString "\"z", (PySem.Str.ofString "z\"" ++ o) ++ PySem.Str.ofString "\"z", d, (dblS d ++ o) ++ d] : List PySem.Str) → cmF (TL o) (TL n) (TL x) = true := fun x hx => by
        have q := ha x hx
        rw [comm_TL ho] at q
        exact cmF_of q
      have g1 := get _ (.head _)
      have g2 := get _ (.tail _ (.head _))
      have g3 := get _ (.tail _ (.tail _ (.head _)))
      have g4 := get _ (.tail _ (.tail _ (.tail _ (.head _))))
      have g5 := get _ (.tail _ (.tail _ (.tail _ (.tail _ (.head _)))))
      have ed : TL (dblS o) = dblL (TL o) := dblS_list o
      simp only [TL_app, z_TL, zq_TL, qz_TL, ed] at g1 g2 g3 g4 g5
      have q := back ho hp (by unfold all5; rw [g1, g2, g3, g4, g5]; rfl)
      rw [hs] at q
      cases q
  · rw [List.all_eq_true]
    intro x _
    rw [comm_TL ho]
    exact fwd ho hs _
theorem par_dbl : ∀ (l y : List Nat), parseL (dblL l ++ y) = l ++ parseL y
  | [], y => rfl
  | c :: r, y => by
    show parseL ((if c = 34 then 34 :: 34 :: dblL r else c :: dblL r) ++ y) = _
    by_cases hc : c = 34
    · rw [if_pos hc, List.cons_append, List.cons_append, par_mm, par_dbl r y, hc]; rfl
    · rw [if_neg hc, List.cons_append, parseL_other hc, par_dbl r y]; rfl
theorem parse_first (o : PySem.Str) : (parseS ((PySem.Str.ofString "z" ++ dblS o) ++ PySem.Str.ofString "z") != (PySem.Str.ofString "z" ++ o) ++ PySem.Str.ofString "z") = false := by
  have ed : TL (dblS o) = dblL (TL o) := dblS_list o
  have e : parseS ((PySem.Str.ofString "z" ++ dblS o) ++ PySem.Str.ofString "z") = (PySem.Str.ofString "z" ++ o) ++ PySem.Str.ofString "z" := by
    refine TL_inj ?_
    rw [par_TL]
    simp only [TL_app, z_TL, ed]
    show parseL (122 :: (dblL (TL o) ++ [122])) = 122 :: (TL o ++ [122])
    rw [parseL_other (by decide), par_dbl]
    rfl
  rw [e]
  exact bne_self_eq_false _
end Mine
namespace Mine
set_option maxRecDepth 100000
set_option maxHeartbeats 8000000
local macro_rules | `(tactic| walk_at "call ref") => `(tactic| (k_here; (with_reducible show wpAny _ _ (call (Value.ref 60) [_, Value.int (1 + _) _]) _ _ _); k_dflt
  (refine' t_word1 ?k1 ?k2 ?k3 ?k4 ?k5 ?kK ?kd ?ku ?kp ?_; (case k1 => k_asm); (case k2 => k_asm); (case k3 => k_asm); (case k4 => k_asm); (case k5 => k_asm); (case kK => first | exact rfl | assumption); (case kd => ktr_room); (case ku => ktr_units); (case kp => exact Nat.succ_pos _); intro b9 t9 h9 tk9 F9 N9 hl9 hm9 hn9 ok9 to9); (try dsimp only); (try k_fold)))
local macro_rules | `(tactic| walk_at "call ref") => `(tactic| (k_here; (with_reducible show wpAny _ _ (call (Value.ref 60) [_, Value.int (Int.fmod _ _) _]) _ _ _); k_dflt
  (refine' t_word0 ?k1 ?k2 ?k3 ?k4 ?k5 ?kK ?kd ?ku ?kp ?kq ?_; (case k1 => k_asm); (case k2 => k_asm); (case k3 => k_asm); (case k4 => k_asm); (case k5 => k_asm); (case kK => first | exact rfl | assumption); (case kd => ktr_room); (case ku => ktr_units); (case kp => assumption); (case kq => (try dsimp only); omega); intro b9 t9 h9 tk9 F9 N9 hl9 hm9 ok9 to9 tp9; (rename TokLo _ _ => hz9); clear hz9); (try dsimp only); (try k_fold)))
local macro_rules | `(tactic| walk_at "call ref") => `(tactic| (k_here; (with_reducible show wpAny _ _ (call (Value.ref 65) _) _ _ _); k_dflt
  (refine' k_doubled ?k1 ?k2 ?k3 ?k4 ?k5 ?kK ?kx ?kd ?ku ?_; (case k1 => k_asm); (case k2 => k_asm); (case k3 => k_asm); (case k4 => k_asm); (case k5 => k_asm); (case kK => first | exact rfl | assumption); (case kd => ktr_room); (case ku => ktr_units); (case kx => first | exact lenF (by assumption) | exact lenG (by assumption)); intro t9 h9 tk9 F9 N9 hl9; clear hl9); (try dsimp only); (try k_fold)))
local macro_rules | `(tactic| walk_at "call ref") => `(tactic| (k_here; (with_reducible show wpAny _ _ (call (Value.ref 72) _) _ _ _); k_dflt
  (refine' k_spared ?k1 ?k2 ?k3 ?k4 ?k5 ?kK ?kx ?ky ?kd ?ku ?_; (case k1 => k_asm); (case k2 => k_asm); (case k3 => k_asm); (case k4 => k_asm); (case k5 => k_asm); (case kK => first | exact rfl | assumption); (case kd => ktr_room); (case ku => ktr_units); (case kx => assumption); (case ky => assumption); intro h9 tk9 F9 N9); (try dsimp only); (try k_fold)))
local macro_rules | `(tactic| walk_at "call ref") => `(tactic| (k_here; (with_reducible show wpAny _ _ (call (Value.ref 46) _) _ _ _); k_dflt
  (refine' k_parse ?k1 ?k2 ?k3 ?k4 ?k5 ?kK ?kx ?kd ?ku ?_; (case k1 => k_asm); (case k2 => k_asm); (case k3 => k_asm); (case k4 => k_asm); (case k5 => k_asm); (case kK => first | exact rfl | assumption); (case kd => ktr_room); (case ku => ktr_units); (case kx => first | exact lenA (by assumption) | exact lenB (by assumption) (by assumption) | exact lenC (by assumption)); intro t9 h9 tk9 F9 N9 hl9); (try dsimp only); (try k_fold)))
local macro_rules | `(tactic| walk_at "call ref") => `(tactic| (k_here; (with_reducible show wpAny _ _ (call (Value.ref 53) _) _ _ _); k_dflt
  (refine' k_replace ?k1 ?k2 ?k3 ?k4 ?k5 ?kK ?kx ?ky ?kz ?k0 ?kd ?ku ?_; (case k1 => k_asm); (case k2 => k_asm); (case k3 => k_asm); (case k4 => k_asm); (case k5 => k_asm); (case kK => first | exact rfl | assumption); (case kd => ktr_room); (case ku => ktr_units); (case kx => first | exact lenD (by assumption) | exact lenE (by assumption) (by assumption)); (case ky => assumption); (case kz => assumption); (case k0 => assumption); intro t9 h9 tk9 F9 N9 hl9); (try dsimp only); (try k_fold)))
local macro_rules | `(tactic| walk_at "CompSrc") => `(tactic| (k_here; k_dflt (refine LCg.CompSrc.ledger (by rfl) (by k_asm) (by k_asm) (by k_mem) (by kcf_size) ?_; intro g'; (refine' kct_list (fun k => PySem.Txt.item (PySem.Str.ofString "ab\"") (k.fmod 3)) (by first | assumption | l_ints) (fun k' t' I' oI' C' oC' D' m' ys' h' tk' E' hk' hC' hx' F' N' off' ne' => ?_) ?_); (all_goals (try (simp only [LCg.Off3, and_true] at off'))); (all_goals (try ((show KPfMark → _); intro hMark'))); kcf_last)))
local macro_rules | `(tactic| walk_at "subscriptTail Name Constant ref int") => `(tactic| (k_here; (with_reducible show wpAny _ _ (subscriptTail _ _ (Value.ref _) (Value.int _ _)) _ _ _); k_dflt (refine' num_item (News.isList (by k_asm) (by k_mem)) (by assumption) ?k3 ?k4 (nums_len _) ?_ ?k5; (case k3 => decide); (case k4 => decide); (case k5 => with_unfolding_all rfl)); intro n8 t8))
local macro_rules | `(tactic| walk_at "binaryOp Add str str") => `(tactic| (k_here; (with_reducible show wpAny _ _ (binaryOp Operator.Add (Value.str (PySem.Str.ofString "\"") _) (Value.str _ _)) _ _ _); k_dflt (first
  | (refine' add_q2 ?kx ?ko ?kt ?kp ?_; (case kx => assumption); (case ko => assumption); (case kt => exact rfl); (case kp => assumption); (rename TokLo _ _ => hz9); clear hz9)
  | (refine' add_q1 ?kn ?kx ?ko ?kt ?_; (case kn => assumption); (case kx => assumption); (case ko => assumption); (case kt => exact rfl))); intro r8 t8 k8 ok8 hl8 hn8 ht8; (try dsimp only)))
local macro_rules | `(tactic| walk_at "ite") => `(tactic| (k_here; with_reducible first | refine ite_ffEq (parse_first _) ?_ | refine ite_ffEq (bne_self' _) ?_ | refine ite_ffEq (bne_selfB _) ?_ | refine ite_ffEq (by assumption) ?_))
local macro_rules | `(tactic| walk_at "call builtin:len") => `(tactic| (k_here; (with_reducible show wpAny _ _ (call (Value.builtin "len") [Value.ref _]) _ _ _); (refine' len_ints_fit ?k1 ?k2 ?k3 ?_; (case k1 => is_list); (case k2 => assumption); (case k3 => omega))))
local macro_rules | `(tactic| walk_at "call builtin:str.join") => `(tactic| (k_here; (with_reducible show wpAny _ _ (call (Value.builtin "str.join") [Value.str _ _, Value.ref _]) _ _ _); (with_reducible rename CarriedAll _ (List.map _ _) => ktC); (refine join_d (by first | assumption | is_list | exact News.isList (by k_asm) (by k_mem)) ktC (by intro ktA ktM; kct_one) (by omega) ?_; intro d7 t7 k7 hd7)))
local macro_rules | `(tactic| walk_at "call builtin:str.replace") => `(tactic| (k_here; (with_reducible show wpAny _ _ (call (Value.builtin "str.replace") [Value.str _ _, Value.str _ _, Value.str _ _]) _ _ _); k_dflt (refine' str_rep ?hx ?hz ?ht (none_booked ?hX) ?_; (case hx => assumption); (case hz => assumption); (case ht => assumption); (case hX => k_in)); intro t6 k6))
local macro_rules | `(tactic| walk_at "exec For Name Name cons nil") => `(tactic| (k_here; (rename Fr _ _ _ _ => lF'); (with_unfolding_all refine' For_invVF lF' ?k1 ?k2 ?_; (case k1 => exact rfl); (case k2 => exact rfl); k_whole)))
local macro_rules | `(tactic| walk_at "pyIter ref") => `(tactic| (k_here; (with_reducible show wpAny _ _ (pyIter (Value.ref _)) (fun it s₂ => LoopAtV _ _ _ _ _ _ _ _ _ it s₂) _ _); (rename Fr _ _ _ _ => lF'); (rename News _ _ _ _ => lN'); k_dflt ((with_unfolding_all refine' iter_J (LoopJ _ _ _ _ _ _) ?hh lF' lN' ?hm ?hc ?hd ?hs ?hJ ?hlen (fun done' x' t' I' it' h' tk' m' hI' hx' hJ' hc' Fz N' => ?_) (fun h' tk' m' hJ' Fz N' => ?_)); (case hh => exact rfl); (case hm => k_mem); (case hc => exact rfl); (case hd => with_unfolding_all exact rfl); (case hJ => refine And.intro ?_ (And.intro ?_ (And.intro ?_ ?_)) <;> exact rfl); (case hs => with_unfolding_all exact .cons _ _ (.cons _ _ (.cons _ _ (.cons _ _ (.cons _ _ (.cons _ _ (.cons _ _ .nil))))))); (case hlen => exact texts_len (by assumption) (by assumption)); (all_goals ((first | have F' := loop_frT hJ' Fz | have F' := loop_frE hJ' (law_all _ _ _ (by first | exact Or.inl ⟨⟨by assumption, by assumption⟩, by assumption, by assumption⟩ | exact Or.inr ⟨by assumption, by assumption⟩) (by assumption)) Fz); clear Fz; (try dsimp only); (try k_fold))))))
local macro_rules | `(tactic| walk_at "subscriptTail") => `(tactic| (k_here; (with_reducible show wpAny _ _ (subscriptTail (PySem.Expr.List _ _) (PySem.Expr.Slice (some _) none none _) (Value.ref _) (Value.ref _)) _ _ _); k_dflt (refine kba_turn (value' := PySem.Expr.Name (PySem.Str.ofString "_") ⟨0, 0, 0, 0⟩) (fun _ => rfl) ?_)))
local macro_rules | `(tactic| walk_at "subscriptTail Name Slice ref ref") => `(tactic| (k_here; (with_reducible show wpAny _ _ (subscriptTail _ (PySem.Expr.Slice (some _) none none _) (Value.ref _) (Value.ref _)) _ _ _); k_dflt (refine' kmk_slice_ints ?yF ?yN ?yl ?yp ?yq ?yi ?ym ?yc ?_ ?ys ?yt ?yz; (case yF => k_asm); (case yN => k_asm); (case yl => exact News.isList (by k_asm) (by k_mem)); (case yp => exact IsPart.int _ _); (case yq => exact IsPart.none); (case yi => l_ints); (case ym => exact kmk_from (by l_ints) (by omega)); (case yc => exact List.length_drop ..); (case ys => with_unfolding_all rfl); (case yt => intro _; with_unfolding_all rfl); (case yz => exact Nat.le_of_ble_eq_true rfl)); intro D' ws' h' F' N' l1 hI' hC' hL'; (try k_lt l1); (try k_sweep)))
local macro_rules | `(tactic| walk_at "UnrEnd") => `(tactic| (k_here; k_dflt ((refine' UnrEnd.intro ?zF ?zN _ ?zs ?zo ⟨rfl, ?zr⟩); (case zF => k_asm); (case zN => k_asm); (case zs => exact fun _ hp => hp); (case zo => assumption); (case zr => first | exact loop_end0 (by assumption) rfl rfl rfl rfl | exact loop_end1 (by assumption) rfl rfl rfl rfl))))
local macro_rules | `(tactic| walk_at "execs cons") => `(tactic| (k_here; (rename TokLo _ _ => hz9); (with_reducible show wpAny _ _ (execs _ _) _ _ (Shared.mk _ _ _ (_ + _) _)); (refine gen_toks ?_); intro tk htk))
local macro_rules | `(tactic| walk_at "binaryOp Add str str") => `(tactic| (k_here; (with_reducible show wpAny _ _ (binaryOp Operator.Add (Value.str _ _) (Value.str _ _)) _ _ _); (fail_if_success (with_reducible show wpAny _ _ (binaryOp Operator.Add (Value.str (PySem.Str.ofString "\"") _) (Value.str _ _)) _ _ _)); (refine' addB ?hx ?hy ?hn ?_; (case hx => with_reducible repeat' (first | exact bd_z | exact bd_zq | exact bd_qz | exact bd_pre | exact bd_4 (by assumption) | exact bd_8 (by assumption) | exact bd_40 (by assumption) | exact bd_rep (by assumption) (by assumption) | refine' bd_app ?_ ?_ | refine' bd_dbl ?_)); (case hy => with_reducible repeat' (first | exact bd_z | exact bd_zq | exact bd_qz | exact bd_pre | exact bd_4 (by assumption) | exact bd_8 (by assumption) | exact bd_40 (by assumption) | exact bd_rep (by assumption) (by assumption) | refine' bd_app ?_ ?_ | refine' bd_dbl ?_)); (case hn => with_unfolding_all exact rfl)); intro t8 k8; (try dsimp only)))
theorem walk : PySem.Challenge.rw_pg0020_01.Holds := hd (by
  k_go0
  (all_goals try k_fold)
  k_steps)
end Mine
theorem PySem.Challenge.cw_pg0020_01_holds : PySem.Challenge.rw_pg0020_01.Holds := by
  exact Mine.walk
