import PyProof.Rows.All
import Wide.All
import OpenK.AllK
import Wide.FinOn
import Lean
import PySem.Challenge.RW_pg0207_01
open PySem PySem.W PySem.Spec PySem.Calls PyProof.Rows
set_option Elab.async false
set_option compiler.extract_closed false
-- LT
namespace Mine
set_option maxRecDepth 100000 in
set_option maxHeartbeats 8000000 in
open_top hd for PySem.Challenge.rw_pg0207_01
end Mine
-- open_top leaves the walk's mode «top» on; the parts were built with it off
theorem Mine.top_off : True := by
  w_top off
  exact True.intro
-- MTxt
namespace Mine
open PySem.Builtin PySem.Builtin.Str
theorem slice_all (x : PySem.Str) : Txt.slice x (some 0) (some (x.length : Int)) = x := by
  have h := beq_iff_eq.mp (slice_closes (x := x) (i := 0) (j := (x.length : Int)) ⟨Int.le_refl _, Int.natCast_nonneg _, by simp [PySem.Str.length]⟩)
  rw [h]
  obtain ⟨⟨l⟩⟩ := x
  simp [PySem.Str.length]
theorem slice_to {x : PySem.Str} {j : Int} (h0 : 0 ≤ j) (h1 : j ≤ x.length) : Txt.slice x none (some j) = ⟨(x.cps.toList.take j.toNat).toArray⟩ := by
  have h := beq_iff_eq.mp (slice_closes_to (x := x) (j := j) ⟨h0, by simpa [PySem.Str.length] using h1⟩)
  rw [h]
  simp
theorem slice_from {x : PySem.Str} {i : Int} (h0 : 0 ≤ i) (h1 : i ≤ x.length) : Txt.slice x (some i) none = ⟨(x.cps.toList.drop i.toNat).toArray⟩ := by
  have h := beq_iff_eq.mp (slice_closes_from (x := x) (i := i) ⟨h0, by simpa [PySem.Str.length] using h1⟩)
  rw [h]
  congr 2
  apply List.take_of_length_le
  simp only [List.length_drop, PySem.Str.length, Array.length_toList] at *
  omega
theorem takeWhile_nil_of {p : Nat → Bool} : ∀ {l : List Nat}, (∀ c ∈ l, p c = false) → l.takeWhile p = []
  | [], _ => rfl
  | c :: r, h => by rw [List.takeWhile_cons, h c (.head _)]; rfl
theorem dropWhile_id_of {p : Nat → Bool} : ∀ {l : List Nat}, (∀ c ∈ l, p c = false) → l.dropWhile p = l
  | [], _ => rfl
  | c :: r, h => by rw [List.dropWhile_cons, h c (.head _)]; rfl
theorem not_space {c : Nat} (h : 48 ≤ c ∧ c ≤ 57) : Unicode.isSpace c = false := by
  have : ∀ d : Nat, d < 10 → Unicode.isSpace (48 + d) = false := by decide +kernel
  have h2 := this (c - 48) (by omega)
  rwa [show 48 + (c - 48) = c by omega] at h2
theorem rstrip_digits {x : PySem.Str} (h : ∀ c ∈ x.cps.toList, 48 ≤ c ∧ c ≤ 57) : Txt.rstrip x = x := by
  unfold Txt.rstrip
  rw [PyProof.Rows.stripBy_eq]
  have e : stripHi Unicode.isSpace true x (stripLo Unicode.isSpace false x) = x.length := by
    simp only [stripHi, stripLo, if_true, Bool.false_eq_true, if_false, List.drop_zero]
    rw [takeWhile_nil_of fun c hc => not_space (h c (List.mem_reverse.mp hc))]
    rfl
  rw [e]
  show strSub x 0 x.length = x
  exact strSub_whole x
theorem occ_digits {x : PySem.Str} (h : ∀ c ∈ x.cps.toList, 48 ≤ c ∧ c ≤ 57) : (occurrences x ⟨#[95]⟩ 0 x.length (x.length + 1)).isEmpty = true := by
  rcases StrLaws.occ_head x ⟨#[95]⟩ (x.length + 1) (by omega) with ⟨e, _⟩ | ⟨i, r, e, hat, _⟩
  · rw [e]; rfl
  · exfalso
    obtain ⟨h1, h2⟩ := hat
    rw [StrLaws.subAt_eq] at h2
    have h3 := beq_iff_eq.mp h2
    have h4 : (95 : Nat) ∈ (x.cps.toList.drop i).take (⟨#[95]⟩ : PySem.Str).length := by rw [h3]; exact List.mem_singleton.mpr rfl
    have h5 := h 95 (List.mem_of_mem_drop (List.mem_of_mem_take h4))
    omega
theorem lstrip_zeros (x : PySem.Str) : Txt.lstripChars x ⟨#[48]⟩ = ⟨(x.cps.toList.dropWhile (· == 48)).toArray⟩ := by
  unfold Txt.lstripChars
  rw [PyProof.Rows.stripBy_eq]
  simp only [stripHi, stripLo, if_true, Bool.false_eq_true, if_false]
  have ef : (#[48] : Array Nat).contains = fun c : Nat => c == 48 := by
    funext c
    simp [Array.contains, Bool.eq_iff_iff, eq_comm]
  rw [ef]
  obtain ⟨⟨l⟩⟩ := x
  simp only [strSub, PySem.Str.length, List.size_toArray]
  have e : ∀ l : List Nat, l.drop (l.takeWhile (fun c => c == 48)).length = l.dropWhile (fun c => c == 48) := by
    intro l
    induction l with
    | nil => rfl
    | cons c r ih =>
      rw [List.takeWhile_cons, List.dropWhile_cons]
      cases h : c == 48
      · rfl
      · exact ih
  rw [← e]
  simp
  apply List.take_of_length_le
  rw [List.length_drop]
  exact Nat.le_refl _
section
variable {prog : Program} {w : World} {A : Around} {E : Value → Shared → Prop} {s : Shared} {Q : Value → Shared → Prop} {x y : PySem.Str} {t : Tok}
/-- int(text) of a text of figures, the text given up to an equation -/
theorem int_digits (e : y = x) (hd : NumText.AllDigits x.cps.toList) (h1 : x.cps.toList ≠ []) (h2 : x.length ≤ 640) (h : Q (.int ((NumText.digitsVal x.cps.toList : Nat) : Int) s.toks) { s with toks := s.toks + 1 }) :
    wpAny (model prog w) A (call (.type "int") [.str y t]) Q E s := by
  subst e
  exact KIN.call_text (PySem.intText_digits hd h1 (by omega)) h2 h
theorem replace_free (e : y = x) (hd : ∀ c ∈ x.cps.toList, 48 ≤ c ∧ c ≤ 57) {z : PySem.Str} {u v : Tok} (h : ∀ t', Q (.str x t') s) :
    wpAny (model prog w) A (call (.builtin "str.replace") [.str y t, .str (PySem.Str.ofString "_") u, .str z v]) Q E s := by
  subst e
  have e1 : PySem.Str.ofString "_" = ⟨#[95]⟩ := by decide +kernel
  rw [e1]
  have hc : ((occurrences y ⟨#[95]⟩ 0 y.length (y.length + 1)).isEmpty || ((⟨#[95]⟩ : PySem.Str).length == 0 && z.length == 0)) = true := by rw [occ_digits hd]; rfl
  refine call_gives F.slot_str_replace (typeIs_str _ _ _) F.entry_str_replace (F.args_str_replace_3 _ _ _)
    (gives_str_replace y ⟨#[95]⟩ z t u v fun hf => absurd hf (by rw [hc]; exact Bool.noConfusion)) ?_
  rw [if_pos hc]
  exact h t
end
end Mine
-- LM
namespace Mine
def TailLt (news : List (Addr × Obj)) (d : Nat) : Prop := ∀ p ∈ news, p.1 < d
theorem TailLt.ne {news : List (Addr × Obj)} {d e : Nat} (h : TailLt news d) (hle : d ≤ e) : ∀ p ∈ news, p.1 ≠ e := fun p hp q => absurd (h p hp) (by rw [q]; exact Nat.not_lt.mpr hle)
theorem TailLt.of0 {news : List (Addr × Obj)} {d : Nat} (h : ∀ p ∈ news, p.1 < d) : TailLt news d := h
theorem TailLt.cut {x : Addr × Obj} {news : List (Addr × Obj)} {d : Nat} (h : TailLt (x :: news) d) : TailLt news d := fun p hp => h p (.tail _ hp)
end Mine
open Mine
local macro_rules | `(tactic| walk_at "mi enter") => `(tactic| first
  | (refine' code_def ?k1 ?k2 ?k3 ?k4 ?k5 ?kA ?kF ?kK ?k6 ?k7 ?k8 ?k9 ?kB ?_ ?c2 ?c3 ?c4 ?c5; (case kA | kF => exact rfl); (case kK => assumption); (case k1 | k2 => k_asm); (case k3 | k4 | k5 => k_asm); (case k6 | k7 => k_is); (case k8 => ktr_room); (case k9 => first | exact BindsTo.of_eq rfl | exact binds_K (by k_in) rfl (by k_is) rfl rfl rfl); (case c5 => decide); (case kB => exact locs rfl); (case c2 | c3 | c4 => exact rfl); k_whole; intro g' L' h' FG' F' N' B' X' T'; (try dsimp only); (try k_lift B'); (try k_fold))
  | (refine' code_defC ?k1 ?k2 ?k3 ?k4 ?k5 ?kA ?kF ?kK ?k6 ?k7 ?k8 ?k9 ?kB ?kD ?_ ?c2 ?c3 ?c4; (case kA | kF => exact rfl); (case kK => assumption); (case k1 | k2 => k_asm); (case k3 | k4 | k5 => k_asm); (case k6 | k7 => k_is); (case k8 => ktr_room); (case k9 => first | exact BindsTo.of_eq rfl | exact binds_K (by k_in) rfl (by k_is) rfl rfl rfl); (case kB => exact rfl); (case kD => decide +kernel); (case c2 | c3 | c4 => exact rfl); k_whole; intro g' L' h' tk' cells' FG' F' N' Y' B' X' T' l1; (have hT9 := TailLt.of0 l1); (repeat (replace hT9 := TailLt.cut hT9)); (try k_lt l1); k_cells Y'; (try simp only [List.cons_append, List.nil_append] at N'); (try dsimp only); (try k_lift B'); (try k_fold)))
-- MSet
namespace Mine
section
variable {prog : Program} {w : World} {A : Around} {E : Value → Shared → Prop} {s : Shared} {a : Addr}

theorem truthy_set {o : Obj} {es : Array (Int × Value)} {ep : Nat} {t : SetTable} {Q : Bool → Shared → Prop}
    (ho : s.heap.get? a = some o) (hex : o.ExactSet) (hd : o.data = .set es ep t) (hf : t.fits es.size = true) (hfit : (es.size : Int) < 2 ^ 63)
    (h : Q (!es.isEmpty) { s with toks := s.toks + 1 + 1 }) : wpAny (model prog w) A (truthy (.ref a)) Q E s := by
  have hT : s.TypeIs (.ref a) "set" := ⟨o, ho, hex.1⟩
  have hne : ((es.size : Int) != 0) = !es.isEmpty := by
    unfold Array.isEmpty
    rcases Nat.eq_zero_or_pos es.size with e | e
    · rw [e]; rfl
    · have h1 : ((es.size : Int) != 0) = true := bne_iff_ne.mpr (by omega)
      rw [h1, decide_eq_false (by omega)]; rfl
  have key : wpAny (model prog w) A (runValue (.builtin "len" ⟨[.ref a], []⟩)) (fun r s' => r = .int es.size (s.toks + 1) ∧ Q (!es.isEmpty) s') E s := by
    refine wpAny_runValue (codeAny_builtin entry_len ?_)
    rw [Around.under_plainId plain_len _]
    exact wpAny_mono (wpAny_len_body_set (Q := fun r s' => r = .int es.size (s.toks + 1) ∧ Q (!es.isEmpty) s') ho hex hd hf hfit ⟨rfl, h⟩)
      (fun fin s' h' => by obtain ⟨r, rfl, hq⟩ := h'; exact hq) fun _ _ e => e
  unfold truthy
  first
    | refine wpAny_bind (wpAny_callSpecial?_none (name := Str.ofString "__bool__") hT PySem.W.noBool_set ?_)
    | refine wpAny_bind (wpAny_pure (wpAny_bind (wpAny_callSpecial?_none (name := Str.ofString "__bool__") hT PySem.W.noBool_set ?_)))
  first
    | refine wpAny_bind (wpAny_specialOf (name := Str.ofString "__len__") hT F.slot_set_len.lookup ?_)
    | refine wpAny_bind (wpAny_pure (wpAny_bind (wpAny_specialOf (name := Str.ofString "__len__") hT F.slot_set_len.lookup ?_)))
  first
    | exact wpAny_bind (wpAny_mono key (fun r s' h' => by obtain ⟨rfl, hq⟩ := h'; exact wpAny_pure (hne ▸ hq)) fun _ _ e => e)
    | exact wpAny_bind (wpAny_pure (wpAny_bind (wpAny_mono key (fun r s' h' => by obtain ⟨rfl, hq⟩ := h'; exact wpAny_pure (hne ▸ hq)) fun _ _ e => e)))

theorem getMethod_set_pop {K : Type} [DecidableEq K] {knd : KeyKind prog w K} {S : K → Bool} {n : Nat} {pl : Sem Bool} {Q : Value × List Value → Shared → Prop} (hS : s.heap.SetOf knd a S n) (h : Q (.builtin "set.pop", [.ref a]) s) :
    wpAny (model prog w) A (getMethod (.ref a) "pop" pl) Q E s :=
  getMethod_builtin hS.typeIs F.plainAttrs_set F.slot_set_pop F.type_set_pop hS.noDict h

theorem choose_one {src : Source} {Q : Nat → Shared → Prop} (h : Q 0 { s with drawn := s.drawn.bump src }) : wpAny (model prog w) A (choose src 1) Q E s := fun Γ p _ => by
  show Sem.wp _ Γ (Sem.choose src 1 Sem.pure) _ _ p s
  rw [Sem.wp_choose]
  refine ⟨by decide, ?_⟩
  rw [Sem.wp_pure, Nat.mod_one]
  exact h

theorem popped_fits {t : SetTable} (hf : t.fits 1 = true) : (t.popped 0).fits 0 = true := by
  simp only [SetTable.fits, SetTable.fill, Bool.and_eq_true, beq_iff_eq, decide_eq_true_eq] at hf ⊢
  obtain ⟨h1, h2⟩ := hf
  have h3 : t.place[0]? = some (t.place[0]'(by omega)) := Array.getElem?_eq_getElem _
  simp only [SetTable.popped, SetTable.drop, h3, SetTable.eraseAt, SetTable.insertAt, Array.size_append, Array.size_extract, Array.size_push]
  constructor
  · omega
  · have h4 := of_decide_eq_true h2
    exact decide_eq_true (by omega)

theorem setPop_one {o : Obj} {x : Value} {hx : Int} {ep : Nat} {t : SetTable} {Q : Option Value → Shared → Prop}
    (ho : s.heap.get? a = some o) (hd : o.data = .set #[(hx, x)] ep t) (hf : t.fits 1 = true)
    (h : ∀ dr, Q (some x) { s with heap := s.heap.update a (Obj.putSet #[] (t.popped 0)), drawn := dr }) :
    wpAny (model prog w) A (setPop a) Q E s := by
  have hp : t.popPlace = some 0 := by
    simp only [SetTable.fits, Bool.and_eq_true, beq_iff_eq] at hf
    unfold SetTable.popPlace
    have h1 : t.place.isEmpty = false := by
      unfold Array.isEmpty; rw [hf.1]; rfl
    rw [h1]
    simp only [Bool.false_eq_true, if_false, hf.1]
    split
    · rename_i h2
      congr 1; omega
    · rfl
  have tail : ∀ s₁ : Shared, s₁.heap = s.heap → Q (some x) { s₁ with heap := s.heap.update a (Obj.putSet #[] (t.popped 0)) } →
      wpAny (model prog w) A (do
        let some (_, x) := (#[(hx, x)] : Array (Int × Value))[0]? | unsupported "internal:set.pop"
        storeSet a (SetTable.eraseAt #[(hx, x)] 0) (t.popped 0)
        return some x) Q E s₁ := by
    intro s₁ e hq
    show wpAny _ _ (do
        storeSet a (SetTable.eraseAt #[(hx, x)] 0) (t.popped 0)
        return some x) Q E s₁
    refine wpAny_bind (wpAny_storeSet_of (s := s₁) (by rw [e]; exact ho) hd (wpAny_pure ?_) (by show 0 ≤ sizeLine; exact Nat.zero_le _))
    rw [e]; exact hq
  unfold setPop
  refine wpAny_bind (wpAny_setState_of ho hd hf ?_)
  dsimp only
  rw [hp]
  dsimp only
  unfold setsByText
  refine wpAny_bind (wpAny_bind (wpAny_askSetting (wpAny_pure ?_)))
  split
  · refine wpAny_bind ?_
    show wpAny _ _ (choose .order 1) _ _ _
    exact choose_one (tail _ rfl (h _))
  · refine wpAny_bind ?_
    obtain ⟨mask, place, dummies, finger, led, moves, plain⟩ := t
    cases led with
    | true => with_unfolding_all exact wpAny_pure (a := ()) (tail _ rfl (h _))
    | false => with_unfolding_all exact wpAny_pure (a := ()) (tail _ rfl (h _))

theorem call_set_pop {o : Obj} {x : Value} {hx : Int} {ep : Nat} {t : SetTable} {Q : Value → Shared → Prop}
    (ho : s.heap.get? a = some o) (hex : o.ExactSet) (hd : o.data = .set #[(hx, x)] ep t) (hf : t.fits 1 = true)
    (h : ∀ dr, Q x { s with heap := s.heap.update a (Obj.putSet #[] (t.popped 0)), drawn := dr }) :
    wpAny (model prog w) A (call (.builtin "set.pop") [.ref a]) Q E s := by
  have hT : s.TypeIs (.ref a) "set" := ⟨o, ho, hex.1⟩
  refine wpAny_call_entry F.slot_set_pop hT F.entry_set_pop ?_ (F.args_set_pop_1 _)
  unfold Builtin.«set.pop» Builtin.Frozenset.noArgs
  simp only [List.isEmpty_nil, bind_assoc]
  unfold Builtin.Frozenset.addrOf
  refine wpAny_bind (wpAny_pure ?_)
  try dsimp only
  refine wpAny_bind (setPop_one ho hd hf fun dr => ?_)
  dsimp only
  exact wpAny_pure ⟨_, rfl, h dr⟩
end
section
variable {prog : Program} {w : World} {A : Around} {E : Value → Shared → Prop} {s : Shared} {h₀ : Heap} {L sa : Addr} {m : Str → Option Value} {news : List (Addr × Obj)} {g : Obj → List (Addr × Obj)} {so : Obj}
theorem truthy_set0 {S : Int → Bool} {Q : Bool → Shared → Prop} (N : News h₀ L s.heap news) (hm : (sa, so) ∈ news) (hso : so.SetObjOf (intKind prog w) S 0) (h : Q false { s with toks := s.toks + 1 + 1 }) :
    wpAny (model prog w) A (truthy (.ref sa)) Q E s := by
  obtain ⟨hex, es, ep, t, hd, _, _, hn, hf⟩ := hso
  have e : es = #[] := Array.eq_empty_of_size_eq_zero hn
  subst e
  exact truthy_set (N _ hm).1 hex hd hf (by decide) h
theorem truthy_set1 {S : Int → Bool} {n : Nat} {Q : Bool → Shared → Prop} (N : News h₀ L s.heap news) (hm : (sa, so) ∈ news) (hso : so.SetObjOf (intKind prog w) S n) (h0 : 0 < n) (hfit : (n : Int) < 2 ^ 63) (h : Q true { s with toks := s.toks + 1 + 1 }) :
    wpAny (model prog w) A (truthy (.ref sa)) Q E s := by
  obtain ⟨hex, es, ep, t, hd, _, _, hn, hf⟩ := hso
  subst hn
  refine truthy_set (N _ hm).1 hex hd hf hfit ?_
  have e : (!es.isEmpty) = true := by
    unfold Array.isEmpty
    rw [decide_eq_false (by omega)]; rfl
  rw [e]; exact h
theorem set_getPop {S : Int → Bool} {n : Nat} {pl : Sem Bool} {Q : Value × List Value → Shared → Prop} (N : News h₀ L s.heap news) (hm : (sa, so) ∈ news) (hso : so.SetObjOf (intKind prog w) S n) (hb : n < scanBound) (h : Q (.builtin "set.pop", [.ref sa]) s) :
    wpAny (model prog w) A (getMethod (.ref sa) "pop" pl) Q E s := getMethod_set_pop (hso.setOf (N _ hm).1 hb) h
theorem set_pop1 {S : Int → Bool} {n : Int} {Q : Value → Shared → Prop} (F : Fr h₀ L s.heap m) (N : News h₀ L s.heap news) (U : UpdF sa so news g) (hso : so.SetObjOf (intKind prog w) S 1) (hS : S n = true)
    (h : ∀ h' so' t dr, Fr h₀ L h' m → News h₀ L h' (g so') → so'.SetObjOf (intKind prog w) (fun _ => false) 0 → Q (.int n t) { s with heap := h', drawn := dr }) :
    wpAny (model prog w) A (call (.builtin "set.pop") [.ref sa]) Q E s := by
  obtain ⟨pre, post, rfl, hg, a, b⟩ := U.split
  have hm := N (sa, so) (List.mem_append_right _ (.head _))
  obtain ⟨hex, es, ep, t, hd, hel, hmem, hn, hf⟩ := hso
  obtain ⟨e, he, hk⟩ := (hmem n).mp hS
  obtain ⟨l⟩ := es
  have hl : l = [e] := by
    simp only [List.size_toArray] at hn
    obtain ⟨x, rfl⟩ := List.length_eq_one_iff.mp hn
    simp only [List.mem_singleton] at he
    rw [he]
  subst hl
  obtain ⟨hx, x⟩ := e
  obtain ⟨tk, e⟩ := Value.isInt_shape hk
  subst e
  refine call_set_pop hm.1 hex hd hf fun dr => ?_
  have hnew : (s.heap.update sa (Obj.putSet #[] (t.popped 0))).get? sa = some (Obj.putSet #[] (t.popped 0) so) := Heap.get?_update_self _ hm.1 (by
    obtain ⟨c, d, dt, sl⟩ := so
    have := hex.1
    simp only at this
    subst this
    simp only at hd
    subst hd
    rfl)
  have hsb : Heap.SameBut sa s.heap (s.heap.update sa (Obj.putSet #[] (t.popped 0))) := Heap.SameBut.update ..
  refine h _ (Obj.putSet #[] (t.popped 0) so) tk dr (F.change hsb hm.2.1 hm.2.2) (hg _ ▸ N.setIn a b hsb hnew) ?_
  rw [putSet_of _ _ hd]
  exact ⟨hex, #[], _, _, rfl, fun e he => by simp at he, fun k => by simp, rfl, popped_fits hf⟩
end
end Mine
-- MCp
namespace Mine
local macro_rules | `(tactic| walk_at "truthy ref") => `(tactic| (k_here; kse_here; k_dflt (first
  | (refine' truthy_set0 ?N ?m ?d ?_; (case N => k_asm); (case m => k_mem); (case d => k_asm); k_whole)
  | (refine' truthy_set1 ?N ?m ?d ?z ?f ?_; (case N => k_asm); (case m => k_mem); (case d => k_asm); (case z | f => decide); k_whole))))
local macro_rules | `(tactic| walk_at "getMethod ref") => `(tactic| (k_here; kse_here; (with_reducible show wpAny _ _ (getMethod (Value.ref _) (Str.ofString "pop") _) _ _ _); k_dflt (refine' set_getPop ?N ?m ?d ?z ?_; (case N => k_asm); (case m => k_mem); (case d => k_asm); (case z => kse_small); k_whole)))
local macro_rules | `(tactic| walk_at "call builtin:set.pop") => `(tactic| (k_here; kse_here; k_dflt (refine' set_pop1 ?F ?N ?U ?d ?S ?_; (case F | N => k_asm); (case U => k_updF); (case d => k_asm); (case S => simp; rfl)); intro h' o' t' dr' F' N' hs'; (try dsimp only at N')))
section
variable {prog : Program} {w : World} {p : Program} {loose : List Str} {mean : ExcName → Option Value} {mg mb : Str → Option Value}
    {dp un : Nat} {gd : Option (List Code)} {cn : Str} {cs : Scope} {a : Addr} {ccd : Value} {cl : List (Str × Addr)} {outer : List Env} {A₀ : Around} {base h₀ : Heap} {L : Addr} {m : Str → Option Value} {s : Shared} {Q E : Value → Shared → Prop} {news : List (Addr × Obj)}
set_option maxRecDepth 100000 in
set_option maxHeartbeats 8000000 in
theorem cp_spec 
    (B : Below A₀ base outer h₀) (F : Fr h₀ L s.heap m) (X : (hd.heap_39 w.params).In h₀) (N : News h₀ L s.heap news) (T : Top p loose mean mg mb h₀) (hk : cs.kind = .function)
    {n : Int} {tn t1 t2 : Tok} (hn : 0 ≤ n ∧ n ≤ 20) (hdp : dp + 1 < recursionLimit) (hun : un + 8 < cLine)
    (hret : ∀ y h' tk' dr', Fr h₀ L h' m → News h₀ L h' news → Q (.ref y) { s with heap := h', toks := tk', drawn := dr' }) :
    wpAny (model prog w) (ktrTop dp un gd cn cs L a ccd cl outer) (call (.ref 29) [.int n tn, .int 5 t1, .int 2048 t2]) Q E s := by
  refine wpAny_call ?_
  k_dflt walk_at "mi enter"
  k_steps
  all_goals (try (refine hret _ _ _ _ ?_ ?_; assumption; first | assumption | exact cb_drop (by assumption) (by kcj_all)))
end
end Mine
-- MWalk
namespace Mine
end Mine
local macro_rules | `(tactic| walk_at "mi cp") => `(tactic| (refine' Mine.cp_spec ?B ?F ?X ?N ?T ?k ?n ?d ?u ?_; (case B | F => k_asm); (case X | N | T => k_asm); (case k => first | exact rfl | assumption); (case n => (constructor <;> omega)); (case d => ktr_room); (case u => ktr_units); intro y' h' tk' dr' F' N'; (try dsimp only); (try k_fold)))
local macro_rules | `(tactic| walk_at "mi nest") => `(tactic| (refine' code_nest ?k1 ?k2 ?k3 ?k4 ?k5 ?kA ?kF ?kK ?k6 ?k7 ?k8 ?k9 ?kB ?_ ?c2 ?c3 ?c4 ?c5; (case kA | kF => exact rfl); (case kK => first | exact rfl | assumption); (case k1 | k2 => k_asm); (case k3 | k4 | k5 => k_asm); (case k6 => k_mem); (case k7 => exact codeRec_news (by k_asm) (by k_mem) (by assumption) (by assumption)); (case k8 => ktr_room); (case k9 => exact BindsTo.of_eq rfl); (case c5 => decide); (case kB => exact locs rfl); (case c2 | c3 | c4 => exact rfl); k_whole; intro g' L' h' FG' F' N' B' X' T'; (try dsimp only); (try k_lift B'); (try k_fold)))
-- MTab
namespace Mine
/-- a maker's table holds the code object of its one inner def -/
def TMade (P : Addr) (l c : Int) (qual : Str) (news : List (Addr × Obj)) : Prop :=
  ∃ c' oc vs t, (P, tabObj #[rawInt l, rawInt c, .ref c']) ∈ news ∧ (c', oc) ∈ news ∧ oc.data = .fields vs ∧ vs[1]? = some (.str qual t) ∧ @LT.lt Nat _ 109 c'
def Tab (P : Addr) (l c : Int) (qual : Str) (news : List (Addr × Obj)) : Prop := (P, tabObj #[]) ∈ news ∨ TMade P l c qual news
theorem TMade.intro {P : Addr} {l c : Int} {qual : Str} {news : List (Addr × Obj)} {c' : Addr} {oc : Obj} {vs : Array Value} {t : Tok} (h1 : (P, tabObj #[rawInt l, rawInt c, .ref c']) ∈ news) (h2 : (c', oc) ∈ news) (h3 : oc.data = .fields vs)
    (h4 : vs[1]? = some (.str qual t)) (h5 : @LT.lt Nat _ 109 c') : TMade P l c qual news := ⟨c', oc, vs, t, h1, h2, h3, h4, h5⟩
theorem TMade.keep {P P' : Addr} {l c : Int} {qual : Str} {news news' : List (Addr × Obj)} (h : TMade P l c qual news) (hk : ∀ q ∈ news, q.1 ≠ P' → q ∈ news') (h1 : P ≠ P') (h2 : P' ≤ 109) : TMade P l c qual news' := by
  obtain ⟨c', oc, vs, t, a, b, d, e, f⟩ := h
  exact ⟨c', oc, vs, t, hk _ a h1, hk _ b (fun q => absurd f (by have q' : c' = P' := q; rw [q']; exact Nat.not_lt.mpr h2)), d, e, f⟩
theorem Tab.keep {P P' : Addr} {l c : Int} {qual : Str} {news news' : List (Addr × Obj)} (h : Tab P l c qual news) (hk : ∀ q ∈ news, q.1 ≠ P' → q ∈ news') (h1 : P ≠ P') (h2 : P' ≤ 109) : Tab P l c qual news' :=
  h.elim (fun x => .inl (hk _ x h1)) fun x => .inr (x.keep hk h1 h2)
theorem Tab.mono {P : Addr} {l c : Int} {qual : Str} {news news' : List (Addr × Obj)} (h : Tab P l c qual news) (hk : ∀ q ∈ news, q ∈ news') : Tab P l c qual news' :=
  h.elim (fun x => .inl (hk _ x)) fun ⟨c', oc, vs, t, a, b, r⟩ => .inr ⟨c', oc, vs, t, hk _ a, hk _ b, r⟩
theorem TMade.mono {P : Addr} {l c : Int} {qual : Str} {news news' : List (Addr × Obj)} (h : TMade P l c qual news) (hk : ∀ q ∈ news, q ∈ news') : TMade P l c qual news' :=
  let ⟨c', oc, vs, t, a, b, r⟩ := h; ⟨c', oc, vs, t, hk _ a, hk _ b, r⟩
/-- the ledger with one entry drawn to its head -/
theorem news_front {h₀ h : Heap} {L P : Addr} {o : Obj} {news : List (Addr × Obj)} (N : News h₀ L h news) (hm : (P, o) ∈ news) :
    ∃ rest, News h₀ L h ((P, o) :: rest) ∧ (∀ q ∈ rest, q.1 ≠ P) ∧ (∀ q ∈ news, q.1 ≠ P → q ∈ rest) := by
  refine ⟨news.filter fun q => decide (q.1 ≠ P), fun q hq => ?_, fun q hq => ?_, fun q hq hn => ?_⟩
  · rcases List.mem_cons.mp hq with rfl | hq
    · exact N _ hm
    · exact N _ (List.mem_filter.mp hq).1
  · exact of_decide_eq_true (List.mem_filter.mp hq).2
  · exact List.mem_filter.mpr ⟨hq, decide_eq_true hn⟩
theorem above_K {K : Frag} {h₀ h : Heap} {L a : Addr} {o : Obj} {m : Str → Option Value} (F : Fr h₀ L h m) (X : K.In h₀) (hl : K.lookup a = some o) : a < L := Nat.lt_of_lt_of_le (Heap.lt_size (X _ _ hl)) F.above
end Mine
-- MSi
namespace Mine
local macro_rules | `(tactic| k_all) => `(tactic| first | assumption | exact TailLt.ne (by assumption) (by omega))
local macro_rules | `(tactic| walk_at "call ref") => `(tactic| (k_here; (with_reducible show wpAny _ _ (call (Value.ref 29) _) _ _ _); k_dflt walk_at "mi cp"))
local macro_rules | `(tactic| walk_at "call ref") => `(tactic| (k_here; kn_here; k_dflt (refine wpAny_call ?_; walk_at "mi nest")))
local macro_rules | `(tactic| walk_at "call type:int cons nil") => `(tactic| (k_here; (with_reducible show wpAny _ _ (call (Value.type "int") [Value.str (Txt.slice _ _ _) _]) _ _ _); k_dflt (refine' int_digits (slice_all _) ?d ?n ?l ?_; (case d | n => assumption); (case l => omega))))
local macro_rules | `(tactic| k_mem) => `(tactic| (k_dflt assumption))
section
variable {prog : Program} {w : World} {p : Program} {loose : List Str} {mean : ExcName → Option Value} {mg mb : Str → Option Value}
    {dp un : Nat} {gd : Option (List Code)} {cn : Str} {cs : Scope} {a : Addr} {ccd : Value} {cl : List (Str × Addr)} {outer : List Env} {A₀ : Around} {base h₀ : Heap} {L : Addr} {m : Str → Option Value} {s : Shared} {Q E : Value → Shared → Prop} {news : List (Addr × Obj)}
set_option maxRecDepth 100000 in
set_option maxHeartbeats 8000000 in
theorem si_spec
    (B : Below A₀ base outer h₀) (F : Fr h₀ L s.heap m) (X : (hd.heap_39 w.params).In h₀) (N : News h₀ L s.heap news) (T : Top p loose mean mg mb h₀) (hk : cs.kind = .function)
    (hC : CodeHd base 35 31) (hT : Tab 31 53 4 (Str.ofString "_str_to_int_inner.<locals>.inner") news)
    {x : Str} {tx : Tok} (hx : x.length ≤ 20) (hd : NumText.AllDigits x.cps.toList) (hne : x.cps.toList ≠ []) (hdp : dp + 3 < recursionLimit) (hun : un + 24 < cLine)
    (hret : ∀ news' t h' tk' dr', Fr h₀ L h' m → News h₀ L h' news' → TMade 31 53 4 (Str.ofString "_str_to_int_inner.<locals>.inner") news' → (∀ q ∈ news, q.1 ≠ 31 → q ∈ news') →
      Q (.int ((NumText.digitsVal x.cps.toList : Nat) : Int) t) { s with heap := h', toks := tk', drawn := dr' }) :
    wpAny (model prog w) (ktrTop dp un gd cn cs L a ccd cl outer) (call (.ref 36) [.str x tx]) Q E s := by
  rcases hT with hT | ⟨c', oc, vs, t, hT, hO, hD, hV, hc'⟩
  · obtain ⟨rest, N1, h31, hin⟩ := news_front N hT
    clear N
    refine wpAny_call ?_
    k_dflt walk_at "mi enter"
    have hL9 := ltN (above_K (a := 109) (by assumption) (by assumption) (by k_is))
    k_steps
    refine hret _ _ _ _ _ (by k_asm) (by k_asm) (TMade.intro (by k_mem) (by k_mem) (by k_asm) (by k_asm) (by omega)) (fun q hq hn => ?_)
    have h9 := hin q hq hn
    k_mem
  · refine wpAny_call ?_
    k_dflt walk_at "mi enter"
    k_steps
    refine hret _ _ _ _ _ (by k_asm) (by k_asm) (TMade.intro (by k_mem) (by k_mem) (by k_asm) (by k_asm) (by assumption)) (fun q hq hn => ?_)
    k_mem
end
end Mine
-- MIfs
namespace Mine
local macro_rules | `(tactic| k_all) => `(tactic| first | assumption | exact TailLt.ne (by assumption) (by omega))
local macro_rules | `(tactic| k_mem) => `(tactic| (k_dflt assumption))
local macro_rules | `(tactic| walk_at "call builtin:str.replace") => `(tactic| (k_here; k_dflt (refine' replace_free (rstrip_digits ?d) ?d2 ?_; (case d | d2 => assumption); intro t')))
local macro_rules | `(tactic| walk_at "call ref") => `(tactic| (k_here; (with_reducible show wpAny _ _ (call (Value.ref 36) _) _ _ _); k_dflt (refine' si_spec ?B ?F ?X ?N ?T ?k ?C ?tb ?l ?dg ?ne ?d ?u ?_; (case B | F => k_asm); (case X | N | T => k_asm); (case k => first | exact rfl | assumption); (case C => kn_code); (case tb | l => assumption); (case dg | ne => assumption); (case d => ktr_room); (case u => ktr_units); intro n9 t' h' tk' dr' F' N' hM9 hK9; (try dsimp only); (try k_fold))))
section
variable {prog : Program} {w : World} {p : Program} {loose : List Str} {mean : ExcName → Option Value} {mg mb : Str → Option Value}
    {dp un : Nat} {gd : Option (List Code)} {cn : Str} {cs : Scope} {a : Addr} {ccd : Value} {cl : List (Str × Addr)} {outer : List Env} {A₀ : Around} {base h₀ : Heap} {L : Addr} {m : Str → Option Value} {s : Shared} {Q E : Value → Shared → Prop} {news : List (Addr × Obj)}
set_option maxRecDepth 100000 in
set_option maxHeartbeats 8000000 in
theorem ifs_spec
    (B : Below A₀ base outer h₀) (F : Fr h₀ L s.heap m) (X : (hd.heap_39 w.params).In h₀) (N : News h₀ L s.heap news) (T : Top p loose mean mg mb h₀) (hk : cs.kind = .function)
    (hC : CodeHd base 35 31) (hT : Tab 31 53 4 (Str.ofString "_str_to_int_inner.<locals>.inner") news)
    {x : Str} {tx : Tok} (hx : x.length ≤ 20) (hd : NumText.AllDigits x.cps.toList) (hne : x.cps.toList ≠ []) (hdp : dp + 4 < recursionLimit) (hun : un + 32 < cLine)
    (hret : ∀ news' t h' tk' dr', Fr h₀ L h' m → News h₀ L h' news' → TMade 31 53 4 (Str.ofString "_str_to_int_inner.<locals>.inner") news' → (∀ q ∈ news, q.1 ≠ 31 → q ∈ news') →
      Q (.int ((NumText.digitsVal x.cps.toList : Nat) : Int) t) { s with heap := h', toks := tk', drawn := dr' }) :
    wpAny (model prog w) (ktrTop dp un gd cn cs L a ccd cl outer) (call (.ref 43) [.str x tx]) Q E s := by
  refine wpAny_call ?_
  k_dflt walk_at "mi enter"
  k_steps
  exact hret _ _ _ _ _ (by k_asm) (by k_asm) (by assumption) (by assumption)
end
end Mine
-- MDiv
namespace Mine
local macro_rules | `(tactic| k_all) => `(tactic| first | assumption | exact TailLt.ne (by assumption) (by omega))
local macro_rules | `(tactic| k_mem) => `(tactic| (k_dflt assumption))
theorem divmod_mi {prog : Program} {w : World} {A : Around} {E : Value → Shared → Prop} {s : Shared} {a b : Int} {t u : Tok} {Q : Value → Shared → Prop} {h₀ : Heap} {L : Addr} {m : Str → Option Value} {news : List (Addr × Obj)} (F : Fr h₀ L s.heap m) (N : News h₀ L s.heap news) (hb : 0 < b ∧ b < 1000)
    (h : ∀ d t1 t2 h' tk', Fr h₀ L h' m → News h₀ L h' ((d, { cls := .type "tuple", data := .seq #[.int (a.fdiv b) t1, .int (a.fmod b) t2] }) :: news) → (∀ q ∈ news, q.1 < d) → Q (.ref d) { s with toks := tk', heap := h' }) :
    wpAny (model prog w) A (call (.builtin "divmod") [.int a t, .int b u]) Q E s :=
  divmod_N F N (by omega) (fun h' F' N' => h _ _ _ h' _ F' N' fun p hp => Heap.lt_size (N p hp).1) (.inl (PyProof.noPylong_small (by omega)))
local macro_rules | `(tactic| walk_at "call builtin:divmod") => `(tactic| (k_here; (with_reducible show wpAny _ _ (call (Value.builtin _) [Value.int _ _, Value.int _ _]) _ _ _); k_dflt (refine' divmod_mi ?F ?N ?b ?_; (case F | N => k_asm); (case b => (constructor <;> omega)); intro d' t1' t2' h' tk' F' N' l1)))
section
variable {prog : Program} {w : World} {p : Program} {loose : List Str} {mean : ExcName → Option Value} {mg mb : Str → Option Value}
    {dp un : Nat} {gd : Option (List Code)} {cn : Str} {cs : Scope} {a : Addr} {ccd : Value} {cl : List (Str × Addr)} {outer : List Env} {A₀ : Around} {base h₀ : Heap} {L : Addr} {m : Str → Option Value} {s : Shared} {Q E : Value → Shared → Prop} {news : List (Addr × Obj)}
set_option maxRecDepth 100000 in
set_option maxHeartbeats 8000000 in
theorem d21_spec
    (B : Below A₀ base outer h₀) (F : Fr h₀ L s.heap m) (X : (hd.heap_39 w.params).In h₀) (N : News h₀ L s.heap news) (T : Top p loose mean mg mb h₀) (hk : cs.kind = .function)
    {x b n : Int} {tx tb tn : Tok} (hx : 0 ≤ x ∧ x < 2 ^ 60) (hb : 0 < b ∧ b < 1000) (hn : 0 ≤ n ∧ n ≤ 100) (hdp : dp + 1 < recursionLimit) (hun : un + 8 < cLine)
    (hret : ∀ d t1 t2 h' tk', Fr h₀ L h' m → News h₀ L h' ((d, { cls := .type "tuple", data := .seq #[.int (x.fdiv b) t1, .int (x.fmod b) t2] }) :: news) → (∀ q ∈ news, q.1 < d) → Q (.ref d) { s with heap := h', toks := tk' }) :
    wpAny (model prog w) (ktrTop dp un gd cn cs L a ccd cl outer) (call (.ref 50) [.int x tx, .int b tb, .int n tn]) Q E s := by
  have hbits : Builtin.Int.intBits x ≤ 64 := intBits_le_64 (by omega) (by omega)
  refine wpAny_call ?_
  k_dflt walk_at "mi enter"
  k_steps
  exact hret _ _ _ _ _ (by k_asm) (by k_asm) (by assumption)
end
end Mine
-- MAr
namespace Mine
theorem intBits_nat (x : Nat) : Builtin.Int.intBits (x : Int) = if x = 0 then 0 else x.log2 + 1 := by
  unfold Builtin.Int.intBits
  by_cases h : x = 0
  · subst h; rfl
  · have h1 : ((x : Int) == 0) = false := by simp; omega
    rw [h1, if_neg h]; rfl
theorem lt_two_bits (x : Nat) : x < 2 ^ Builtin.Int.intBits (x : Int) := by
  rw [intBits_nat]
  by_cases h : x = 0
  · subst h; decide
  · rw [if_neg h]; exact Nat.lt_log2_self
theorem two_bits_le {x : Nat} (h : 0 < x) : 2 ^ (Builtin.Int.intBits (x : Int) - 1) ≤ x := by
  rw [intBits_nat, if_neg (by omega)]
  exact Nat.log2_self_le (by omega)
theorem bits_pos {x : Nat} (h : 0 < x) : 1 ≤ Builtin.Int.intBits (x : Int) := by
  rw [intBits_nat, if_neg (by omega)]; omega
theorem bits_zero : Builtin.Int.intBits ((0 : Nat) : Int) = 0 := rfl
theorem bits_le {x k : Nat} (h : x < 2 ^ k) : Builtin.Int.intBits (x : Int) ≤ k := by
  rw [intBits_nat]
  by_cases h0 : x = 0
  · rw [if_pos h0]; omega
  · rw [if_neg h0]
    have := (Nat.log2_lt h0).mpr h
    omega
/-- the number of figures of x to the base 2^n -/
theorem cnt {x n : Nat} (hn : 1 ≤ n) (hx : x < 2 ^ 60) :
    ∃ k : Nat, Int.fdiv ((Builtin.Int.intBits (x : Int) : Int) + (n : Int) - 1) n = (k : Int) ∧ k ≤ 64 ∧ x < 2 ^ (n * k) ∧ (0 < x → 1 ≤ k) ∧ (x = 0 → k = 0) := by
  have hb : Builtin.Int.intBits (x : Int) ≤ 60 := bits_le hx
  have hlt := lt_two_bits x
  have hpos := @bits_pos x
  have hz : x = 0 → Builtin.Int.intBits (x : Int) = 0 := fun e => by subst e; rfl
  generalize Builtin.Int.intBits (x : Int) = b at *
  have e : (b : Int) + (n : Int) - 1 = ((b + n - 1 : Nat) : Int) := by omega
  refine ⟨(b + n - 1) / n, by rw [e, ← Int.ofNat_fdiv], ?_, ?_, ?_, ?_⟩
  · rw [Nat.div_le_iff_le_mul_add_pred (by omega)]
    have := Nat.mul_le_mul_right 64 hn
    omega
  · refine Nat.lt_of_lt_of_le hlt (Nat.pow_le_pow_right (by decide) ?_)
    have h1 := Nat.div_add_mod (b + n - 1) n
    have h2 := Nat.mod_lt (b + n - 1) (show 0 < n by omega)
    generalize n * ((b + n - 1) / n) = q at *
    omega
  · intro h
    have := hpos h
    exact (Nat.le_div_iff_mul_le (by omega)).mpr (by omega)
  · intro h
    rw [hz h]
    exact Nat.div_eq_of_lt (by omega)

/-- the figures of x to the base 2^n, k of them, the lowest first -/
def digs (n : Nat) : Nat → Nat → List Int
  | _, 0 => []
  | x, k + 1 => ((x % 2 ^ n : Nat) : Int) :: digs n (x / 2 ^ n) k
theorem digs_length (n : Nat) : ∀ (k x : Nat), (digs n x k).length = k
  | 0, _ => rfl
  | k + 1, x => by rw [digs, List.length_cons, digs_length n k]
theorem digs_append (n : Nat) : ∀ (j k x : Nat), digs n (x % 2 ^ (n * j)) j ++ digs n (x / 2 ^ (n * j)) k = digs n x (j + k)
  | 0, k, x => by simp [digs]
  | j + 1, k, x => by
    rw [show j + 1 + k = (j + k) + 1 by omega, digs, digs, List.cons_append]
    have e1 : n * (j + 1) = n + n * j := by rw [Nat.mul_succ, Nat.add_comm]
    have e2 : x % 2 ^ (n * (j + 1)) % 2 ^ n = x % 2 ^ n := by
      rw [e1, Nat.pow_add]
      exact Nat.mod_mul_right_mod x (2 ^ n) (2 ^ (n * j))
    have e3 : x % 2 ^ (n * (j + 1)) / 2 ^ n = x / 2 ^ n % 2 ^ (n * j) := by
      rw [e1, Nat.pow_add]
      exact Nat.mod_mul_right_div_self x (2 ^ n) (2 ^ (n * j))
    have e4 : x / 2 ^ (n * (j + 1)) = x / 2 ^ n / 2 ^ (n * j) := by
      rw [e1, Nat.pow_add, Nat.div_div_eq_div_mul]
    rw [e2, e3, e4, digs_append n j k (x / 2 ^ n)]
theorem digs_one {n x : Nat} (h : x < 2 ^ n) : digs n x 1 = [(x : Int)] := by
  rw [digs, digs, Nat.mod_eq_of_lt h]
end Mine
-- MAr2
namespace Mine
theorem bitAnd_nat (x y : Nat) : Builtin.bitAnd (x : Int) (y : Int) = ((x &&& y : Nat) : Int) := rfl
theorem and_high (x S : Nat) : x &&& (x / 2 ^ S * 2 ^ S) = x / 2 ^ S * 2 ^ S := by
  have e : x / 2 ^ S * 2 ^ S = (x >>> S) <<< S := by rw [Nat.shiftLeft_eq, Nat.shiftRight_eq_div_pow]
  rw [e]
  apply Nat.eq_of_testBit_eq
  intro i
  rw [Nat.testBit_and, Nat.testBit_shiftLeft, Nat.testBit_shiftRight]
  by_cases h : S ≤ i
  · have h2 : S + (i - S) = i := by omega
    simp [h, h2]
  · simp [h]
theorem xor_low (x S : Nat) : Builtin.bitXor (x : Int) ((x / 2 ^ S * 2 ^ S : Nat) : Int) = ((x % 2 ^ S : Nat) : Int) := by
  rw [bitXor_and, bitAnd_nat, and_high]
  have h := Nat.div_add_mod x (2 ^ S)
  rw [Nat.mul_comm] at h
  generalize x / 2 ^ S * 2 ^ S = y at *
  generalize x % 2 ^ S = z at *
  omega
theorem shr_nat (x S : Nat) : Int.fdiv (x : Int) (2 ^ (S : Int).toNat) = ((x / 2 ^ S : Nat) : Int) := by
  rw [Int.toNat_natCast, Int.ofNat_fdiv]
  congr 1
  try exact (Int.natCast_pow 2 S).symm
theorem shl_nat (x S : Nat) : (x : Int) * 2 ^ (S : Int).toNat = ((x * 2 ^ S : Nat) : Int) := by
  rw [Int.toNat_natCast, Int.natCast_mul, Int.natCast_pow]
  try rfl
section
variable {prog : Program} {w : World} {A : Around} {E : Value → Shared → Prop} {s : Shared} {a b c : Int} {t u : Tok} {Q : Value → Shared → Prop}
theorem rshift_to (hn : 0 ≤ b) (e : a.fdiv (2 ^ b.toNat) = c) (h : Q (.int c s.toks) { s with toks := s.toks + 1 }) : wpAny (model prog w) A (binaryOp .RShift (.int a t) (.int b u)) Q E s := rshift_int hn (by rw [e]; exact h)
theorem lshift_to (hn : 0 ≤ b) (e : a * 2 ^ b.toNat = c) (ha : -(2 ^ 64) < a ∧ a < 2 ^ 64) (hb : b ≤ 1000) (h : Q (.int c s.toks) { s with toks := s.toks + 1 }) : wpAny (model prog w) A (binaryOp .LShift (.int a t) (.int b u)) Q E s :=
  lshift_int hn (by have := intBits_le_64 ha.1 ha.2; omega) (by rw [e]; exact h)
theorem xor_to (e : Builtin.bitXor a b = c) (h : Q (.int c s.toks) { s with toks := s.toks + 1 }) : wpAny (model prog w) A (binaryOp .BitXor (.int a t) (.int b u)) Q E s := xor_int (by rw [e]; exact h)
theorem mul_to (e : a * b = c) (ha : -(2 ^ 64) < a ∧ a < 2 ^ 64) (h : Q (.int c s.toks) { s with toks := s.toks + 1 }) : wpAny (model prog w) A (binaryOp .Mult (.int a t) (.int b u)) Q E s :=
  mul_int (by rw [e]; exact h) (IntMulOk.of_left (intBits_le_64 ha.1 ha.2))
theorem sub_to (e : a - b = c) (h : Q (.int c s.toks) { s with toks := s.toks + 1 }) : wpAny (model prog w) A (binaryOp .Sub (.int a t) (.int b u)) Q E s := sub_int (by rw [e]; exact h)
theorem add_to (e : a + b = c) (h : Q (.int c s.toks) { s with toks := s.toks + 1 }) : wpAny (model prog w) A (binaryOp .Add (.int a t) (.int b u)) Q E s := add_int (by rw [e]; exact h)
theorem fdiv_to (hb : b ≠ 0) (hs : 0 < b ∧ b < 1000) (e : a.fdiv b = c) (h : Q (.int c s.toks) { s with toks := s.toks + 1 }) : wpAny (model prog w) A (binaryOp .FloorDiv (.int a t) (.int b u)) Q E s := floordiv_int hb (by rw [e]; exact h) (.inl (PyProof.noPylong_small (by omega)))
theorem mod_to (hb : b ≠ 0) (hs : 0 < b ∧ b < 1000) (e : a.fmod b = c) (h : Q (.int c s.toks) { s with toks := s.toks + 1 }) : wpAny (model prog w) A (binaryOp .Mod (.int a t) (.int b u)) Q E s := mod_int hb (by rw [e]; exact h)
end
end Mine
-- MIn
namespace Mine
def fnBody (K : Frag) (a : Addr) : List Stmt := match K.lookup a with
  | some ⟨_, _, .func fd, _⟩ => (match fd.body with | .stmts b => b | _ => [])
  | _ => []
/-- the i-th statement of the def at a, where it is a def: its name, parameters, body, scope -/
def innerDef (K : Frag) (a : Addr) (i : Nat) : Option (Str × Arguments × List Stmt × Scope) := match (fnBody K a)[i]? with
  | some (.FunctionDef n ps b _ _ _ sc _ _ _) => some (n, ps, b, sc)
  | _ => none
theorem innerDef_of {K : Frag} {a : Addr} {i : Nat} {o : Obj} {d : Option (Str × Arguments × List Stmt × Scope)} {x : Str × Arguments × List Stmt × Scope} (h : innerDef K a i = some x) (e : K.lookup a = some o)
    (e2 : innerDef [(a, o)] a i = d) : d = some x := by
  rw [← e2, ← h]
  unfold innerDef fnBody
  rw [e, List.lookup_cons_self]
theorem innerDef_is {K : Frag} {a : Addr} {i : Nat} {o : Obj} {d : Option (Str × Arguments × List Stmt × Scope)} (e : K.lookup a = some o) (e2 : innerDef [(a, o)] a i = d) : innerDef K a i = d := by
  rw [← e2]
  unfold innerDef fnBody
  rw [e, List.lookup_cons_self]
end Mine
-- MI2r
namespace Mine
theorem half_nat (l r : Nat) : Int.fdiv ((l : Int) + (r : Int)) (2 ^ (1 : Int).toNat) = (((l + r) / 2 : Nat) : Int) := by
  rw [← Int.natCast_add]
  exact (Int.ofNat_fdiv (l + r) 2).symm
theorem set_base {vs : List Value} {ns : List Int} {n x l : Nat} {tx : Tok} (hi : IntsAre vs ns) (hl : l < ns.length) (hx : x < 2 ^ n) :
    IntsAre (vs.set (l : Int).toNat (Value.int (x : Int) tx)) (ns.take l ++ digs n x (0 + 1) ++ ns.drop (l + 0 + 1)) := by
  have h := ints_set (x := (x : Int)) (u := tx) hi l
  rw [Int.toNat_natCast, digs_one hx]
  have e : ns.set l (x : Int) = ns.take l ++ [(x : Int)] ++ ns.drop (l + 0 + 1) := by
    rw [List.set_eq_take_append_cons_drop, if_pos hl]
    simp
  rw [e] at h
  exact h
theorem set_step {ns ds1 ds2 : List Int} {l M r : Nat} (h1 : l < M) (h2 : M < r) (h3 : r ≤ ns.length) (hd1 : ds1.length = M - l) :
    (ns.take l ++ ds1 ++ ns.drop M).take M ++ ds2 ++ (ns.take l ++ ds1 ++ ns.drop M).drop r = ns.take l ++ (ds1 ++ ds2) ++ ns.drop r := by
  have e1 : (ns.take l ++ ds1).length = M := by
    rw [List.length_append, List.length_take, hd1]; omega
  have e2 : (ns.take l ++ ds1 ++ ns.drop M).take M = ns.take l ++ ds1 := by
    rw [List.take_append_of_le_length (by omega), List.take_of_length_le (by omega)]
  have e3 : (ns.take l ++ ds1 ++ ns.drop M).drop r = ns.drop r := by
    rw [List.drop_append, e1, List.drop_of_length_le (by omega), List.nil_append, List.drop_drop]
    congr 1; omega
  rw [e2, e3]
  simp only [List.append_assoc]
local macro_rules | `(tactic| k_all) => `(tactic| first | assumption | exact TailLt.ne (by assumption) (by omega))
local macro_rules | `(tactic| k_mem) => `(tactic| (k_dflt assumption))
local macro_rules | `(tactic| walk_at "binaryOp RShift int int") => `(tactic| (k_here; k_dflt (refine' rshift_to ?p ?e ?_; (case e => assumption); (case p => omega))))
local macro_rules | `(tactic| walk_at "binaryOp LShift int int") => `(tactic| (k_here; k_dflt (refine' lshift_to ?p ?e ?a ?b ?_; (case e => assumption); (case p => omega); (case a => (constructor <;> omega)); (case b => omega))))
local macro_rules | `(tactic| walk_at "binaryOp Mult int int") => `(tactic| (k_here; k_dflt (refine' mul_to ?e ?a ?_; (case e => assumption); (case a => (constructor <;> omega)))))
local macro_rules | `(tactic| walk_at "binaryOp BitXor int int") => `(tactic| (k_here; k_dflt (refine' xor_to ?e ?_; (case e => assumption))))
local macro_rules | `(tactic| walk_at "ite") => `(tactic| (k_here; (refine PySem.W.ite_pos ?c ?_); (case c => (simp only [beq_iff_eq]; omega))))
local macro_rules | `(tactic| walk_at "ite") => `(tactic| (k_here; (refine PySem.W.ite_neg ?c ?_); (case c => (simp only [beq_iff_eq]; omega))))
set_option maxRecDepth 100000 in
set_option maxHeartbeats 8000000 in
theorem i2d_inner {prog : Program} {w : World} {p : Program} {loose : List Str} {mean : ExcName → Option Value} {mg mb : Str → Option Value} {name : Str} {params : Arguments} {body : List Stmt} {scope : Scope}
    (hin : innerDef (hd.heap_39 w.params) 64 1 = some (name, params, body, scope)) {n : Nat} (hn : 1 ≤ n) (hn2 : n ≤ 10) :
    ∀ (d : Nat) {dp un : Nat} {gd : Option (List Code)} {cn : Str} {cs : Scope} {a : Addr} {ccd : Value} {cl : List (Str × Addr)} {outer : List Env} {A₀ : Around} {base h₀ : Heap} {L : Addr} {m : Str → Option Value} {s : Shared} {Q E : Value → Shared → Prop} {news : List (Addr × Obj)}
      {D f c' cD cI cN : Addr} {oc oD oI oN : Obj} {qual : Str} {doc pm ctv : Value} {cvs : Array Value} {tq tn : Tok} {k0 : Nat} {vs : List Value} {ns : List Int} {x l r : Nat} {tx tl tr : Tok},
      Below A₀ base outer h₀ → Fr h₀ L s.heap m → (hd.heap_39 w.params).In h₀ → News h₀ L s.heap ((D, listOf vs.toArray k0) :: news) → Top p loose mean mg mb h₀ → cs.kind = .function → CodeHd base 63 59 →
      (∀ q ∈ news, q.1 ≠ D) →
      (f, fnMade name qual params body scope [(Str.ofString "n", cN), (Str.ofString "inner", cI), (Str.ofString "a_digits", cD)] doc pm c' ctv) ∈ news → (c', oc) ∈ news → oc.data = .fields cvs → cvs[1]? = some (.str qual tq) →
      (cD, oD) ∈ news → oD.data = .cell (some (.ref D)) → (cI, oI) ∈ news → oI.data = .cell (some (.ref f)) → (cN, oN) ∈ news → oN.data = .cell (some (.int (n : Int) tn)) →
      IntsAre vs ns → r = l + d + 1 → r ≤ ns.length → r ≤ 64 → x < 2 ^ (n * (d + 1)) → x < 2 ^ 60 → dp + d + 1 < recursionLimit → un + 8 * (d + 1) < cLine →
      (∀ vs' h' tk', Fr h₀ L h' m → News h₀ L h' ((D, listOf vs'.toArray k0) :: news) → IntsAre vs' (ns.take l ++ digs n x (d + 1) ++ ns.drop r) → Q .none { s with heap := h', toks := tk' }) →
      wpAny (model prog w) (ktrTop dp un gd cn cs L a ccd cl outer) (call (.ref f) [.int (x : Int) tx, .int (l : Int) tl, .int (r : Int) tr]) Q E s := by
  have h := innerDef_of hin (by k_is) rfl
  dsimp only [innerDef, fnBody, List.lookup] at h
  cases h
  clear hin
  intro d
  induction d using Nat.strongRecOn with
  | ind d ih =>
    intro dp un gd cn cs a ccd cl outer A₀ base h₀ L m s Q E news D f c' cD cI cN oc oD oI oN qual doc pm ctv cvs tq tn k0 vs ns x l r tx tl tr B F X N T hk hC hne hf hc' hoc hcv hD hoD hI hoI hN hoN hi hr hrl hr64 hx hx60 hdp hun hret
    by_cases hd0 : d = 0
    · subst hd0
      subst hr
      refine wpAny_call ?_
      k_dflt walk_at "mi nest"
      k_steps
      exact hret _ _ _ (by k_asm) (by k_asm) (set_base hi (by omega) (by simpa using hx))
    · obtain ⟨M, hM⟩ : ∃ M, M = (l + r) / 2 := ⟨_, rfl⟩
      have hlM : l < M := by omega
      have hMr : M < r := by omega
      obtain ⟨S, hS⟩ : ∃ S, S = (M - l) * n := ⟨_, rfl⟩
      have hS640 : S ≤ 640 := by rw [hS]; exact Nat.le_trans (Nat.mul_le_mul (show M - l ≤ 64 by omega) hn2) (by decide)
      have e1 : Int.fdiv ((l : Int) + (r : Int)) (2 ^ (1 : Int).toNat) = (M : Int) := by rw [hM]; exact half_nat l r
      have e3 : ((M : Int) - (l : Int)) * (n : Int) = (S : Int) := by
        rw [hS, Int.natCast_mul, Int.natCast_sub (by omega)]
      obtain ⟨U, hU⟩ : ∃ U, U = x / 2 ^ S := ⟨_, rfl⟩
      obtain ⟨V, hV⟩ : ∃ V, V = x / 2 ^ S * 2 ^ S := ⟨_, rfl⟩
      obtain ⟨W, hW⟩ : ∃ W, W = x % 2 ^ S := ⟨_, rfl⟩
      have e4 : Int.fdiv (x : Int) (2 ^ (S : Int).toNat) = (U : Int) := by rw [hU]; exact shr_nat x S
      have e5 : (U : Int) * 2 ^ (S : Int).toNat = (V : Int) := by rw [hU, hV]; exact shl_nat _ S
      have e6 : Builtin.bitXor (x : Int) (V : Int) = (W : Int) := by rw [hV, hW]; exact xor_low x S
      have hUx : U ≤ x := by rw [hU]; exact Nat.div_le_self _ _
      have hWx : W ≤ x := by rw [hW]; exact Nat.mod_le _ _
      have hS' : n * (M - l) = S := by rw [hS, Nat.mul_comm]
      have hWl : W < 2 ^ (n * (M - l - 1 + 1)) := by
        rw [show M - l - 1 + 1 = M - l by omega, hS', hW]; exact Nat.mod_lt _ (Nat.two_pow_pos S)
      have hUl : U < 2 ^ (n * (r - M - 1 + 1)) := by
        rw [show r - M - 1 + 1 = r - M by omega, hU]
        refine Nat.div_lt_of_lt_mul ?_
        rw [← Nat.pow_add, ← hS', ← Nat.mul_add, show M - l + (r - M) = d + 1 by omega]
        exact hx
      refine wpAny_call ?_
      k_dflt walk_at "mi nest"
      k_steps
      k_dflt (refine' ih (M - l - 1) (by omega) ?zzB ?zzF ?zzX ?zzN ?zzT ?zzk ?zzC ?zzne ?zzf ?zzc ?zzoc ?zzcv ?zzD ?zzoD ?zzI ?zzoI ?zzN2 ?zzoN hi (by omega) (by omega) (by omega) hWl (by omega) ?zzd ?zzu ?_; (case zzB | zzF => k_asm); (case zzX | zzN | zzT => k_asm); (case zzk => exact rfl); (case zzC | zzne => assumption); (case zzf | zzc => assumption); (case zzoc | zzcv => assumption); (case zzD | zzoD => assumption); (case zzI | zzoI => assumption); (case zzN2 | zzoN => assumption); (case zzd => ktr_room); (case zzu => ktr_units))
      intro vs' h' tk' F' N' hi'
      have hlen : (ns.take l ++ digs n W (M - l - 1 + 1) ++ ns.drop M).length = ns.length := by
        rw [List.length_append, List.length_append, List.length_take, List.length_drop, digs_length]; omega
      k_steps
      k_dflt (refine' ih (r - M - 1) (by omega) ?zzB ?zzF ?zzX ?zzN ?zzT ?zzk ?zzC ?zzne ?zzf ?zzc ?zzoc ?zzcv ?zzD ?zzoD ?zzI ?zzoI ?zzN2 ?zzoN hi' (by omega) (by rw [hlen]; omega) (by omega) hUl (by omega) ?zzd ?zzu ?_; (case zzB | zzF => k_asm); (case zzX | zzN | zzT => k_asm); (case zzk => exact rfl); (case zzC | zzne => assumption); (case zzf | zzc => assumption); (case zzoc | zzcv => assumption); (case zzD | zzoD => assumption); (case zzI | zzoI => assumption); (case zzN2 | zzoN => assumption); (case zzd => ktr_room); (case zzu => ktr_units))
      intro vs2 h2 tk2 F2 N2 hi2
      k_steps
      refine hret _ _ _ (by k_asm) (by k_asm) ?_
      rw [set_step hlM hMr hrl (by rw [digs_length]; omega)] at hi2
      have e7 := digs_append n (M - l) (r - M) x
      rw [hS', ← hU, ← hW, show M - l + (r - M) = d + 1 by omega] at e7
      rw [show M - l - 1 + 1 = M - l by omega, show r - M - 1 + 1 = r - M by omega, e7] at hi2
      exact hi2
end Mine
-- MI2d
namespace Mine
theorem mul_zero_list {prog : Program} {w : World} {A : Around} {E : Value → Shared → Prop} {s : Shared} {h₀ : Heap} {L : Addr} {m : Str → Option Value} {news : List (Addr × Obj)} {l : Addr} {t : Tok} {c : Nat} {x : Int} {u : Tok} {Q : Value → Shared → Prop}
    {k : Nat} (Fm : Fr h₀ L s.heap m) (N : News h₀ L s.heap news) (hm : (l, listOf [Value.int 0 t].toArray c) ∈ news) (hx : x = (k : Int)) (hk : k ≤ 64)
    (h : ∀ D h' ws, Fr h₀ L h' m → News h₀ L h' ((D, listOf ws.toArray 0) :: news) → (∀ p ∈ news, p.1 < D) → IntsAre ws (List.replicate k 0) → ws.toArray.size = k → Q (.ref D) { s with heap := h' }) :
    wpAny (model prog w) A (binaryOp .Mult (.ref l) (.int x u)) Q E s := by
  subst hx
  have hi : IntsAre [Value.int 0 t] [0] := .cons 0 t .nil
  refine KM.mul Fm N (News.isList N hm) hi (by omega) (by omega) (by simp only [List.length_cons, List.length_nil]; omega) fun D h' F' N' l1 i' _ e1 e2 _ _ => ?_
  rw [Int.toNat_natCast] at *
  have e3 : ∀ k : Nat, (List.replicate k [(0 : Int)]).flatten = List.replicate k 0 := by
    intro k
    induction k with
    | zero => rfl
    | succ k ih => rw [List.replicate_succ, List.flatten_cons, ih, List.replicate_succ]; rfl
  rw [e3] at i' e2
  refine h D h' _ F' N' l1 i' ?_
  rw [e1, ← e2, List.length_replicate]
local macro_rules | `(tactic| k_all) => `(tactic| first | assumption | exact TailLt.ne (by assumption) (by omega))
local macro_rules | `(tactic| k_mem) => `(tactic| (k_dflt assumption))
local macro_rules | `(tactic| walk_at "binaryOp Mult ref int") => `(tactic| (k_here; k_dflt (refine' mul_zero_list ?F ?N ?m ?x ?k ?_; (case F | N => k_asm); (case m => k_mem); (case x => assumption); (case k => omega); k_whole); intro D' h' ws' F' N' l1 i' z'; (try k_lt l1); (try k_sweep)))
local macro_rules | `(tactic| walk_at "call builtin:len") => `(tactic| (k_here; (with_reducible show wpAny _ _ (call (Value.builtin "len") [Value.ref _]) _ _ _); k_dflt (refine' KM.len_K ?N ?m ?s ?f ?_; (case N => k_asm); (case m => k_mem); (case s => assumption); (case f => omega))))
section
variable {prog : Program} {w : World} {p : Program} {loose : List Str} {mean : ExcName → Option Value} {mg mb : Str → Option Value}
    {dp un : Nat} {gd : Option (List Code)} {cn : Str} {cs : Scope} {a : Addr} {ccd : Value} {cl : List (Str × Addr)} {outer : List Env} {A₀ : Around} {base h₀ : Heap} {L : Addr} {m : Str → Option Value} {s : Shared} {Q E : Value → Shared → Prop} {news : List (Addr × Obj)}
set_option maxRecDepth 100000 in
set_option maxHeartbeats 8000000 in
theorem i2d_spec
    (B : Below A₀ base outer h₀) (F : Fr h₀ L s.heap m) (X : (hd.heap_39 w.params).In h₀) (N : News h₀ L s.heap news) (T : Top p loose mean mg mb h₀) (hk : cs.kind = .function)
    (hC : CodeHd base 63 59) (hT : Tab 59 93 4 (Str.ofString "_int2digits.<locals>.inner") news)
    {x n k : Nat} {tx tn : Tok} (hx : x < 2 ^ 60) (hn : 1 ≤ n) (hn2 : n ≤ 10) (hk1 : Int.fdiv ((Builtin.Int.intBits (x : Int) : Int) + (n : Int) - 1) n = (k : Int)) (hk2 : k ≤ 64) (hk3 : x < 2 ^ (n * k)) (hk4 : 0 < x → 1 ≤ k) (hk5 : x = 0 → k = 0) (hdp : dp + 70 < recursionLimit) (hun : un + 600 < cLine)
    (hret : ∀ news' D vs h' tk', Fr h₀ L h' m → News h₀ L h' news' → (D, listOf vs.toArray 0) ∈ news' → IntsAre vs (digs n x k) → TMade 59 93 4 (Str.ofString "_int2digits.<locals>.inner") news' → (∀ q ∈ news, q.1 ≠ 59 → q ∈ news') → Q (.ref D) { s with heap := h', toks := tk' }) :
    wpAny (model prog w) (ktrTop dp un gd cn cs L a ccd cl outer) (call (.ref 64) [.int (x : Int) tx, .int (n : Int) tn]) Q E s := by
  rcases hT with hT | ⟨c', oc, vs, t, hT, hO, hD, hV, hc'⟩
  · obtain ⟨rest, N1, h59, hin⟩ := news_front N hT
    clear N
    refine wpAny_call ?_
    k_dflt walk_at "mi enter"
    have hL9 := ltN (above_K (a := 109) (by assumption) (by assumption) (by k_is))
    k_steps
    · (with_reducible rename News _ _ _ _ => NN)
      obtain ⟨rest2, NR, hneD, hinD⟩ := news_front (o := listOf (List.toArray _) 0) NN (.tail _ (.tail _ (.head _)))
      have m0 := hinD _ (.head _) (by k_ne)
      have m1 := hinD _ (.tail _ (.head _)) (by k_ne)
      have m4 := hinD _ (.tail _ (.tail _ (.tail _ (.tail _ (.head _))))) (by k_ne)
      have m5 := hinD _ (.tail _ (.tail _ (.tail _ (.tail _ (.tail _ (.head _)))))) (by k_ne)
      have m6 := hinD _ (.tail _ (.tail _ (.tail _ (.tail _ (.tail _ (.tail _ (.head _))))))) (by k_ne)
      have m7 := hinD _ (.tail _ (.tail _ (.tail _ (.tail _ (.tail _ (.tail _ (.tail _ (.head _)))))))) (by k_ne)
      have mt : ∀ q ∈ rest, q ∈ rest2 := fun q hq => hinD q (.tail _ (.tail _ (.tail _ (.tail _ (.tail _ (.tail _ (.tail _ (.tail _ hq)))))))) (TailLt.ne (by assumption) (by omega) q hq)
      clear NN hinD
      have hk1' : 1 ≤ k := hk4 (by omega)
      k_dflt (refine' i2d_inner (n := n) (l := 0) (r := k) (x := x) (ns := List.replicate k 0) ?zz0 hn hn2 (k - 1) ?zzB ?zzF ?zzX NR ?zzT ?zzk ?zzC hneD m0 m1 ?zzoc ?zzcv m5 ?zzoD m4 ?zzoI m6 ?zzoN (by assumption) (by omega) ?zzl hk2 ?zzx hx ?zzd ?zzu ?_)
      (case zz0 => exact innerDef_is (by k_is) rfl)
      (case zzB => k_asm)
      (case zzF => k_asm)
      (case zzX => k_asm)
      (case zzT => k_asm)
      (case zzk => exact rfl)
      (case zzC => kn_code)
      (case zzoc => assumption)
      (case zzcv => assumption)
      (case zzoD => assumption)
      (case zzoI => assumption)
      (case zzoN => assumption)
      (case zzl => (rw [List.length_replicate]; exact Nat.le_refl _))
      (case zzx => (rw [show k - 1 + 1 = k by omega]; exact hk3))
      (case zzd => ktr_room)
      (case zzu => ktr_units)
      intro vs' h' tk' F' N' hi'
      have hi2 : IntsAre vs' (digs n x k) := by
        rw [show k - 1 + 1 = k by omega, List.take_zero, List.drop_of_length_le (by rw [List.length_replicate]; exact Nat.le_refl _), List.nil_append, List.append_nil] at hi'
        exact hi'
      k_steps
      exact hret _ _ _ _ _ (by k_asm) (by k_asm) (by k_mem) hi2 (TMade.intro (by k_mem) (by k_mem) (by k_asm) (by k_asm) (by omega)) (fun q hq hn9 => by
        have h9 := mt q (hin q hq hn9)
        k_mem)
    · have hx0 : x = 0 := by omega
      have hk0 := hk5 hx0
      subst hk0
      exact hret _ _ _ _ _ (by k_asm) (by k_asm) (by k_mem) (by assumption) (TMade.intro (by k_mem) (by k_mem) (by k_asm) (by k_asm) (by omega)) (fun q hq hn9 => by
        have h9 := hin q hq hn9
        k_mem)
  · refine wpAny_call ?_
    k_dflt walk_at "mi enter"
    k_steps
    · (with_reducible rename News _ _ _ _ => NN)
      obtain ⟨rest2, NR, hneD, hinD⟩ := news_front (o := listOf (List.toArray _) 0) NN (.tail _ (.head _))
      have m0 := hinD _ (.head _) (by k_ne)
      have m4 := hinD _ (.tail _ (.tail _ (.tail _ (.head _)))) (by k_ne)
      have m5 := hinD _ (.tail _ (.tail _ (.tail _ (.tail _ (.head _))))) (by k_ne)
      have m6 := hinD _ (.tail _ (.tail _ (.tail _ (.tail _ (.tail _ (.head _)))))) (by k_ne)
      have mt : ∀ q ∈ news, q ∈ rest2 := fun q hq => hinD q (.tail _ (.tail _ (.tail _ (.tail _ (.tail _ (.tail _ hq)))))) (TailLt.ne (by assumption) (by omega) q hq)
      have m1 := mt _ hO
      have m7 := mt _ hT
      clear NN hinD
      have hk1' : 1 ≤ k := hk4 (by omega)
      k_dflt (refine' i2d_inner (n := n) (l := 0) (r := k) (x := x) (ns := List.replicate k 0) ?zz0 hn hn2 (k - 1) ?zzB ?zzF ?zzX NR ?zzT ?zzk ?zzC hneD m0 m1 hD hV m5 ?zzoD m4 ?zzoI m6 ?zzoN (by assumption) (by omega) ?zzl hk2 ?zzx hx ?zzd ?zzu ?_)
      (case zz0 => exact innerDef_is (by k_is) rfl)
      (case zzB => k_asm)
      (case zzF => k_asm)
      (case zzX => k_asm)
      (case zzT => k_asm)
      (case zzk => exact rfl)
      (case zzC => kn_code)
      (case zzoD => assumption)
      (case zzoI => assumption)
      (case zzoN => assumption)
      (case zzl => (rw [List.length_replicate]; exact Nat.le_refl _))
      (case zzx => (rw [show k - 1 + 1 = k by omega]; exact hk3))
      (case zzd => ktr_room)
      (case zzu => ktr_units)
      intro vs' h' tk' F' N' hi'
      have hi2 : IntsAre vs' (digs n x k) := by
        rw [show k - 1 + 1 = k by omega, List.take_zero, List.drop_of_length_le (by rw [List.length_replicate]; exact Nat.le_refl _), List.nil_append, List.append_nil] at hi'
        exact hi'
      k_steps
      exact hret _ _ _ _ _ (by k_asm) (by k_asm) (by k_mem) hi2 (TMade.intro (by k_mem) (by k_mem) (by k_asm) (by k_asm) (by assumption)) (fun q hq hn9 => by
        have h9 := mt q hq
        k_mem)
    · have hx0 : x = 0 := by omega
      have hk0 := hk5 hx0
      subst hk0
      exact hret _ _ _ _ _ (by k_asm) (by k_asm) (by k_mem) (by assumption) (TMade.intro (by k_mem) (by k_mem) (by k_asm) (by k_asm) (by assumption)) (fun q hq hn9 => by
        k_mem)
end
end Mine
-- MAr3
namespace Mine
/-- the number that figures tell to the base 2^n, the lowest first -/
def dval (n : Nat) : List Nat → Nat
  | [] => 0
  | d :: r => d + 2 ^ n * dval n r
theorem dval_append (n : Nat) : ∀ a b : List Nat, dval n (a ++ b) = dval n a + 2 ^ (n * a.length) * dval n b
  | [], b => by simp [dval]
  | d :: r, b => by
    rw [List.cons_append, dval, dval, dval_append n r b, List.length_cons, Nat.mul_add, ← Nat.mul_assoc, ← Nat.pow_add]
    rw [show n * (r.length + 1) = n + n * r.length by rw [Nat.mul_succ, Nat.add_comm]]
    omega
theorem dval_lt (n : Nat) : ∀ a : List Nat, (∀ d ∈ a, d < 2 ^ n) → dval n a < 2 ^ (n * a.length)
  | [], _ => by simp [dval]
  | d :: r, h => by
    have h1 := h d (.head _)
    have h2 := dval_lt n r fun x hx => h x (.tail _ hx)
    rw [dval, List.length_cons, show n * (r.length + 1) = n + n * r.length by rw [Nat.mul_succ, Nat.add_comm], Nat.pow_add]
    have h3 : 2 ^ n * (dval n r + 1) ≤ 2 ^ n * 2 ^ (n * r.length) := Nat.mul_le_mul_left _ h2
    rw [Nat.mul_add] at h3
    omega
theorem dval_part (n : Nat) (ds : List Nat) {l j k : Nat} (h : l + j + k ≤ ds.length) :
    dval n ((ds.drop l).take (j + k)) = dval n ((ds.drop (l + j)).take k) * 2 ^ (n * j) + dval n ((ds.drop l).take j) := by
  have e : (ds.drop l).take (j + k) = (ds.drop l).take j ++ (ds.drop (l + j)).take k := by
    rw [List.take_add, List.drop_drop]
  have e2 : ((ds.drop l).take j).length = j := by rw [List.length_take, List.length_drop]; omega
  rw [e, dval_append, e2, Nat.mul_comm (2 ^ (n * j))]
  omega
theorem dval_part_lt (n : Nat) (ds : List Nat) {l k : Nat} (hd : ∀ d ∈ ds, d < 2 ^ n) : dval n ((ds.drop l).take k) < 2 ^ (n * k) := by
  refine Nat.lt_of_lt_of_le (dval_lt n _ fun d h => hd d (List.mem_of_mem_drop (List.mem_of_mem_take h))) (Nat.pow_le_pow_right (by decide) (Nat.mul_le_mul_left _ ?_))
  rw [List.length_take]; exact Nat.min_le_left _ _
theorem dval_single (n : Nat) (ds : List Nat) {l : Nat} (h : l < ds.length) : (ds.map fun d : Nat => (d : Int)).getD (l : Int).toNat 0 = ((dval n ((ds.drop l).take (0 + 1)) : Nat) : Int) := by
  rw [Int.toNat_natCast, List.getD_eq_getElem?_getD, List.getElem?_map, List.getElem?_eq_getElem h]
  have e : (ds.drop l).take (0 + 1) = [ds[l]] := by
    rw [List.drop_eq_getElem_cons h]; rfl
  rw [e]
  simp [dval]
theorem dval_whole (n : Nat) (ds : List Nat) : dval n ((ds.drop 0).take ds.length) = dval n ds := by simp
section
variable {prog : Program} {w : World} {A : Around} {E : Value → Shared → Prop} {s : Shared} {a b c : Int} {t u : Tok} {Q : Value → Shared → Prop}
theorem lshift_to2 (hn : 0 ≤ b) (e : a * 2 ^ b.toNat = c) (ha : Builtin.Int.intBits a ≤ 1000) (hb : b ≤ 1000) (h : Q (.int c s.toks) { s with toks := s.toks + 1 }) : wpAny (model prog w) A (binaryOp .LShift (.int a t) (.int b u)) Q E s :=
  lshift_int hn (by omega) (by rw [e]; exact h)
end
end Mine
-- MD2r
namespace Mine
local macro_rules | `(tactic| k_all) => `(tactic| first | assumption | exact TailLt.ne (by assumption) (by omega))
local macro_rules | `(tactic| k_mem) => `(tactic| (k_dflt assumption))
local macro_rules | `(tactic| walk_at "binaryOp RShift int int") => `(tactic| (k_here; k_dflt (refine' rshift_to ?p ?e ?_; (case e => assumption); (case p => omega))))
local macro_rules | `(tactic| walk_at "binaryOp LShift int int") => `(tactic| (k_here; k_dflt (refine' lshift_to2 ?p ?e ?a ?b ?_; (case e => assumption); (case p => omega); (case a => assumption); (case b => omega))))
local macro_rules | `(tactic| walk_at "binaryOp Mult int int") => `(tactic| (k_here; k_dflt (refine' mul_to ?e ?a ?_; (case e => assumption); (case a => (constructor <;> omega)))))
local macro_rules | `(tactic| walk_at "ite") => `(tactic| (k_here; (refine PySem.W.ite_pos ?c ?_); (case c => (simp only [beq_iff_eq]; omega))))
local macro_rules | `(tactic| walk_at "ite") => `(tactic| (k_here; (refine PySem.W.ite_neg ?c ?_); (case c => (simp only [beq_iff_eq]; omega))))
local macro_rules | `(tactic| walk_at "subscriptTail") => `(tactic| (k_here; (with_reducible show wpAny _ _ (subscriptTail _ _ (Value.ref _) (Value.int _ _)) _ _ _); k_dflt (refine' ksa_sub ?k1 ?k2 ?k3 ?k4 ?k5 ?k6 ?_ ?k7; (case k1 => k_asm); (case k2 => k_mem); (case k3 => assumption); (case k4 | k5 | k6 => omega); (case k7 => with_unfolding_all rfl); k_whole); intro _))
set_option maxRecDepth 100000 in
set_option maxHeartbeats 8000000 in
theorem d2i_inner {prog : Program} {w : World} {p : Program} {loose : List Str} {mean : ExcName → Option Value} {mg mb : Str → Option Value} {name : Str} {params : Arguments} {body : List Stmt} {scope : Scope}
    (hin : innerDef (hd.heap_39 w.params) 71 0 = some (name, params, body, scope)) {n : Nat} (hn : 1 ≤ n) (hn2 : n ≤ 10) {ds : List Nat} (hds : ∀ d ∈ ds, d < 2 ^ n) (hds64 : ds.length ≤ 64) :
    ∀ (d : Nat) {dp un : Nat} {gd : Option (List Code)} {cn : Str} {cs : Scope} {a : Addr} {ccd : Value} {cl : List (Str × Addr)} {outer : List Env} {A₀ : Around} {base h₀ : Heap} {L : Addr} {m : Str → Option Value} {s : Shared} {Q E : Value → Shared → Prop} {news : List (Addr × Obj)}
      {D f c' cD cI cN : Addr} {oc oD oI oN : Obj} {qual : Str} {doc pm ctv : Value} {cvs : Array Value} {tq tn : Tok} {k0 : Nat} {vs : List Value} {l r : Nat} {tl tr : Tok},
      Below A₀ base outer h₀ → Fr h₀ L s.heap m → (hd.heap_39 w.params).In h₀ → News h₀ L s.heap news → Top p loose mean mg mb h₀ → cs.kind = .function → CodeHd base 70 66 →
      (f, fnMade name qual params body scope [(Str.ofString "n", cN), (Str.ofString "inner", cI), (Str.ofString "digits", cD)] doc pm c' ctv) ∈ news → (c', oc) ∈ news → oc.data = .fields cvs → cvs[1]? = some (.str qual tq) →
      (cD, oD) ∈ news → oD.data = .cell (some (.ref D)) → (cI, oI) ∈ news → oI.data = .cell (some (.ref f)) → (cN, oN) ∈ news → oN.data = .cell (some (.int (n : Int) tn)) →
      (D, listOf vs.toArray k0) ∈ news → IntsAre vs (ds.map fun d : Nat => (d : Int)) → r = l + d + 1 → r ≤ ds.length → dp + d + 1 < recursionLimit → un + 8 * (d + 1) < cLine →
      (∀ t h' tk', Fr h₀ L h' m → News h₀ L h' news → Q (.int ((dval n ((ds.drop l).take (d + 1)) : Nat) : Int) t) { s with heap := h', toks := tk' }) →
      wpAny (model prog w) (ktrTop dp un gd cn cs L a ccd cl outer) (call (.ref f) [.int (l : Int) tl, .int (r : Int) tr]) Q E s := by
  have h := innerDef_of hin (by k_is) rfl
  dsimp only [innerDef, fnBody, List.lookup] at h
  cases h
  clear hin
  intro d
  induction d using Nat.strongRecOn with
  | ind d ih =>
    intro dp un gd cn cs a ccd cl outer A₀ base h₀ L m s Q E news D f c' cD cI cN oc oD oI oN qual doc pm ctv cvs tq tn k0 vs l r tl tr B F X N T hk hC hf hc' hoc hcv hD hoD hI hoI hN hoN hDl hi hr hrl hdp hun hret
    have hlen : (ds.map fun d : Nat => (d : Int)).length = ds.length := List.length_map _
    by_cases hd0 : d = 0
    · subst hd0
      subst hr
      refine wpAny_call ?_
      k_dflt walk_at "mi nest"
      k_steps
      have h9 := dval_single n ds (l := l) (by omega)
      rw [h9]
      exact hret _ _ _ (by k_asm) (by k_asm)
    · obtain ⟨M, hM⟩ : ∃ M, M = (l + r) / 2 := ⟨_, rfl⟩
      have hlM : l < M := by omega
      have hMr : M < r := by omega
      obtain ⟨S, hS⟩ : ∃ S, S = (M - l) * n := ⟨_, rfl⟩
      have hS640 : S ≤ 640 := by rw [hS]; exact Nat.le_trans (Nat.mul_le_mul (show M - l ≤ 64 by omega) hn2) (by decide)
      have e1 : Int.fdiv ((l : Int) + (r : Int)) (2 ^ (1 : Int).toNat) = (M : Int) := by rw [hM]; exact half_nat l r
      have e3 : ((M : Int) - (l : Int)) * (n : Int) = (S : Int) := by
        rw [hS, Int.natCast_mul, Int.natCast_sub (by omega)]
      have hS' : n * (M - l) = S := by rw [hS, Nat.mul_comm]
      obtain ⟨U, hU⟩ : ∃ U, U = dval n ((ds.drop M).take (r - M)) := ⟨_, rfl⟩
      obtain ⟨V, hV⟩ : ∃ V, V = dval n ((ds.drop l).take (M - l)) := ⟨_, rfl⟩
      obtain ⟨W, hW⟩ : ∃ W, W = U * 2 ^ S := ⟨_, rfl⟩
      have e5 : (U : Int) * 2 ^ (S : Int).toNat = (W : Int) := by rw [hW]; exact shl_nat _ S
      have hUb : Builtin.Int.intBits (U : Int) ≤ 1000 := by
        refine Nat.le_trans (bits_le (k := n * (r - M)) (by rw [hU]; exact dval_part_lt n ds hds)) ?_
        exact Nat.le_trans (Nat.mul_le_mul hn2 (show r - M ≤ 64 by omega)) (by decide)
      have hfin : dval n ((ds.drop l).take (d + 1)) = W + V := by
        have h9 := dval_part n ds (l := l) (j := M - l) (k := r - M) (by omega)
        rw [show M - l + (r - M) = d + 1 by omega, show l + (M - l) = M by omega, hS', ← hU, ← hV, ← hW] at h9
        exact h9
      rw [hfin] at hret
      refine wpAny_call ?_
      k_dflt walk_at "mi nest"
      k_steps
      k_dflt (refine' ih (r - M - 1) (by omega) (l := M) (r := r) ?zzB ?zzF ?zzX ?zzN ?zzT ?zzk ?zzC hf hc' hoc hcv hD hoD hI hoI hN hoN hDl hi (by omega) (by omega) ?zzd ?zzu ?_; (case zzB | zzF => k_asm); (case zzX | zzN | zzT => k_asm); (case zzk => exact rfl); (case zzC => assumption); (case zzd => ktr_room); (case zzu => ktr_units))
      rw [show r - M - 1 + 1 = r - M by omega, ← hU]
      intro t1 h1 tk1 F1 N1
      k_steps
      k_dflt (refine' ih (M - l - 1) (by omega) (l := l) (r := M) ?zzB ?zzF ?zzX ?zzN ?zzT ?zzk ?zzC hf hc' hoc hcv hD hoD hI hoI hN hoN hDl hi (by omega) (by omega) ?zzd ?zzu ?_; (case zzB | zzF => k_asm); (case zzX | zzN | zzT => k_asm); (case zzk => exact rfl); (case zzC => assumption); (case zzd => ktr_room); (case zzu => ktr_units))
      rw [show M - l - 1 + 1 = M - l by omega, ← hV]
      intro t2 h2 tk2 F2 N2
      k_steps
      rw [← Int.natCast_add]
      exact hret _ _ _ (by k_asm) (by k_asm)
end Mine
-- MD2i
namespace Mine
theorem truthy_mi {prog : Program} {w : World} {A : Around} {E : Value → Shared → Prop} {s : Shared} {h₀ : Heap} {L D : Addr} {news : List (Addr × Obj)} {vs : List Value} {k : Nat} {b : Bool} {Q : Bool → Shared → Prop}
    (N : News h₀ L s.heap news) (hm : (D, listOf vs.toArray k) ∈ news) (hb : vs.toArray.isEmpty = b) (hf : vs.length ≤ 1000) (h : Q (!b) { s with toks := s.toks + 1 + 1 }) : wpAny (model prog w) A (truthy (.ref D)) Q E s := by
  subst hb
  exact wpAny_truthy_list (News.isList N hm) (by rw [List.size_toArray]; omega) h
local macro_rules | `(tactic| k_all) => `(tactic| first | assumption | exact TailLt.ne (by assumption) (by omega))
local macro_rules | `(tactic| k_mem) => `(tactic| (k_dflt assumption))
local macro_rules | `(tactic| walk_at "truthy ref") => `(tactic| (k_here; k_dflt (refine' truthy_mi ?N ?m ?b ?f ?_; (case N => k_asm); (case m => k_mem); (case b => assumption); (case f => omega)); (try dsimp only [Bool.not_true, Bool.not_false])))
local macro_rules | `(tactic| walk_at "call builtin:len") => `(tactic| (k_here; (with_reducible show wpAny _ _ (call (Value.builtin "len") [Value.ref _]) _ _ _); k_dflt (refine' KM.len_K ?N ?m ?s ?f ?_; (case N => k_asm); (case m => k_mem); (case s => assumption); (case f => omega))))
section
variable {prog : Program} {w : World} {p : Program} {loose : List Str} {mean : ExcName → Option Value} {mg mb : Str → Option Value}
    {dp un : Nat} {gd : Option (List Code)} {cn : Str} {cs : Scope} {a : Addr} {ccd : Value} {cl : List (Str × Addr)} {outer : List Env} {A₀ : Around} {base h₀ : Heap} {L : Addr} {m : Str → Option Value} {s : Shared} {Q E : Value → Shared → Prop} {news : List (Addr × Obj)}
set_option maxRecDepth 100000 in
set_option maxHeartbeats 8000000 in
theorem d2i_spec
    (B : Below A₀ base outer h₀) (F : Fr h₀ L s.heap m) (X : (hd.heap_39 w.params).In h₀) (N : News h₀ L s.heap news) (T : Top p loose mean mg mb h₀) (hk : cs.kind = .function)
    (hC : CodeHd base 70 66) (hT : Tab 66 108 4 (Str.ofString "_digits2int.<locals>.inner") news)
    {D : Addr} {vs : List Value} {ds : List Nat} {k0 n : Nat} {tn : Tok} (hDm : (D, listOf vs.toArray k0) ∈ news) (hD9 : @LT.lt Nat _ 109 D) (hi : IntsAre vs (ds.map fun d : Nat => (d : Int))) (hds : ∀ d ∈ ds, d < 2 ^ n) (hds64 : ds.length ≤ 64) (hn : 1 ≤ n) (hn2 : n ≤ 10)
    (hdp : dp + 70 < recursionLimit) (hun : un + 600 < cLine)
    (hret : ∀ news' t h' tk', Fr h₀ L h' m → News h₀ L h' news' → TMade 66 108 4 (Str.ofString "_digits2int.<locals>.inner") news' → (∀ q ∈ news, q.1 ≠ 66 → q ∈ news') → Q (.int ((dval n ds : Nat) : Int) t) { s with heap := h', toks := tk' }) :
    wpAny (model prog w) (ktrTop dp un gd cn cs L a ccd cl outer) (call (.ref 71) [.ref D, .int (n : Int) tn]) Q E s := by
  have hvl : vs.length = ds.length := by rw [hi.length, List.length_map]
  have hvz : vs.toArray.size = ds.length := by rw [List.size_toArray, hvl]
  obtain ⟨b, hbE⟩ : ∃ b, vs.toArray.isEmpty = b := ⟨_, rfl⟩
  rcases hT with hT | ⟨c', oc, cvs, t, hT, hO, hD, hV, hc'⟩
  · obtain ⟨rest, N1, h66, hin⟩ := news_front N hT
    have hDr : (D, listOf vs.toArray k0) ∈ rest := hin _ hDm (fun q => absurd hD9 (by rw [show D = 66 from q]; decide))
    clear N
    cases b with
    | true =>
      have hd0 : ds = [] := by
        have h8 : vs.toArray.size = 0 := by simpa [Array.isEmpty] using hbE
        exact List.eq_nil_of_length_eq_zero (by omega)
      subst hd0
      refine wpAny_call ?_
      k_dflt walk_at "mi enter"
      have hL9 := ltN (above_K (a := 109) (by assumption) (by assumption) (by k_is))
      k_steps
      exact hret _ _ _ _ (by k_asm) (by k_asm) (TMade.intro (by k_mem) (by k_mem) (by k_asm) (by k_asm) (by omega)) (fun q hq hn9 => by
        have h9 := hin q hq hn9
        k_mem)
    | false =>
      refine wpAny_call ?_
      k_dflt walk_at "mi enter"
      have hL9 := ltN (above_K (a := 109) (by assumption) (by assumption) (by k_is))
      k_steps
      have hd1 : 1 ≤ ds.length := by
        have h8 : vs.toArray.size ≠ 0 := by
          intro h7
          simp [Array.isEmpty, h7] at hbE
        omega
      k_dflt (refine' d2i_inner (n := n) (ds := ds) ?zz0 hn hn2 hds hds64 (ds.length - 1) (l := 0) (r := ds.length) (vs := vs) ?zzB ?zzF ?zzX ?zzN ?zzT ?zzk ?zzC ?zzf ?zzc ?zzoc ?zzcv ?zzD ?zzoD ?zzI ?zzoI ?zzN2 ?zzoN ?zzDl hi (by omega) (Nat.le_refl _) ?zzd ?zzu ?_)
      (case zzB => k_asm)
      (case zzF => k_asm)
      (case zzX => k_asm)
      (case zzN => k_asm)
      (case zzT => k_asm)
      (case zzk => exact rfl)
      (case zzC => kn_code)
      (case zzf => k_mem)
      (case zz0 => exact innerDef_is (by k_is) rfl)
      (case zzc => k_mem)
      (case zzoc => assumption)
      (case zzcv => assumption)
      (case zzD => k_mem)
      (case zzoD => assumption)
      (case zzI => k_mem)
      (case zzoI => assumption)
      (case zzN2 => k_mem)
      (case zzoN => assumption)
      (case zzDl => k_mem)
      (case zzd => ktr_room)
      (case zzu => ktr_units)
      rw [show ds.length - 1 + 1 = ds.length by omega, dval_whole]
      intro t1 h1 tk1 F1 N1
      k_steps
      exact hret _ _ _ _ (by k_asm) (by k_asm) (TMade.intro (by k_mem) (by k_mem) (by k_asm) (by k_asm) (by omega)) (fun q hq hn9 => by
        have h9 := hin q hq hn9
        k_mem)
  · cases b with
    | true =>
      have hd0 : ds = [] := by
        have h8 : vs.toArray.size = 0 := by simpa [Array.isEmpty] using hbE
        exact List.eq_nil_of_length_eq_zero (by omega)
      subst hd0
      refine wpAny_call ?_
      k_dflt walk_at "mi enter"
      k_steps
      exact hret _ _ _ _ (by k_asm) (by k_asm) (TMade.intro (by k_mem) (by k_mem) (by k_asm) (by k_asm) (by assumption)) (fun q hq hn9 => by k_mem)
    | false =>
      refine wpAny_call ?_
      k_dflt walk_at "mi enter"
      k_steps
      have hd1 : 1 ≤ ds.length := by
        have h8 : vs.toArray.size ≠ 0 := by
          intro h7
          simp [Array.isEmpty, h7] at hbE
        omega
      k_dflt (refine' d2i_inner (n := n) (ds := ds) ?zz0 hn hn2 hds hds64 (ds.length - 1) (l := 0) (r := ds.length) (vs := vs) ?zzB ?zzF ?zzX ?zzN ?zzT ?zzk ?zzC ?zzf ?zzc ?zzoc ?zzcv ?zzD ?zzoD ?zzI ?zzoI ?zzN2 ?zzoN ?zzDl hi (by omega) (Nat.le_refl _) ?zzd ?zzu ?_)
      (case zzB => k_asm)
      (case zzF => k_asm)
      (case zzX => k_asm)
      (case zzN => k_asm)
      (case zzT => k_asm)
      (case zzk => exact rfl)
      (case zzC => kn_code)
      (case zzf => k_mem)
      (case zz0 => exact innerDef_is (by k_is) rfl)
      (case zzc => k_mem)
      (case zzoc => assumption)
      (case zzcv => assumption)
      (case zzD => k_mem)
      (case zzoD => assumption)
      (case zzI => k_mem)
      (case zzoI => assumption)
      (case zzN2 => k_mem)
      (case zzoN => assumption)
      (case zzDl => k_mem)
      (case zzd => ktr_room)
      (case zzu => ktr_units)
      rw [show ds.length - 1 + 1 = ds.length by omega, dval_whole]
      intro t1 h1 tk1 F1 N1
      k_steps
      exact hret _ _ _ _ (by k_asm) (by k_asm) (TMade.intro (by k_mem) (by k_mem) (by k_asm) (by k_asm) (by assumption)) (fun q hq hn9 => by k_mem)
end
end Mine
-- MAr4
namespace Mine
def digsN (n : Nat) : Nat → Nat → List Nat
  | _, 0 => []
  | x, k + 1 => x % 2 ^ n :: digsN n (x / 2 ^ n) k
theorem digs_map (n : Nat) : ∀ (k x : Nat), digs n x k = (digsN n x k).map fun d : Nat => (d : Int)
  | 0, _ => rfl
  | k + 1, x => by rw [digs, digsN, List.map_cons, digs_map n k]
theorem digsN_length (n : Nat) : ∀ (k x : Nat), (digsN n x k).length = k
  | 0, _ => rfl
  | k + 1, x => by rw [digsN, List.length_cons, digsN_length n k]
theorem digsN_lt (n : Nat) : ∀ (k x : Nat), ∀ d ∈ digsN n x k, d < 2 ^ n
  | 0, _, d, h => by simp [digsN] at h
  | k + 1, x, d, h => by
    rw [digsN] at h
    rcases List.mem_cons.mp h with rfl | h
    · exact Nat.mod_lt _ (Nat.two_pow_pos n)
    · exact digsN_lt n k _ d h
theorem dval_digsN (n : Nat) : ∀ (k x : Nat), x < 2 ^ (n * k) → dval n (digsN n x k) = x
  | 0, x, h => by simp at h; simp [digsN, dval, h]
  | k + 1, x, h => by
    rw [digsN, dval, dval_digsN n k]
    · have := Nat.div_add_mod x (2 ^ n)
      omega
    · refine Nat.div_lt_of_lt_mul ?_
      rwa [← Nat.pow_add, Nat.add_comm, ← Nat.mul_succ]
/-- what stands while the figures are divided, the highest first: qs the figures of the quotient so far, r the rest, dl the figures to come -/
def Divs (n b x : Nat) (qs : List Nat) (r : Nat) (dl : List Nat) : Prop := x = (dval n qs.reverse * b + r) * 2 ^ (n * dl.length) + dval n dl.reverse
theorem Divs.start {n b x : Nat} {dl : List Nat} (h : dval n dl.reverse = x) : Divs n b x [] 0 dl := by
  show x = _
  simp [dval, h]
theorem Divs.step {n b x r d : Nat} {qs dr : List Nat} (h : Divs n b x qs r (d :: dr)) :
    Divs n b x (qs ++ [(r * 2 ^ n + d) / b]) ((r * 2 ^ n + d) % b) dr := by
  unfold Divs at h ⊢
  rw [h, List.reverse_cons, dval_append, List.length_reverse, List.reverse_append]
  show _ = (((r * 2 ^ n + d) / b + 2 ^ n * dval n qs.reverse) * b + (r * 2 ^ n + d) % b) * _ + _
  have e1 := Nat.div_add_mod (r * 2 ^ n + d) b
  have e2 : n * (d :: dr).length = n + n * dr.length := by rw [List.length_cons, Nat.mul_succ, Nat.add_comm]
  rw [e2, Nat.pow_add]
  have e3 : dval n [d] = d := by simp [dval]
  rw [e3]
  generalize (r * 2 ^ n + d) / b = q at *
  generalize (r * 2 ^ n + d) % b = s at *
  generalize dval n qs.reverse = Q at *
  generalize dval n dr.reverse = V at *
  generalize 2 ^ (n * dr.length) = P at *
  generalize 2 ^ n = T at *
  have e4 : (q + T * Q) * b + s = (Q * b + r) * T + d := by
    have : (q + T * Q) * b = b * q + T * Q * b := by rw [Nat.add_mul, Nat.mul_comm q b]
    rw [this, Nat.add_mul, Nat.mul_assoc T Q b, Nat.mul_comm T (Q * b)]
    omega
  rw [e4, Nat.add_mul ((Q * b + r) * T) d P, Nat.mul_assoc, Nat.mul_comm P d]
  omega
theorem Divs.quot_lt {n b r d : Nat} (hr : r < b) (hd : d < 2 ^ n) : (r * 2 ^ n + d) / b < 2 ^ n := by
  refine Nat.div_lt_of_lt_mul ?_
  have : (r + 1) * 2 ^ n ≤ b * 2 ^ n := Nat.mul_le_mul_right _ hr
  rw [Nat.add_mul] at this
  omega
theorem Divs.stop {n b x r : Nat} {qs : List Nat} (hr : r < b) (h : Divs n b x qs r []) : dval n qs.reverse = x / b ∧ r = x % b := by
  unfold Divs at h
  simp [dval] at h
  subst h
  constructor
  · rw [Nat.mul_comm, Nat.mul_add_div (by omega), Nat.div_eq_of_lt hr, Nat.add_zero]
  · rw [Nat.mul_comm, Nat.mul_add_mod, Nat.mod_eq_of_lt hr]
end Mine
-- MDp
namespace Mine
section
variable {prog : Program} {w : World} {A : Around} {E : Value → Shared → Prop} {h₀ : Heap} {env : Env} {x : Str} {body : List Stmt} {Q : Flow → Shared → Prop} {s : Shared} {I : Addr} {lp : Addr × Obj}
/-- a loop over a reversed list, by a word of what is still to come, the frame's names and the ledger -/
theorem revFold (Inv : List Value → (Str → Option Value) → List (Addr × Obj) → Prop)
    (step : ∀ v r m news, Inv (v :: r) m news → ∀ (it : Obj) h tk, it.cls = .type "list_reverseiterator" → Fr h₀ env.locals h (fun y => if y = x then some v else m y) → News h₀ env.locals h ((I, it) :: news) →
      wpAny (model prog w) A (execs body env) (UnrPost h₀ env.locals { s with heap := h, toks := tk } I it (fun m' n' => lp ∈ n' ∧ Inv r m' n') Q) E { s with heap := h, toks := tk })
    (done : ∀ m news, Inv [] m news → ∀ h tk, Fr h₀ env.locals h m → News h₀ env.locals h news → Q .next { s with heap := h, toks := tk }) :
    ∀ (vs : List Value) m news, Inv vs m news → RevRest prog w A E h₀ env x body Q s I lp vs m news
  | [], m, news, h => fun h' tk F N => done m news h h' tk F N
  | v :: r, m, news, h => fun it h' tk hc F N => by
    refine wpAny_mono (step v r m news h it h' tk hc F N) (fun f s₂ p => ?_) fun _ _ e => e
    have fin : UnrEnd h₀ env.locals { s with heap := h', toks := tk } I it (fun m' n' => lp ∈ n' ∧ Inv r m' n') s₂ →
        UnrEnd h₀ env.locals { s with heap := h', toks := tk } I it (fun m' n' => lp ∈ n' ∧ RevRest prog w A E h₀ env x body Q s I lp r m' n') s₂ := by
      rintro ⟨h2, tk2, m2, n2, e, F2, N2, ho, hl, hi⟩
      exact ⟨h2, tk2, m2, n2, e, F2, N2, ho, hl, revFold Inv step done r m2 n2 hi⟩
    cases f with
    | ret v => exact p
    | brk => exact p
    | next => exact fin p
    | cont => exact fin p
end
theorem bitlen_to {prog : Program} {w : World} {A : Around} {E : Value → Shared → Prop} {s : Shared} {a : Int} {t : Tok} {k : Nat} {Q : Value → Shared → Prop} (e : Builtin.Int.intBits a = k) (h : Q (.int (k : Int) s.toks) { s with toks := s.toks + 1 }) :
    wpAny (model prog w) A (call (.builtin "int.bit_length") [.int a t]) Q E s := call_int_bit_length (by rw [e]; exact h)
end Mine
namespace Mine
local macro_rules | `(tactic| k_all) => `(tactic| first | assumption | exact TailLt.ne (by assumption) (by omega))
local macro_rules | `(tactic| k_mem) => `(tactic| (k_dflt assumption))
local macro_rules | `(tactic| walk_at "call builtin:int.bit_length") => `(tactic| (k_here; k_dflt (refine' bitlen_to ?e ?_; (case e => assumption))))
theorem offI_lt {I : Addr} {it : Obj} : ∀ {l : List (Addr × Obj)}, AllLt I l → OffI I it l
  | [], _ => trivial
  | _ :: _, h => ⟨.inl (Nat.ne_of_lt h.1), offI_lt h.2⟩
def RInv (m₀ : Str → Option Value) (news₀ : List (Addr × Obj)) (lq : Addr) (n b x : Nat) (rest : List Value) (m : Str → Option Value) (news : List (Addr × Obj)) : Prop :=
  ∃ (r : Nat) (t : Tok) (qs : List Nat) (qv : List Value) (kq : Nat) (u : Str → Option Value) (dl : List Nat),
    m = (fun y => if y = Str.ofString "r" then some (.int (r : Int) t) else if y = Str.ofString "q_digit" then u y else if y = Str.ofString "a_digit" then u y else m₀ y) ∧ news = (lq, listOf qv.toArray kq) :: news₀ ∧
    IntsAre qv (qs.map fun d : Nat => (d : Int)) ∧ IntsAre rest (dl.map fun d : Nat => (d : Int)) ∧ (∀ d ∈ dl, d < 2 ^ n) ∧ (∀ d ∈ qs, d < 2 ^ n) ∧ r < b ∧ qs.length + dl.length ≤ 64 ∧ Divs n b x qs r dl
theorem ktn_ltOf' {I : Addr} {q : Addr × Obj} {l : List (Addr × Obj)} (h : q.1 < I ∧ AllLt I l) : ∀ p ∈ q :: l, p.1 ≠ I := fun p hp => Nat.ne_of_lt (ktn_ltOf (l := q :: l) h p hp)
theorem three_names {m₀ u : Str → Option Value} {R q c : Str} {a b v x : Option Value} :
    (fun y => if y = R then a else if y = q then b else if y = c then v else if y = R then x else if y = q then u y else if y = c then u y else m₀ y) =
      fun y => if y = R then a else if y = q then (fun z => if z = q then b else v) y else if y = c then (fun z => if z = q then b else v) y else m₀ y := by
  funext y
  by_cases h1 : y = R
  · simp only [if_pos h1]
  · by_cases h2 : y = q
    · simp only [if_neg h1, if_pos h2]
    · by_cases h3 : y = c
      · simp only [if_neg h1, if_neg h2, if_pos h3]
      · simp only [if_neg h1, if_neg h2, if_neg h3]
theorem RInv.start {m₀ : Str → Option Value} {news₀ : List (Addr × Obj)} {lq : Addr} {n b x k0 : Nat} {t : Tok} {vs : List Value} {dl : List Nat} (h0 : m₀ (Str.ofString "r") = some (.int 0 t)) (hi : IntsAre vs (dl.map fun d : Nat => (d : Int))) (hd : ∀ d ∈ dl, d < 2 ^ n) (hb : 0 < b) (hl : dl.length ≤ 64)
    (hx : dval n dl.reverse = x) : RInv m₀ news₀ lq n b x vs m₀ ((lq, listOf (List.toArray []) k0) :: news₀) := by
  refine ⟨0, t, [], [], k0, m₀, dl, ?_, rfl, .nil, hi, hd, (fun _ h => nomatch h), hb, by simpa using hl, Divs.start hx⟩
  funext y
  by_cases h : y = Str.ofString "r"
  · subst h; rw [if_pos rfl]; exact h0
  · rw [if_neg h]; split <;> (try split) <;> rfl
local macro_rules | `(tactic| walk_at "call type:reversed") => `(tactic| (k_here; k_dflt (refine' krv_reversed ?F ?N ?l ?_; (case F | N => k_asm); (case l => exact News.isList (by k_asm) (by k_mem))); intro D' h' F' N' l1; (try k_lt l1); (try k_sweep)))
local macro_rules | `(tactic| walk_at "call ref") => `(tactic| (k_here; (with_reducible show wpAny _ _ (call (Value.ref 50) _) _ _ _); k_dflt (refine' d21_spec ?zB ?zF ?zX ?zN ?zT ?zk ?zx ?zb ?zn ?zd ?zu ?_; (case zB | zF => k_asm); (case zX | zN | zT => k_asm); (case zk => exact rfl); (case zx | zb | zn => (constructor <;> omega)); (case zd => ktr_room); (case zu => ktr_units)); (intro d9 t1 t2 h9 tk9 F9 N9 l9); (try k_lt l9); (try dsimp only); (try k_fold)))
local macro_rules | `(tactic| walk_at "binaryOp LShift int int") => `(tactic| (k_here; k_dflt (refine' lshift_to2 ?p ?e ?a ?b ?_; (case e => assumption); (case p => omega); (case a => assumption); (case b => omega))))
local macro_rules | `(tactic| walk_at "call builtin:list.append") => `(tactic| (k_here; (with_reducible show wpAny _ _ (call (Value.builtin _) [Value.ref _, _]) _ _ _); k_dflt (refine' append_K ?k1 ?k2 ?k3 ?_ ?z; (case k1 | k2 => k_asm); (case k3 => k_upd); (case z => (rw [sizeLine_eq, List.size_toArray]; omega)); k_whole); intro h' F' N'; (try k_sweep)))
local macro_rules | `(tactic| walk_at "call builtin:list.reverse") => `(tactic| (k_here; (with_reducible show wpAny _ _ (call (Value.builtin _) [Value.ref _]) _ _ _); k_dflt (refine' kl_reverse ?F ?N ?e ?U ?z ?_; (case F | N => k_asm); (case U => (refine' Upd.head ?a; (case a => exact TailLt.ne (by assumption) (Nat.le_refl _)))); (case e => exact rfl); (case z => (rw [sizeLine_eq]; simp only [List.toList_toArray]; omega))); intro h' F' N'))
section
variable {prog : Program} {w : World} {p : Program} {loose : List Str} {mean : ExcName → Option Value} {mg mb : Str → Option Value}
    {dp un : Nat} {gd : Option (List Code)} {cn : Str} {cs : Scope} {a : Addr} {ccd : Value} {cl : List (Str × Addr)} {outer : List Env} {A₀ : Around} {base h₀ : Heap} {L : Addr} {m : Str → Option Value} {s : Shared} {Q E : Value → Shared → Prop} {news : List (Addr × Obj)}
set_option maxRecDepth 100000 in
set_option maxHeartbeats 8000000 in
theorem dmp_spec
    (B : Below A₀ base outer h₀) (F : Fr h₀ L s.heap m) (X : (hd.heap_39 w.params).In h₀) (N : News h₀ L s.heap news) (T : Top p loose mean mg mb h₀) (hk : cs.kind = .function)
    (hC : CodeHd base 63 59) (hC2 : CodeHd base 70 66) (hT : Tab 59 93 4 (Str.ofString "_int2digits.<locals>.inner") news) (hT2 : Tab 66 108 4 (Str.ofString "_digits2int.<locals>.inner") news)
    {x b : Nat} {tx tb : Tok} (hx : x < 2 ^ 50) (hb0 : 0 < b) (hb : b < 100)
    (hdp : dp + 80 < recursionLimit) (hun : un + 700 < cLine)
    (hret : ∀ news' d t1 t2 h' tk', Fr h₀ L h' m → News h₀ L h' news' → (d, { cls := .type "tuple", data := .seq #[.int ((x / b : Nat) : Int) t1, .int ((x % b : Nat) : Int) t2] }) ∈ news' → TMade 59 93 4 (Str.ofString "_int2digits.<locals>.inner") news' → TMade 66 108 4 (Str.ofString "_digits2int.<locals>.inner") news' → (∀ q ∈ news, q.1 ≠ 59 → q.1 ≠ 66 → q ∈ news') → Q (.ref d) { s with heap := h', toks := tk' }) :
    wpAny (model prog w) (ktrTop dp un gd cn cs L a ccd cl outer) (call (.ref 78) [.int (x : Int) tx, .int (b : Int) tb]) Q E s := by
  have hx60 : x < 2 ^ 60 := by omega
  obtain ⟨n, hnE⟩ : ∃ n, Builtin.Int.intBits (b : Int) = n := ⟨_, rfl⟩
  have hn : 1 ≤ n := by rw [← hnE]; exact bits_pos hb0
  have hn7 : n ≤ 7 := by rw [← hnE]; exact bits_le (Nat.lt_trans hb (by decide))
  have hn2 : n ≤ 10 := by omega
  have hbn : b < 2 ^ n := by rw [← hnE]; exact lt_two_bits b
  obtain ⟨k, hk1, hk2, hk3, hk4, hk5⟩ := cnt hn hx60
  refine wpAny_call ?_
  k_dflt walk_at "mi enter"
  k_steps
  k_dflt (refine' i2d_spec ?zB ?zF ?zX ?zN ?zT ?zk ?zC hT hx60 hn hn2 hk1 hk2 hk3 hk4 hk5 ?zd ?zu ?_)
  (case zB => k_asm)
  (case zF => k_asm)
  (case zX => k_asm)
  (case zN => k_asm)
  (case zT => k_asm)
  (case zk => exact rfl)
  (case zC => kn_code)
  (case zd => ktr_room)
  (case zu => ktr_units)
  intro n9 D9 vs9 h9 tk9 F9 N9 hD9 hi9 hM9 hK9
  try dsimp only
  try k_fold
  k_steps
  have hT9 := TailLt.of0 (news := n9) (by assumption)
  (with_reducible rename News _ _ _ (_ :: _ :: _) => NN)
  (rename Fr _ _ _ _ => FF)
  rw [digs_map] at hi9
  k_dflt (refine' iter_revUnr (lo := listOf vs9.toArray 0) (vs := vs9) (by rfl) FF NN ?zo ?zm rfl rfl ?_)
  (case zo => exact offI_lt (by assumption))
  (case zm => exact .tail _ hD9)
  refine' revFold (RInv _ n9 _ n b x) ?step ?done _ _ _ ?start
  (case start => refine' RInv.start (dl := (digsN n x k).reverse) ?z1 (by rw [List.map_reverse]; exact PyProof.Rows.IntsAre.reverse hi9) (fun d hd => digsN_lt n k x d (List.mem_reverse.mp hd)) hb0 (by rw [List.length_reverse, digsN_length]; exact hk2) (by rw [List.reverse_reverse]; exact dval_digsN n k x hk3); (case z1 => exact rfl))
  · intro v r m2 news2 hInv it h tk hit FF2 NN2
    obtain ⟨r0, t0, qs, qv, kq, u, dl, rfl, rfl, hqv, hdl, hdlt, hqt, hrb, hlen, hDv⟩ := hInv
    have hqvl : qv.length = qs.length := by rw [hqv.length, List.length_map]
    cases dl with
    | nil => cases hdl
    | cons d dr =>
      cases hdl with
      | cons _ td hdr =>
        have hdn := hdlt d (.head _)
        have hn128 : 2 ^ n ≤ 2 ^ 7 := Nat.pow_le_pow_right (by decide) hn7
        obtain ⟨P, hP⟩ : ∃ P, P = r0 * 2 ^ n := ⟨_, rfl⟩
        have e5 : (r0 : Int) * 2 ^ (n : Int).toNat = (P : Int) := by rw [hP]; exact shl_nat _ _
        have hPlt : P ≤ 100 * 128 := by rw [hP]; exact Nat.mul_le_mul (by omega) hn128
        have hbits : Builtin.Int.intBits (r0 : Int) ≤ 1000 := Nat.le_trans (bits_le (k := 7) (by omega)) (by decide)
        have hd128 : d < 128 := Nat.lt_of_lt_of_le hdn hn128
        have hq64 : qs.length + 1 ≤ 64 := by simp only [List.length_cons] at hlen; omega
        k_steps
        (with_reducible rename News _ _ _ (_ :: _ :: _) => N3)
        (try simp only [List.push_toArray] at N3)
        have e6 : Int.fmod ((P : Int) + (d : Int)) (b : Int) = (((r0 * 2 ^ n + d) % b : Nat) : Int) := by
          rw [← hP, ← Int.natCast_add]; exact (Int.ofNat_fmod _ _).symm
        have e7 : Int.fdiv ((P : Int) + (d : Int)) (b : Int) = (((r0 * 2 ^ n + d) / b : Nat) : Int) := by
          rw [← hP, ← Int.natCast_add]; exact (Int.ofNat_fdiv _ _).symm
        rw [e7] at N3
        have N4 := fun p hp => N3 p (.tail _ hp)
        refine' ⟨_, _, _, _, rfl, (by k_asm), N4, ktn_ltOf' (by assumption), .tail _ hD9, _, _, qs ++ [(r0 * 2 ^ n + d) / b], _, _, _, dr, ?minv, rfl, ?hqv, hdr, (fun z hz => hdlt z (.tail _ hz)), ?hqs, Nat.mod_lt _ hb0, ?hl, hDv.step⟩
        (case minv => rw [e6]; exact three_names)
        (case hqv => rw [List.map_append]; exact IntsAre.append hqv (.cons _ _ .nil))
        (case hqs =>
          intro z hz
          rcases List.mem_append.mp hz with hz | hz
          · exact hqt z hz
          · rw [List.mem_singleton.mp hz]; exact Divs.quot_lt hrb hdn)
        (case hl => (simp only [List.length_append, List.length_cons, List.length_nil] at *; omega))
  · intro m2 news2 hInv h tk FF2 NN2
    obtain ⟨r0, t0, qs, qv, kq, u, dl, rfl, rfl, hqv, hdl, hdlt, hqt, hrb, hlen, hDv⟩ := hInv
    have hqvl : qv.length = qs.length := by rw [hqv.length, List.length_map]
    cases dl with
    | cons d dr => cases hdl
    | nil =>
      obtain ⟨hq1, hr1⟩ := hDv.stop hrb
      k_steps
      (with_reducible rename News _ _ _ (_ :: _) => N3)
      have hlq := hM9
      obtain ⟨c9, oc9, cv9, tc9, ha9, hb9, hc9, hd9, he9⟩ := hlq
      have hlq2 := Nat.lt_trans he9 (hT9 _ hb9)
      have hT66 := hT2.keep hK9 (by decide) (by decide)
      have hqvr : IntsAre qv.reverse (qs.reverse.map fun d : Nat => (d : Int)) := by rw [List.map_reverse]; exact PyProof.Rows.IntsAre.reverse hqv
      k_dflt (refine' d2i_spec ?zB ?zF ?zX N3 ?zT ?zk ?zC (hT66.mono fun q hq => .tail _ hq) (.head _) hlq2 hqvr (fun z hz => hqt z (List.mem_reverse.mp hz)) ?zl hn hn2 ?zd ?zu ?_)
      (case zB => k_asm)
      (case zF => k_asm)
      (case zX => k_asm)
      (case zT => k_asm)
      (case zk => exact rfl)
      (case zC => kn_code)
      (case zl => (simp only [List.length_reverse, List.length_nil] at *; omega))
      (case zd => ktr_room)
      (case zu => ktr_units)
      rw [hq1, hr1]
      intro n10 t10 h10 tk10 F10 N10 hM10 hK10
      k_steps
      exact hret _ _ _ _ _ _ (by k_asm) (by k_asm) (.head _) (((hM9.mono fun q hq => .tail _ hq).keep hK10 (by decide) (by decide)).mono fun q hq => .tail _ hq) (hM10.mono fun q hq => .tail _ hq)
        (fun q hq h59 h66 => .tail _ (hK10 q (.tail _ (hK9 q hq h59)) h66))
end
end Mine
-- MTen
namespace Mine
open PySem.Builtin PySem.Builtin.Str
theorem ten_is : PySem.Str.ofString "0123456789" = ⟨#[48, 49, 50, 51, 52, 53, 54, 55, 56, 57]⟩ := by decide +kernel
theorem ten_occ : ∀ k : Nat, k < 10 → occurrences (PySem.Str.ofString "0123456789") ⟨#[48 + k]⟩ 0 (PySem.Str.ofString "0123456789").length 1 = [k] := by decide +kernel
theorem ten_item : ∀ k : Nat, k < 10 → Txt.item (PySem.Str.ofString "0123456789") (k : Int) = ⟨#[48 + k]⟩ := by decide +kernel
section
variable {prog : Program} {w : World} {A : Around} {E : Value → Shared → Prop} {s : Shared} {Q : Value → Shared → Prop} {t u : Tok} {k : Nat}
theorem index10 {c : Nat} (hc : 48 ≤ c ∧ c ≤ 57) (h : Q (.int ((c - 48 : Nat) : Int) s.toks) { s with toks := s.toks + 1 }) :
    wpAny (model prog w) A (call (.builtin "str.index") [.str (PySem.Str.ofString "0123456789") t, .str ⟨#[c]⟩ u]) Q E s := by
  have e := ten_occ (c - 48) (by omega)
  rw [show 48 + (c - 48) = c by omega] at e
  exact SC.index e h
theorem item10 {i : Int} {value slice : PySem.Expr} (e : i = (k : Int)) (hk : k < 10) (h : ∀ t' k', Q (.str ⟨#[48 + k]⟩ t') { s with toks := k' })
    (hs : subscripted slice false (.str (PySem.Str.ofString "0123456789") t) (.int i u) = operate [.str (PySem.Str.ofString "0123456789") t, .int i u] (getItem (.str (PySem.Str.ofString "0123456789") t) (.int i u)) := by with_unfolding_all rfl)
    (ht : ∀ r, letTemporaryGo value (.str (PySem.Str.ofString "0123456789") t) r = pure () := by intro _; with_unfolding_all rfl) :
    wpAny (model prog w) A (subscriptTail value slice (.str (PySem.Str.ofString "0123456789") t) (.int i u)) Q E s := by
  subst e
  refine KXi.item (n := 10) (by decide +kernel) (by omega) (by omega) (by decide) (fun _ => ?_) hs ht
  rw [ten_item k hk]
  exact h _ _
end
section
variable {prog : Program} {w : World} {A : Around} {E : Value → Shared → Prop} {s : Shared} {env : Env} {h₀ : Heap} {x : PySem.Str} {body : List Stmt} {Q : Flow → Shared → Prop}
/-- a loop over a text's signs by a word of the frame's names; the ledger stays -/
theorem strInv {xt : PySem.Str} {tx : Tok} {m₀ : PySem.Str → Option Value} {news : List (Addr × Obj)} (Inv : Nat → (PySem.Str → Option Value) → Prop)
    (hh : A.handled = none) (F : Fr h₀ env.locals s.heap m₀) (N : News h₀ env.locals s.heap news) (h0 : Inv 0 m₀)
    (turn : ∀ i n t m₁ h tk own, xt.cps[i]? = some n → Inv i m₁ → Fr h₀ env.locals h (fun y => if y = x then some (.str ⟨#[n]⟩ t) else m₁ y) → News h₀ env.locals h (news ++ own) →
      wpAny (model prog w) A (execs body env) (InvPostN h₀ env.locals (fun m' nx => nx = news ∧ Inv (i + 1) m') own (news.map (·.1)) { s with heap := h, toks := tk } Q) E { s with heap := h, toks := tk })
    (done : ∀ m₁ h tk, Inv xt.length m₁ → Fr h₀ env.locals h m₁ → News h₀ env.locals h news → Q .next { s with heap := h, toks := tk }) :
    wpAny (model prog w) A (pyIter (.str xt tx)) (fun it s₂ => LoopAtV prog w A h₀ env x body Q E it s₂) E s := by
  refine wpAny_pyIter_str fun o St hW hst => ?_
  have W := hW A hh
  refine loop_invN (fun i m nx => nx = news ∧ Inv i m) W ?_ ?_ ?_ ?_ hst (F.push _) (fun p hp => ⟨Heap.get?_push_of_some _ (N p hp).1, (N p hp).2⟩) ⟨rfl, h0⟩ ?_ ?_
  · intro hm
    exact absurd F.ns.lt ((List.mem_singleton.mp hm) ▸ Nat.lt_irrefl _)
  · intro b' hb
    rw [List.mem_singleton.mp hb]
    exact next_is_new F
  · intro p hp hI
    exact absurd (Heap.lt_size (N p hp).1) ((List.mem_singleton.mp hI) ▸ Nat.lt_irrefl _)
  · intro p hp hI
    exact absurd (Heap.lt_size (N p hp).1) ((List.mem_singleton.mp hI) ▸ Nat.lt_irrefl _)
  · rintro i v m₁ nx h tk own hi ⟨n, u, hn, rfl⟩ _ hoff ⟨rfl, hI⟩ F₁ N₁
    exact turn i n u m₁ h tk own hn hI F₁ N₁
  · rintro m₁ nx h tk ⟨rfl, hI⟩ F₁ N₁
    exact done m₁ h tk hI F₁ N₁
end
end Mine
-- MPaper
namespace Mine
open PySem.NumText in
def PInv (ns : List Nat) (b : Nat) (m₀ : Str → Option Value) (i : Nat) (m : Str → Option Value) : Prop :=
  ∃ (r : Nat) (tr : Tok) (fl : List Nat) (tf : Tok) (u : Str → Option Value),
    m = (fun y => if y = Str.ofString "rest" then some (.int (r : Int) tr) else if y = Str.ofString "figures" then some (.str ⟨fl.toArray⟩ tf) else if y = Str.ofString "value" then u y else if y = Str.ofString "sign" then u y else m₀ y) ∧
    fl.length = i ∧ AllDigits fl ∧ r < b ∧ digitsVal (ns.take i) = digitsVal fl * b + r
theorem empty_is : Str.ofString "" = ⟨([] : List Nat).toArray⟩ := by decide +kernel
theorem PInv.start {ns : List Nat} {b : Nat} {m₀ : Str → Option Value} {tr tf : Tok} (h1 : m₀ (Str.ofString "rest") = some (.int 0 tr)) (h2 : m₀ (Str.ofString "figures") = some (.str (Str.ofString "") tf)) (hb : 0 < b) : PInv ns b m₀ 0 m₀ := by
  refine ⟨0, tr, [], tf, m₀, ?_, rfl, (fun _ h => nomatch h), hb, by simp [NumText.digitsVal]⟩
  funext y
  by_cases a1 : y = Str.ofString "rest"
  · subst a1; rw [if_pos rfl]; exact h1
  · by_cases a2 : y = Str.ofString "figures"
    · subst a2; rw [if_neg a1, if_pos rfl, h2, empty_is]
    · rw [if_neg a1, if_neg a2]; split <;> (try split) <;> rfl
theorem PInv.val {ns fl : List Nat} {b r v i c : Nat} (hc : ns[i]? = some c) (h : NumText.digitsVal (ns.take i) = NumText.digitsVal fl * b + r) (hv : v = r * 10 + (c - 48)) :
    NumText.digitsVal (ns.take (i + 1)) = NumText.digitsVal (fl ++ [48 + v / b]) * b + v % b := by
  rw [List.take_add_one, hc]
  show NumText.digitsVal (ns.take i ++ [c]) = _
  rw [NumText.digitsVal_snoc, NumText.digitsVal_snoc, h]
  have h1 := Nat.div_add_mod v b
  have h2 : 48 + v / b - 48 = v / b := Nat.add_sub_cancel_left ..
  rw [h2, Nat.add_mul, Nat.add_mul, Nat.mul_comm (v / b) b]
  generalize b * (v / b) = q at *
  generalize v % b = s at *
  have h3 : NumText.digitsVal fl * b * 10 = NumText.digitsVal fl * 10 * b := by rw [Nat.mul_assoc, Nat.mul_comm b 10, ← Nat.mul_assoc]
  rw [h3]
  omega
/-- the decimal figures of a natural number -/
def dec (m : Nat) : List Nat := (Nat.toDigits 10 m).map Char.toNat
theorem char_back : ∀ c : Nat, c ≤ 57 → (Char.ofNat c).toNat = c := by decide +kernel
theorem dec_nil {fl : List Nat} (h : NumText.AllDigits fl) (e : fl.dropWhile (· == 48) = []) : dec (NumText.digitsVal fl) = [48] := by
  unfold dec
  rw [NumText.toDigits_all fl h, e]
  rfl
theorem dec_cons {fl r : List Nat} {c : Nat} (h : NumText.AllDigits fl) (e : fl.dropWhile (· == 48) = c :: r) : dec (NumText.digitsVal fl) = c :: r := by
  unfold dec
  rw [NumText.toDigits_all fl h, e]
  show ((c :: r).map Char.ofNat).map Char.toNat = c :: r
  rw [List.map_map]
  conv => rhs; rw [← List.map_id (c :: r)]
  refine List.map_congr_left fun a ha => ?_
  have h1 : a ∈ fl := (List.dropWhile_suffix _).subset (e ▸ ha)
  exact char_back a (h a h1).2
theorem text_snoc (fl : List Nat) (c : Nat) : (⟨fl.toArray⟩ : Str) ++ (⟨#[c]⟩ : Str) = ⟨(fl ++ [c]).toArray⟩ := by
  refine PySem.Str.ext' ?_
  rw [PySem.Str.cps_append]
  simp
theorem lstrip0 {prog : Program} {w : World} {A : Around} {E : Value → Shared → Prop} {s : Shared} {Q : Value → Shared → Prop} {fl S : List Nat} {t u : Tok} (e : S = fl.dropWhile (· == 48)) (hl : fl.length ≤ 20) (h : ∀ t' k, Q (.str ⟨S.toArray⟩ t') { s with toks := k }) :
    wpAny (model prog w) A (call (.builtin "str.lstrip") [.str ⟨fl.toArray⟩ t, .str (Str.ofString "0") u]) Q E s := by
  subst e
  have e1 : Str.ofString "0" = ⟨#[48]⟩ := by decide +kernel
  rw [e1]
  refine SC.lstripChars (fun t' k => ?_) (by rw [sizeLine_eq]; show fl.toArray.size ≤ _; rw [List.size_toArray]; omega)
  rw [lstrip_zeros]
  exact h t' k
theorem four_names {m₀ u : Str → Option Value} {R q c e : Str} {a b v x d f : Option Value} :
    (fun y => if y = R then a else if y = q then b else if y = c then v else if y = e then d else if y = R then x else if y = q then f else if y = c then u y else if y = e then u y else m₀ y) =
      fun y => if y = R then a else if y = q then b else if y = c then (fun z => if z = c then v else d) y else if y = e then (fun z => if z = c then v else d) y else m₀ y := by
  funext y
  by_cases h1 : y = R
  · simp only [if_pos h1]
  · by_cases h2 : y = q
    · simp only [if_neg h1, if_pos h2]
    · by_cases h3 : y = c
      · simp only [if_neg h1, if_neg h2, if_pos h3]
      · by_cases h4 : y = e
        · simp only [if_neg h1, if_neg h2, if_neg h3, if_pos h4]
        · simp only [if_neg h1, if_neg h2, if_neg h3, if_neg h4]
local macro_rules | `(tactic| k_mem) => `(tactic| (k_dflt assumption))
local macro_rules | `(tactic| walk_at "exec For Name Name cons nil") => `(tactic| (k_here; (rename Fr _ _ _ _ => lF'); (with_unfolding_all refine' For_invVF lF' ?k1 ?k2 ?_; (case k1 | k2 => exact rfl); k_whole)))
local macro_rules | `(tactic| walk_at "call builtin:str.index") => `(tactic| (k_here; k_dflt (refine' index10 ?c ?_; (case c => assumption))))
local macro_rules | `(tactic| walk_at "subscriptTail") => `(tactic| (k_here; (with_reducible show wpAny _ _ (subscriptTail _ _ (Value.str (PySem.Str.ofString "0123456789") _) (Value.int _ _)) _ _ _); k_dflt (refine' item10 ?e ?k ?_ ?s ?t; (case e | k => assumption); (case s => with_unfolding_all rfl); (case t => (intro _; with_unfolding_all rfl)); k_whole); intro t' k'))
local macro_rules | `(tactic| walk_at "call builtin:str.lstrip") => `(tactic| (k_here; k_dflt (refine' lstrip0 ?e ?l ?_; (case e => assumption); (case l => omega)); intro t' k'))
section
variable {prog : Program} {w : World} {p : Program} {loose : List Str} {mean : ExcName → Option Value} {mg mb : Str → Option Value}
    {dp un : Nat} {gd : Option (List Code)} {cn : Str} {cs : Scope} {a : Addr} {ccd : Value} {cl : List (Str × Addr)} {outer : List Env} {A₀ : Around} {base h₀ : Heap} {L : Addr} {m : Str → Option Value} {s : Shared} {Q E : Value → Shared → Prop} {news : List (Addr × Obj)}
set_option maxRecDepth 100000 in
set_option maxHeartbeats 8000000 in
theorem paper_spec
    (B : Below A₀ base outer h₀) (F : Fr h₀ L s.heap m) (X : (hd.heap_39 w.params).In h₀) (N : News h₀ L s.heap news) (T : Top p loose mean mg mb h₀) (hk : cs.kind = .function)
    {ns : List Nat} {b : Nat} {tx tb : Tok} (hd : NumText.AllDigits ns) (hl : ns.length ≤ 20) (hb0 : 0 < b) (hb : b < 100)
    (hdp : dp + 1 < recursionLimit) (hun : un + 8 < cLine)
    (hret : ∀ news' d t1 t2 h' tk', Fr h₀ L h' m → News h₀ L h' news' → (d, { cls := .type "tuple", data := .seq #[.str ⟨(dec (NumText.digitsVal ns / b)).toArray⟩ t1, .int ((NumText.digitsVal ns % b : Nat) : Int) t2] }) ∈ news' → (∀ q ∈ news, q ∈ news') → Q (.ref d) { s with heap := h', toks := tk' }) :
    wpAny (model prog w) (ktrTop dp un gd cn cs L a ccd cl outer) (call (.ref 92) [.str ⟨ns.toArray⟩ tx, .int (b : Int) tb]) Q E s := by
  refine wpAny_call ?_
  k_dflt walk_at "mi enter"
  k_steps
  (with_reducible rename News _ _ _ _ => NN)
  (rename Fr _ _ _ _ => FF)
  refine' strInv (PInv ns b _) (by rfl) FF NN ?start ?turn ?done
  (case start => refine' PInv.start ?z1 ?z2 hb0; (case z1 | z2 => exact rfl))
  · intro i c t m₁ h tk own hc hInv F9 N9
    obtain ⟨r, tr, fl, tf, u, rfl, hfl, hfd, hrb, hval⟩ := hInv
    have hc' : ns[i]? = some c := by simpa using hc
    have hcm := hd c (List.mem_of_getElem? hc')
    have hi : i < ns.length := (List.getElem?_eq_some_iff.mp hc').1
    obtain ⟨v, hv⟩ : ∃ v, v = r * 10 + (c - 48) := ⟨_, rfl⟩
    have hv1 : (r : Int) * 10 + ((c - 48 : Nat) : Int) = (v : Int) := by rw [hv]; omega
    have hq : v / b < 10 := by
      refine Nat.div_lt_of_lt_mul ?_
      omega
    have e1 : Int.fdiv ((r : Int) * 10 + ((c - 48 : Nat) : Int)) (b : Int) = ((v / b : Nat) : Int) := by rw [hv1]; exact (Int.ofNat_fdiv _ _).symm
    have e2 : Int.fmod ((r : Int) * 10 + ((c - 48 : Nat) : Int)) (b : Int) = ((v % b : Nat) : Int) := by rw [hv1]; exact (Int.ofNat_fmod _ _).symm
    k_steps
    rw [text_snoc] at *
    refine' ⟨_, _, _, _, _, rfl, (by k_asm), (by k_asm), (fun q hq => List.mem_append_left _ hq), (fun q hq => List.mem_append_right _ hq), rfl, rfl, v % b, _, fl ++ [48 + v / b], _, _, ?mm, ?ml, ?md, Nat.mod_lt _ hb0, PInv.val hc' hval hv⟩
    (case mm => rw [e2]; exact four_names)
    (case ml => rw [List.length_append, hfl]; rfl)
    (case md =>
      intro z hz
      rcases List.mem_append.mp hz with hz | hz
      · exact hfd z hz
      · rw [List.mem_singleton.mp hz]; exact ⟨Nat.le_add_right _ _, Nat.add_le_add_left (Nat.le_of_lt_succ hq) 48⟩)
  · intro m₁ h tk hInv F9 N9
    obtain ⟨r, tr, fl, tf, u, rfl, hfl, hfd, hrb, hval⟩ := hInv
    obtain ⟨S, hS⟩ : ∃ S, S = fl.dropWhile (· == 48) := ⟨_, rfl⟩
    have hfl20 : fl.length ≤ 20 := by rw [hfl]; simpa [Str.length] using hl
    have hq0 : NumText.digitsVal ns / b = NumText.digitsVal fl := by
      have hv : NumText.digitsVal ns = NumText.digitsVal fl * b + r := by
        rw [← hval]; congr 1; rw [List.take_of_length_le]; simp [Str.length]
      rw [hv, Nat.mul_comm, Nat.mul_add_div hb0, Nat.div_eq_of_lt hrb]; rfl
    have hr0 : NumText.digitsVal ns % b = r := by
      have hv : NumText.digitsVal ns = NumText.digitsVal fl * b + r := by
        rw [← hval]; congr 1; rw [List.take_of_length_le]; simp [Str.length]
      rw [hv, Nat.mul_comm, Nat.mul_add_mod, Nat.mod_eq_of_lt hrb]
    rw [hq0, hr0] at hret
    clear hq0 hr0 hval
    have hSl : S.length ≤ 20 := by
      rw [hS]; exact Nat.le_trans (List.dropWhile_suffix _).length_le hfl20
    have hz0 : ((⟨S.toArray⟩ : Str).length : Int) = 0 → dec (NumText.digitsVal fl) = [48] := by
      intro e
      have h9 : S.length = 0 := by simpa [Str.length] using e
      exact dec_nil hfd (hS ▸ List.eq_nil_of_length_eq_zero h9)
    have hz1 : ¬ ((⟨S.toArray⟩ : Str).length : Int) = 0 → dec (NumText.digitsVal fl) = S := by
      intro e
      cases S with
      | nil => exact absurd (by decide) e
      | cons c S => exact dec_cons hfd hS.symm
    k_steps
    · have e := hz1 (by assumption)
      rw [e] at hret
      exact hret _ _ _ _ _ _ (by k_asm) (by k_asm) (List.mem_cons_self ..) (fun q hq => List.mem_cons_of_mem _ (List.mem_cons_of_mem _ hq))
    · have e := hz0 (by assumption)
      rw [e, ← show Str.ofString "0" = ⟨[48].toArray⟩ by decide +kernel] at hret
      exact hret _ _ _ _ _ _ (by k_asm) (by k_asm) (List.mem_cons_self ..) (fun q hq => List.mem_cons_of_mem _ (List.mem_cons_of_mem _ hq))
end
end Mine
-- MDm
namespace Mine
local macro_rules | `(tactic| k_all) => `(tactic| first | assumption | exact TailLt.ne (by assumption) (by omega))
local macro_rules | `(tactic| k_mem) => `(tactic| (k_dflt assumption))
local macro_rules | `(tactic| walk_at "call ref") => `(tactic| (k_here; (with_reducible show wpAny _ _ (call (Value.ref 78) _) _ _ _); k_dflt (refine' dmp_spec ?B ?F ?X ?N ?T ?k ?zC ?zC2 ?tb ?tb2 ?zx ?zb0 ?zb ?d ?u ?_; (case B | F => k_asm); (case X | N | T => k_asm); (case k => first | exact rfl | assumption); (case zC | zC2 => kn_code); (case tb | tb2 => assumption); (case zx | zb0 | zb => assumption); (case d => ktr_room); (case u => ktr_units); intro n9 d9 t1 t2 h' tk' F' N' hd9 hM9 hM8 hK9; (try dsimp only); (try k_fold))))
section
variable {prog : Program} {w : World} {p : Program} {loose : List Str} {mean : ExcName → Option Value} {mg mb : Str → Option Value}
    {dp un : Nat} {gd : Option (List Code)} {cn : Str} {cs : Scope} {a : Addr} {ccd : Value} {cl : List (Str × Addr)} {outer : List Env} {A₀ : Around} {base h₀ : Heap} {L : Addr} {m : Str → Option Value} {s : Shared} {Q E : Value → Shared → Prop} {news : List (Addr × Obj)}
set_option maxRecDepth 100000 in
set_option maxHeartbeats 8000000 in
theorem dm_spec
    (B : Below A₀ base outer h₀) (F : Fr h₀ L s.heap m) (X : (hd.heap_39 w.params).In h₀) (N : News h₀ L s.heap news) (T : Top p loose mean mg mb h₀) (hk : cs.kind = .function)
    (hC : CodeHd base 63 59) (hC2 : CodeHd base 70 66) (hT : Tab 59 93 4 (Str.ofString "_int2digits.<locals>.inner") news) (hT2 : Tab 66 108 4 (Str.ofString "_digits2int.<locals>.inner") news)
    {x b : Nat} {tx tb : Tok} (hx : x < 2 ^ 50) (hb0 : 0 < b) (hb : b < 100)
    (hdp : dp + 81 < recursionLimit) (hun : un + 708 < cLine)
    (hret : ∀ news' d t1 t2 h' tk', Fr h₀ L h' m → News h₀ L h' news' → (d, { cls := .type "tuple", data := .seq #[.int ((x / b : Nat) : Int) t1, .int ((x % b : Nat) : Int) t2] }) ∈ news' → TMade 59 93 4 (Str.ofString "_int2digits.<locals>.inner") news' → TMade 66 108 4 (Str.ofString "_digits2int.<locals>.inner") news' → (∀ q ∈ news, q.1 ≠ 59 → q.1 ≠ 66 → q ∈ news') → Q (.ref d) { s with heap := h', toks := tk' }) :
    wpAny (model prog w) (ktrTop dp un gd cn cs L a ccd cl outer) (call (.ref 85) [.int (x : Int) tx, .int (b : Int) tb]) Q E s := by
  refine wpAny_call ?_
  k_dflt walk_at "mi enter"
  k_steps
  · exfalso; omega
  exact hret _ _ _ _ _ _ (by k_asm) (by k_asm) (by assumption) (by assumption) (by assumption) (by assumption)
end
end Mine
-- MLeft
namespace Mine
local macro_rules | `(tactic| k_all) => `(tactic| first | assumption | exact TailLt.ne (by assumption) (by omega))
local macro_rules | `(tactic| k_mem) => `(tactic| (k_dflt assumption))
theorem TMade.keep2 {P P' P'' : Addr} {l c : Int} {qual : Str} {news news' : List (Addr × Obj)} (h : TMade P l c qual news) (hk : ∀ q ∈ news, q.1 ≠ P' → q.1 ≠ P'' → q ∈ news') (h1 : P ≠ P') (h2 : P' ≤ 109) (h3 : P ≠ P'') (h4 : P'' ≤ 109) : TMade P l c qual news' := by
  obtain ⟨c', oc, vs, t, a, b, d, e, f⟩ := h
  exact ⟨c', oc, vs, t, hk _ a h1 h3, hk _ b (fun q => absurd f (by have q' : c' = P' := q; rw [q']; exact Nat.not_lt.mpr h2)) (fun q => absurd f (by have q' : c' = P'' := q; rw [q']; exact Nat.not_lt.mpr h4)), d, e, f⟩
theorem digitsVal_lt : ∀ (n : Nat) (l : List Nat), l.length = n → NumText.AllDigits l → NumText.digitsVal l < 10 ^ n
  | 0, l, h, _ => by rw [List.eq_nil_of_length_eq_zero h]; decide
  | n + 1, l, h, hd => by
    have hne : l ≠ [] := by intro e; rw [e] at h; simp at h
    have e := List.dropLast_concat_getLast hne
    generalize l.dropLast = ini at e
    generalize l.getLast hne = c at e
    subst e
    have ih := digitsVal_lt n ini (by simpa using h) fun d h9 => hd d (List.mem_append_left _ h9)
    have hc := hd c (List.mem_append_right _ (List.mem_singleton.mpr rfl))
    rw [NumText.digitsVal_snoc, Nat.pow_succ]
    omega
theorem digitsVal_small {l : List Nat} (h : l.length ≤ 15) (hd : NumText.AllDigits l) : NumText.digitsVal l < 2 ^ 50 :=
  Nat.lt_of_lt_of_le (digitsVal_lt _ l rfl hd) (Nat.le_trans (Nat.pow_le_pow_right (by decide) h) (by decide))
theorem str_nat {prog : Program} {w : World} {A : Around} {E : Value → Shared → Prop} {s : Shared} {Q : Value → Shared → Prop} {t : Tok} {q : Nat} (hq : q < 2 ^ 50) (h : ∀ t' k, Q (.str ⟨(dec q).toArray⟩ t') { s with toks := k }) :
    wpAny (model prog w) A (call (.type "str") [.int (q : Int) t]) Q E s := by
  refine P.str_of_int (shown (N := 2 ^ 1920) (by omega) (by omega) (Int.le_refl _)) ?_
  have e : Str.ofString (toString ((q : Nat) : Int)) = ⟨(dec q).toArray⟩ := by
    have e1 := KIN.signs_num q
    refine PySem.Str.ext' ?_
    rw [← Array.toList_inj, e1]
    rfl
  rw [e]
  exact h _ _
section
variable {prog : Program} {w : World} {p : Program} {loose : List Str} {mean : ExcName → Option Value} {mg mb : Str → Option Value}
    {dp un : Nat} {gd : Option (List Code)} {cn : Str} {cs : Scope} {a : Addr} {ccd : Value} {cl : List (Str × Addr)} {outer : List Env} {A₀ : Around} {base h₀ : Heap} {L : Addr} {m : Str → Option Value} {s : Shared} {Q E : Value → Shared → Prop} {news : List (Addr × Obj)}
set_option maxRecDepth 100000 in
set_option maxHeartbeats 8000000 in
theorem left_spec
    (B : Below A₀ base outer h₀) (F : Fr h₀ L s.heap m) (X : (hd.heap_39 w.params).In h₀) (N : News h₀ L s.heap news) (T : Top p loose mean mg mb h₀) (hk : cs.kind = .function)
    (hC0 : CodeHd base 35 31) (hC : CodeHd base 63 59) (hC2 : CodeHd base 70 66)
    (hT0 : Tab 31 53 4 (Str.ofString "_str_to_int_inner.<locals>.inner") news) (hT : Tab 59 93 4 (Str.ofString "_int2digits.<locals>.inner") news) (hT2 : Tab 66 108 4 (Str.ofString "_digits2int.<locals>.inner") news)
    {ns : List Nat} {b lost : Nat} {tx tb tl : Tok} (hd : NumText.AllDigits ns) (hl : ns.length ≤ 15) (hlost : lost < ns.length) (hb0 : 0 < b) (hb : b < 100)
    (hdp : dp + 82 < recursionLimit) (hun : un + 716 < cLine)
    (hret : ∀ news' t h' tk' dr', Fr h₀ L h' m → News h₀ L h' news' → TMade 31 53 4 (Str.ofString "_str_to_int_inner.<locals>.inner") news' → TMade 59 93 4 (Str.ofString "_int2digits.<locals>.inner") news' → TMade 66 108 4 (Str.ofString "_digits2int.<locals>.inner") news' →
      (∀ q ∈ news, q.1 ≠ 31 → q.1 ≠ 59 → q.1 ≠ 66 → q ∈ news') → Q (.str ⟨(dec (NumText.digitsVal (ns.take (ns.length - lost)) / b)).toArray⟩ t) { s with heap := h', toks := tk', drawn := dr' }) :
    wpAny (model prog w) (ktrTop dp un gd cn cs L a ccd cl outer) (call (.ref 99) [.str ⟨ns.toArray⟩ tx, .int (b : Int) tb, .int (lost : Int) tl]) Q E s := by
  obtain ⟨x, hx⟩ : ∃ x : Str, x = ⟨ns.toArray⟩ := ⟨_, rfl⟩
  have hxl : x.length = ns.length := by rw [hx]; rfl
  have hx15 : x.length ≤ 15 := by rw [hxl]; exact hl
  rw [← hx]
  refine wpAny_call ?_
  k_dflt walk_at "mi enter"
  k_steps
  obtain ⟨y, hy⟩ : ∃ y : Str, y = ⟨(ns.take (ns.length - lost)).toArray⟩ := ⟨_, rfl⟩
  have hyl : y.cps.toList = ns.take (ns.length - lost) := by rw [hy]
  have hsl : Txt.slice x none (some ((x.length : Int) - (lost : Int))) = y := by
    rw [slice_to (by omega) (by omega), hy, hx]
    have e : ((ns.length : Int) - (lost : Int)).toNat = ns.length - lost := by omega
    show (⟨(ns.take (((⟨ns.toArray⟩ : Str).length : Int) - (lost : Int)).toNat).toArray⟩ : Str) = _
    rw [show (⟨ns.toArray⟩ : Str).length = ns.length from rfl, e]
  rw [hsl]
  have hyd : NumText.AllDigits y.cps.toList := by rw [hyl]; exact fun c hc => hd c (List.mem_of_mem_take hc)
  have hyz : y.length = ns.length - lost := by rw [hy]; show (ns.take _).toArray.size = _; rw [List.size_toArray, List.length_take]; omega
  have hyn : y.cps.toList ≠ [] := by intro e; have e2 : y.cps.toList.length = 0 := by rw [e]; rfl
                                     rw [Array.length_toList] at e2; have e3 : y.length = 0 := e2; omega
  k_dflt (refine' ifs_spec ?zB ?zF ?zX ?zN ?zT ?zk ?zC hT0 (by omega) hyd hyn ?zd ?zu ?_)
  (case zB => k_asm)
  (case zF => k_asm)
  (case zX => k_asm)
  (case zN => k_asm)
  (case zT => k_asm)
  (case zk => exact rfl)
  (case zC => kn_code)
  (case zd => ktr_room)
  (case zu => ktr_units)
  intro n9 t9 h9 tk9 dr9 F9 N9 hM9 hK9
  have hv := digitsVal_small (by rw [Array.length_toList]; show y.length ≤ 15; omega) hyd
  rw [← hyl] at hret
  obtain ⟨V, hV⟩ : ∃ V, NumText.digitsVal y.cps.toList = V := ⟨_, rfl⟩
  rw [hV] at hv hret
  rw [hV]
  try dsimp only
  try k_fold
  k_steps
  k_dflt (refine' dm_spec ?zB ?zF ?zX ?zN ?zT ?zk ?zC ?zC2 (hT.keep hK9 (by decide) (by decide)) (hT2.keep hK9 (by decide) (by decide)) hv hb0 hb ?zd ?zu ?_)
  (case zB => k_asm)
  (case zF => k_asm)
  (case zX => k_asm)
  (case zN => k_asm)
  (case zT => k_asm)
  (case zk => exact rfl)
  (case zC => kn_code)
  (case zC2 => kn_code)
  (case zd => ktr_room)
  (case zu => ktr_units)
  intro n8 d8 t1 t2 h8 tk8 F8 N8 hd8 hM8 hM7 hK8
  try dsimp only
  try k_fold
  k_steps
  k_dflt (refine' str_nat ?zq ?_)
  (case zq => exact Nat.lt_of_le_of_lt (Nat.div_le_self ..) hv)
  intro t6 k6
  k_steps
  exact hret _ _ _ _ _ (by k_asm) (by k_asm) ((hM9.keep2 hK8 (by decide) (by decide) (by decide) (by decide))) hM8 hM7
    (fun q hq h1 h2 h3 => hK8 q (hK9 q hq h1) h2 h3)
end
end Mine
-- MRt
namespace Mine
/-- the last k decimal figures of q, with the leading noughts -/
def figsN : Nat → Nat → List Nat
  | 0, _ => []
  | k + 1, q => (48 + q / 10 ^ k % 10) :: figsN k q
theorem figsN_length : ∀ k q, (figsN k q).length = k
  | 0, _ => rfl
  | k + 1, q => by rw [figsN, List.length_cons, figsN_length]
theorem digitsVal_app (a : List Nat) : ∀ (n : Nat) (b : List Nat), b.length = n → NumText.digitsVal (a ++ b) = NumText.digitsVal a * 10 ^ n + NumText.digitsVal b
  | 0, b, h => by rw [List.eq_nil_of_length_eq_zero h, List.append_nil]; simp [NumText.digitsVal]
  | n + 1, b, h => by
    have hne : b ≠ [] := by intro e; rw [e] at h; simp at h
    have e := List.dropLast_concat_getLast hne
    generalize b.dropLast = ini at e
    generalize b.getLast hne = c at e
    subst e
    rw [← List.append_assoc, NumText.digitsVal_snoc, NumText.digitsVal_snoc, digitsVal_app a n ini (by simpa using h), Nat.pow_succ, Nat.add_mul, ← Nat.mul_assoc]
    omega
/-- what stands in «value» after i turns, up to a multiple of a power of ten -/
def RV (b q c i : Nat) (v : Int) : Prop := ∃ z : Int, v = ((q / 10 ^ i : Nat) : Int) * (b : Int) + ((10 ^ (c - i) : Nat) : Int) * z
theorem RV.start {ns : List Nat} {b r c : Nat} (hc : c ≤ ns.length) (hr : NumText.digitsVal ns % b = r) : RV b (NumText.digitsVal ns / b) c 0 ((NumText.digitsVal (ns.drop (ns.length - c)) : Nat) - (r : Int)) := by
  refine ⟨-((NumText.digitsVal (ns.take (ns.length - c)) : Nat) : Int), ?_⟩
  have h := digitsVal_app (ns.take (ns.length - c)) c (ns.drop (ns.length - c)) (by rw [List.length_drop]; omega)
  rw [List.take_append_drop] at h
  have h2 := Nat.div_add_mod (NumText.digitsVal ns) b
  rw [hr] at h2
  rw [Nat.pow_zero, Nat.div_one, Nat.sub_zero, Int.mul_neg, ← Int.natCast_mul, ← Int.natCast_mul]
  rw [Nat.mul_comm] at h2
  rw [Nat.mul_comm _ (10 ^ c)] at h
  generalize NumText.digitsVal ns / b * b = X at *
  generalize 10 ^ c * NumText.digitsVal (ns.take (ns.length - c)) = Y at *
  omega
theorem RV.here {b q c i : Nat} {v : Int} (h : RV b q c i v) (hi : i < c) : ∃ y : Int, v = ((q / 10 ^ i % 10 : Nat) : Int) * (b : Int) + 10 * y := by
  obtain ⟨z, hz⟩ := h
  have e : c - i = (c - i - 1) + 1 := by omega
  have h2 := Nat.div_add_mod (q / 10 ^ i) 10
  refine ⟨((q / 10 ^ i / 10 : Nat) : Int) * (b : Int) + ((10 ^ (c - i - 1) : Nat) : Int) * z, ?_⟩
  rw [hz, e, Nat.pow_succ]
  have h3 : ((q / 10 ^ i : Nat) : Int) = 10 * ((q / 10 ^ i / 10 : Nat) : Int) + ((q / 10 ^ i % 10 : Nat) : Int) := by omega
  rw [h3, Int.add_mul, Int.natCast_mul, Nat.add_sub_cancel]
  generalize ((q / 10 ^ i / 10 : Nat) : Int) = A
  generalize ((q / 10 ^ i % 10 : Nat) : Int) = B
  generalize ((10 ^ (c - i - 1) : Nat) : Int) = C
  rw [Int.mul_add, Int.mul_assoc 10 A, Int.mul_comm C ((10 : Nat) : Int), Int.mul_assoc ((10 : Nat) : Int) C]
  show _ + 10 * (C * z) = _
  omega
theorem RV.step {b q c i : Nat} {v : Int} (h : RV b q c i v) (hi : i < c) : RV b q c (i + 1) (Int.fdiv (v - ((q / 10 ^ i % 10 : Nat) : Int) * (b : Int)) 10) := by
  obtain ⟨z, hz⟩ := h
  have e : c - i = (c - (i + 1)) + 1 := by omega
  refine ⟨z, ?_⟩
  have h2 := Nat.div_add_mod (q / 10 ^ i) 10
  rw [hz, e, Nat.pow_succ]
  have h3 : ((q / 10 ^ i : Nat) : Int) = 10 * ((q / 10 ^ i / 10 : Nat) : Int) + ((q / 10 ^ i % 10 : Nat) : Int) := by omega
  rw [Nat.pow_succ, ← Nat.div_div_eq_div_mul, h3, Int.add_mul, Int.natCast_mul]
  generalize ((q / 10 ^ i / 10 : Nat) : Int) = A
  generalize ((q / 10 ^ i % 10 : Nat) : Int) = B
  generalize ((10 ^ (c - (i + 1)) : Nat) : Int) = C
  have e3 : 10 * A * (b : Int) + B * b + C * ((10 : Nat) : Int) * z - B * b = (A * b + C * z) * 10 := by
    rw [Int.mul_assoc 10 A, Int.add_mul, Int.mul_right_comm C, Int.mul_comm 10 (A * b)]
    show _ + C * z * 10 - _ = _
    omega
  rw [e3]
  exact Int.mul_fdiv_cancel _ (by decide)
theorem unit10 {b : Nat} (hb : Nat.gcd b 10 = 1) : b % 10 = 1 ∨ b % 10 = 3 ∨ b % 10 = 7 ∨ b % 10 = 9 := by
  have h : ∀ k : Nat, k < 10 → Nat.gcd k 10 = 1 → k = 1 ∨ k = 3 ∨ k = 7 ∨ k = 9 := by decide
  refine h (b % 10) (Nat.mod_lt _ (by decide)) ?_
  rw [← Nat.gcd_rec, Nat.gcd_comm]
  exact hb
/-- the one figure that answers -/
theorem RV.pick {b q c i : Nat} {v g : Int} (h : RV b q c i v) (hi : i < c) (hb : Nat.gcd b 10 = 1) (h0 : 0 ≤ g) (h9 : g < 10) : Int.fmod (g * (b : Int) - v) 10 = 0 ↔ g = ((q / 10 ^ i % 10 : Nat) : Int) := by
  obtain ⟨y, rfl⟩ := h.here hi
  have hf : q / 10 ^ i % 10 < 10 := Nat.mod_lt _ (by decide)
  generalize q / 10 ^ i % 10 = f at *
  have h1 := Nat.div_add_mod b 10
  have e : g * (b : Int) - ((f : Int) * (b : Int) + 10 * y) = (g - (f : Int)) * (b : Int) - 10 * y := by rw [Int.sub_mul]; omega
  rw [e, Int.fmod_eq_emod_of_nonneg _ (by decide)]
  have e2 : (b : Int) = 10 * ((b / 10 : Nat) : Int) + ((b % 10 : Nat) : Int) := by omega
  rw [e2, Int.mul_add, Int.mul_left_comm]
  generalize (g - (f : Int)) * ((b / 10 : Nat) : Int) = W
  rcases unit10 hb with h | h | h | h <;> rw [h] <;> omega
end Mine
-- MRight
namespace Mine
local macro_rules | `(tactic| k_all) => `(tactic| first | assumption | exact TailLt.ne (by assumption) (by omega))
local macro_rules | `(tactic| k_mem) => `(tactic| (k_dflt assumption))
local macro_rules | `(tactic| walk_at "exec For Name Call cons nil") => `(tactic| (k_here; (rename Fr _ _ _ _ => lF'); (with_unfolding_all refine' For_invVF lF' ?k1 ?k2 ?_; (case k1 | k2 => exact rfl); k_whole)))
local macro_rules | `(tactic| walk_at "pyIter ref") => `(tactic| (k_here; (with_reducible show wpAny _ _ (pyIter (Value.ref _)) (fun it s₂ => LoopAtV _ _ _ _ _ _ _ _ _ it s₂) _ _); (rename Fr _ _ _ _ => lF'); (with_reducible rename News _ _ _ (_ :: _) => lN'); (rename IsRange _ _ _ _ _ _ _ _ => rg); (with_unfolding_all refine iter_rangeUnr (by rfl) rg (small_one (by omega) (by omega) (by omega) (by omega)) (rangeSize_nat _ _) lF' lN' ?_); intro i' l1; (try k_lt l1)))
/-- a loop over range(0, n) by a word of the frame's names and the ledger -/
theorem rangeFold {prog : Program} {w : World} {A : Around} {E : Value → Shared → Prop} {h₀ : Heap} {env : Env} {x : Str} {body : List Stmt} {Q : Flow → Shared → Prop} {s : Shared} {I : Addr} {a : Int} {n : Nat}
    (Inv : Nat → (Str → Option Value) → List (Addr × Obj) → Prop)
    (step : ∀ i m news t h tk, i < n → Inv i m news → Fr h₀ env.locals h (fun y => if y = x then some (.int (a + (i : Int)) t) else m y) → News h₀ env.locals h ((I, itR (a + ((i + 1 : Nat) : Int)) ((n : Int) - ((i + 1 : Nat) : Int))) :: news) →
      wpAny (model prog w) A (execs body env) (UnrPost h₀ env.locals { s with heap := h, toks := tk } I (itR (a + ((i + 1 : Nat) : Int)) ((n : Int) - ((i + 1 : Nat) : Int))) (Inv (i + 1)) Q) E { s with heap := h, toks := tk })
    (done : ∀ m news h tk, Inv n m news → Fr h₀ env.locals h m → News h₀ env.locals h news → Q .next { s with heap := h, toks := tk }) :
    ∀ k i m news, i + k = n → Inv i m news → RangeRest prog w A E h₀ env x body Q s I a n k i m news
  | 0, i, m, news, hi, hI => RangeRest.zero fun h tk F N => done m news h tk (by have e : i = n := by omega
                                                                                 exact e ▸ hI) F N
  | k + 1, i, m, news, hi, hI => RangeRest.succ fun t h tk F N => by
    refine wpAny_mono (step i m news t h tk (by omega) hI F N) (fun f s₂ p => ?_) fun _ _ e => e
    have key : UnrEnd h₀ env.locals { s with heap := h, toks := tk } I (itR (a + ((i + 1 : Nat) : Int)) ((n : Int) - ((i + 1 : Nat) : Int))) (Inv (i + 1)) s₂ →
        UnrEnd h₀ env.locals { s with heap := h, toks := tk } I (itR (a + ((i + 1 : Nat) : Int)) ((n : Int) - ((i + 1 : Nat) : Int))) (RangeRest prog w A E h₀ env x body Q s I a n k (i + 1)) s₂ := by
      rintro ⟨h', tk', m', news', e, F', N', ho, r⟩
      exact ⟨h', tk', m', news', e, F', N', ho, rangeFold Inv step done k (i + 1) m' news' (by omega) r⟩
    cases f with
    | ret v => exact p
    | brk => exact p
    | next => exact key p
    | cont => exact key p
theorem TMade.off {P : Addr} {l c : Int} {qual : Str} {news rest : List (Addr × Obj)} {h₀ h : Heap} {L A1 A2 : Addr} {o1 o2 : Obj} {v1 v2 : Option Value} (T : TMade P l c qual news) (N : News h₀ L h news) (m1 : (A1, o1) ∈ news) (m2 : (A2, o2) ∈ news) (d1 : o1.data = .cell v1) (d2 : o2.data = .cell v2)
    (h1 : P ≠ A1) (h2 : P ≠ A2) (hI : ∀ q ∈ news, q.1 ≠ A1 → q.1 ≠ A2 → q ∈ rest) : TMade P l c qual rest := by
  obtain ⟨c', oc, vs, t, a, b, d, e, f⟩ := T
  refine ⟨c', oc, vs, t, hI _ a h1 h2, hI _ b (fun q => ?_) (fun q => ?_), d, e, f⟩
  · have q' : c' = A1 := q
    have e1 := (N _ b).1
    have e2 := (N _ m1).1
    rw [q'] at e1
    rw [e1] at e2
    have e3 : oc = o1 := Option.some.inj e2
    rw [e3, d1] at d
    cases d
  · have q' : c' = A2 := q
    have e1 := (N _ b).1
    have e2 := (N _ m2).1
    rw [q'] at e1
    rw [e1] at e2
    have e3 : oc = o2 := Option.some.inj e2
    rw [e3, d2] at d
    cases d
theorem news_front2 {h₀ h : Heap} {L P P' : Addr} {o o' : Obj} {news : List (Addr × Obj)} (N : News h₀ L h news) (hm : (P, o) ∈ news) (hm' : (P', o') ∈ news) (hne : P' ≠ P) :
    ∃ rest, News h₀ L h ((P, o) :: (P', o') :: rest) ∧ (∀ q ∈ rest, q.1 ≠ P ∧ q.1 ≠ P') ∧ (∀ q ∈ news, q.1 ≠ P → q.1 ≠ P' → q ∈ rest) := by
  obtain ⟨r1, N1, h1, i1⟩ := news_front N hm
  obtain ⟨r2, N2, h2, i2⟩ := news_front (fun q hq => N1 q (.tail _ hq)) (i1 _ hm' hne)
  refine ⟨r2.filter fun q => decide (q.1 ≠ P), fun q hq => ?_, fun q hq => ⟨of_decide_eq_true (List.mem_filter.mp hq).2, h2 q (List.mem_filter.mp hq).1⟩, fun q hq a b => List.mem_filter.mpr ⟨i2 q (i1 q hq a) b, decide_eq_true a⟩⟩
  rcases List.mem_cons.mp hq with rfl | hq
  · exact N1 _ (.head _)
  · rcases List.mem_cons.mp hq with rfl | hq
    · exact N2 _ (.head _)
    · exact N2 q (.tail _ (List.mem_filter.mp hq).1)
/-- one figure alone answers -/
def FigIs (b : Nat) (v f : Int) : Prop := ∀ g : Int, 0 ≤ g → g < 10 → (Int.fmod (g * (b : Int) - v) 10 = 0 ↔ g = f)
def figG (f : Int) (l : List Int) (k : Int) : List Int := if k = f then l ++ [k] else l
theorem figG_yes {b : Nat} {v f k : Int} {l : List Int} (h : FigIs b v f) (h0 : 0 ≤ k) (h9 : k < 10) (hc : Int.fmod (k * (b : Int) - v) 10 = 0) : figG f l k = l ++ [k] := if_pos ((h k h0 h9).mp hc)
theorem figG_no {b : Nat} {v f k : Int} {l : List Int} (h : FigIs b v f) (h0 : 0 ≤ k) (h9 : k < 10) (hc : ¬ Int.fmod (k * (b : Int) - v) 10 = 0) : figG f l k = l := if_neg fun e => hc ((h k h0 h9).mpr e)
theorem figG_all : ∀ f : Nat, f < 10 → (rangeKs 0 10).foldl (figG (f : Int)) [] = [(f : Int)] := by decide
theorem figG_grows (f : Int) : KPfGrows (figG f) := by
  intro l k
  unfold figG
  split
  · rw [List.length_append]; exact Nat.le_refl _
  · exact Nat.le_succ _
section
variable {prog : Program} {w : World} {A : Around} {h₀ : Heap} {L : Addr} {m : Str → Option Value} {env : Env} {ct elt : PySem.Expr} {x : Str} {scope : Scope} {cl : List (Str × Addr)} {s : Shared} {S : List (Addr × Obj) → Prop} {Fin : List Value → List (Addr × Obj) → Prop} {news : List (Addr × Obj)}
theorem fig_comp {b f : Nat} {v : Int} (hf : FigIs b v (f : Int)) (hf10 : f < 10)
    (turn : ∀ k t I oI C oC D m₂ ys l h tk (E' : Value → Shared → Prop), 0 ≤ k → k < 10 → IntsAre ys l → LCg.NsObj oC m₂ → m₂ x = some (.int k t) → Fr h₀ L h m → News h₀ L h ((I, oI) :: (C, oC) :: (D, LCg.lst ys) :: news) → LCg.Off3 I C D news → ((@Ne Nat I C) ∧ (@Ne Nat I D) ∧ (@Ne Nat C D)) →
      wpAny (model prog w) A (isTrue ct (compEnvC scope cl C env) (eval ct (compEnvC scope cl C env))) (fun b' s' => if b' = true then wpAny (model prog w) A (eval elt (compEnvC scope cl C env)) (LCg.CompEnd h₀ L m { s with heap := h, toks := tk } I oI C oC D (LCg.lst ys) S (fun y news' => KCiEl news l (figG (f : Int) l k) y news')) E' s'
        else LCg.CompEnd h₀ L m { s with heap := h, toks := tk } I oI C oC D (LCg.lst ys) S (fun _ news' => KCiNo news l (figG (f : Int) l k) news') Value.none s') E' { s with heap := h, toks := tk })
    (fin : ∀ t, Fin [.int (f : Int) t] news) : LCt.CompRestT prog w A h₀ L m env ct elt x scope cl s S (fun i v => ∃ t, v = .int (0 + (i : Int)) t) Fin 10 0 [] news := by
  refine kci_range (figG (f : Int)) (fun k t I oI C oC D m₂ ys l h tk E' h1 h2 hI hC hx F N off ne _ => turn k t I oI C oC D m₂ ys l h tk E' h1 (by omega) hI hC hx F N off ne) ?_ (figG_grows _)
  unfold KPfDone
  intro ys hI _
  rw [figG_all f hf10] at hI
  cases hI with
  | cons _ t r => cases r; exact fin t
theorem compEnd_el {h' : Heap} {tk : Nat} {I C D : Addr} {oI oC oD : Obj} {all : List (Addr × Obj)} {l r : List Int} {a : Int} {t : Tok} (F : Fr h₀ L h' m) (N : News h₀ L h' all) (sub : ∀ p ∈ (I, oI) :: (C, oC) :: (D, oD) :: news, p ∈ all) (off : LCg.Off3 I C D news) (hS : S news) (e : r = l ++ [a]) :
    LCg.CompEnd h₀ L m s I oI C oC D oD S (fun y news' => KCiEl news l r y news') (.int a t) { s with heap := h', toks := tk } := LCg.CompEnd.intro F N news sub off hS (kci_el e rfl rfl)
theorem compEnd_no {h' : Heap} {tk : Nat} {I C D : Addr} {oI oC oD : Obj} {all : List (Addr × Obj)} {l r : List Int} {y : Value} (F : Fr h₀ L h' m) (N : News h₀ L h' all) (sub : ∀ p ∈ (I, oI) :: (C, oC) :: (D, oD) :: news, p ∈ all) (off : LCg.Off3 I C D news) (hS : S news) (e : r = l) :
    LCg.CompEnd h₀ L m s I oI C oC D oD S (fun _ news' => KCiNo news l r news') y { s with heap := h', toks := tk } := LCg.CompEnd.intro F N news sub off hS (kci_no e rfl)
end
local macro_rules | `(tactic| walk_at "CompSrcT") => `(tactic| (k_here; k_dflt (refine LCt.CompSrcT.range (by rfl) (by k_asm) (by k_asm) (by assumption) (by decide) (by exact rangeSize_nat _ _) (by exact Nat.le_of_ble_eq_true rfl) ?_; intro g'; (refine' fig_comp ?zf ?zt (fun k' t' I' oI' C' oC' D' m' ys' l' h' tk' E' hlo' hhi' hI' hC' hx' F' N' off' ne' => ?_) ?_); (case zf | zt => assumption))))
local macro_rules | `(tactic| walk_at "CompEnd") => `(tactic| first
  | (refine' compEnd_el ?zF ?zN ?zs ?zo ?zS ?ze; (case zF | zN => assumption); (case zs => exact fun _ h => h); (case zo => assumption); (case zS => exact True.intro); (case ze => exact figG_yes (by assumption) (by assumption) (by assumption) (by assumption)))
  | (refine' compEnd_no ?zF ?zN ?zs ?zo ?zS ?ze; (case zF | zN => assumption); (case zs => exact fun _ h => h); (case zo => assumption); (case zS => exact True.intro); (case ze => exact figG_no (by assumption) (by assumption) (by assumption) (by assumption))))
theorem add_lists {prog : Program} {w : World} {A : Around} {E : Value → Shared → Prop} {s : Shared} {Q : Value → Shared → Prop} {t u : Tok} {a b : List Nat} (hl : a.length + b.length ≤ 64) (h : ∀ t' k, Q (.str ⟨(a ++ b).toArray⟩ t') { s with toks := k }) :
    wpAny (model prog w) A (binaryOp .Add (.str ⟨a.toArray⟩ t) (.str ⟨b.toArray⟩ u)) Q E s := by
  refine PyProof.Rows.add_str (fun t' k => ?_) (by rw [sizeLine_eq]; show a.toArray.size + b.toArray.size ≤ _; rw [List.size_toArray, List.size_toArray]; omega)
  have e : (⟨a.toArray⟩ : Str) ++ (⟨b.toArray⟩ : Str) = ⟨(a ++ b).toArray⟩ := by
    refine PySem.Str.ext' ?_
    rw [PySem.Str.cps_append]
    simp
  rw [e]
  exact h t' k
local macro_rules | `(tactic| walk_at "binaryOp Add str str") => `(tactic| (k_here; k_dflt (refine' add_lists ?zl ?_; (case zl => (simp only [List.length_cons, List.length_nil]; omega))); intro t' k'))
local macro_rules | `(tactic| walk_at "subscriptTail") => `(tactic| (k_here; (with_reducible show wpAny _ _ (subscriptTail _ _ (Value.str (PySem.Str.ofString "0123456789") _) (Value.int _ _)) _ _ _); k_dflt (refine' item10 rfl ?k ?_ ?s ?t; (case k => assumption); (case s => with_unfolding_all rfl); (case t => (intro _; with_unfolding_all rfl)); k_whole); intro t' k'))
def GInv (q c b : Nat) (m₀ : Str → Option Value) (P P' : Addr) (o' : Obj) (news₀ : List (Addr × Obj)) (i : Nat) (m : Str → Option Value) (news : List (Addr × Obj)) : Prop :=
  ∃ (ov : Obj) (v : Int) (tv : Tok) (fl : List Nat) (tf : Tok) (u : Str → Option Value), news = (P, ov) :: (P', o') :: news₀ ∧ ov.data = .cell (some (.int v tv)) ∧
    m = (fun y => if y = Str.ofString "figures" then some (.str ⟨fl.toArray⟩ tf) else if y = Str.ofString "figure" then u y else if y = Str.ofString "k" then u y else m₀ y) ∧ fl = figsN i q ∧ RV b q c i v
theorem GInv.start {q c b : Nat} {m₀ : Str → Option Value} {P P' : Addr} {o' ov : Obj} {news₀ : List (Addr × Obj)} {v : Int} {tv tf : Tok} (h1 : ov.data = .cell (some (.int v tv))) (h2 : m₀ (Str.ofString "figures") = some (.str (Str.ofString "") tf)) (h3 : RV b q c 0 v) :
    GInv q c b m₀ P P' o' news₀ 0 m₀ ((P, ov) :: (P', o') :: news₀) := by
  refine ⟨ov, v, tv, [], tf, m₀, rfl, h1, ?_, rfl, h3⟩
  funext y
  by_cases a2 : y = Str.ofString "figures"
  · subst a2; rw [if_pos rfl, h2, empty_is]
  · rw [if_neg a2]; split <;> (try split) <;> rfl
section
variable {prog : Program} {w : World} {p : Program} {loose : List Str} {mean : ExcName → Option Value} {mg mb : Str → Option Value}
    {dp un : Nat} {gd : Option (List Code)} {cn : Str} {cs : Scope} {a : Addr} {ccd : Value} {cl : List (Str × Addr)} {outer : List Env} {A₀ : Around} {base h₀ : Heap} {L : Addr} {m : Str → Option Value} {s : Shared} {Q E : Value → Shared → Prop} {news : List (Addr × Obj)}
set_option maxRecDepth 100000 in
set_option maxHeartbeats 8000000 in
theorem right_spec
    (B : Below A₀ base outer h₀) (F : Fr h₀ L s.heap m) (X : (hd.heap_39 w.params).In h₀) (N : News h₀ L s.heap news) (T : Top p loose mean mg mb h₀) (hk : cs.kind = .function)
    (hC0 : CodeHd base 35 31)
    (hT0 : Tab 31 53 4 (Str.ofString "_str_to_int_inner.<locals>.inner") news)
    {ns : List Nat} {b r c : Nat} {tx tb tl tr : Tok} (hd : NumText.AllDigits ns) (hl : ns.length ≤ 15) (hc0 : 0 < c) (hc : c ≤ ns.length) (hb0 : 0 < b) (hb : b < 100) (hb10 : Nat.gcd b 10 = 1) (hr : NumText.digitsVal ns % b = r)
    (hdp : dp + 82 < recursionLimit) (hun : un + 716 < cLine)
    (hret : ∀ news' t h' tk' dr', Fr h₀ L h' m → News h₀ L h' news' → TMade 31 53 4 (Str.ofString "_str_to_int_inner.<locals>.inner") news' →
      (∀ q ∈ news, q.1 ≠ 31 → q ∈ news') → Q (.str ⟨(figsN c (NumText.digitsVal ns / b)).toArray⟩ t) { s with heap := h', toks := tk', drawn := dr' }) :
    wpAny (model prog w) (ktrTop dp un gd cn cs L a ccd cl outer) (call (.ref 104) [.str ⟨ns.toArray⟩ tx, .int (b : Int) tb, .int (r : Int) tr, .int (c : Int) tl]) Q E s := by
  obtain ⟨x, hx⟩ : ∃ x : Str, x = ⟨ns.toArray⟩ := ⟨_, rfl⟩
  have hxl : x.length = ns.length := by rw [hx]; rfl
  have hx15 : x.length ≤ 15 := by rw [hxl]; exact hl
  rw [← hx]
  refine wpAny_call ?_
  k_dflt walk_at "mi enter"
  k_steps
  obtain ⟨y, hy⟩ : ∃ y : Str, y = ⟨(ns.drop (ns.length - c)).toArray⟩ := ⟨_, rfl⟩
  have hyl : y.cps.toList = ns.drop (ns.length - c) := by rw [hy]
  have hsl : Txt.slice x (some ((x.length : Int) - (c : Int))) none = y := by
    rw [slice_from (by omega) (by omega), hy, hx]
    have e : ((ns.length : Int) - (c : Int)).toNat = ns.length - c := by omega
    show (⟨(ns.drop (((⟨ns.toArray⟩ : Str).length : Int) - (c : Int)).toNat).toArray⟩ : Str) = _
    rw [show (⟨ns.toArray⟩ : Str).length = ns.length from rfl, e]
  rw [hsl]
  have hyd : NumText.AllDigits y.cps.toList := by rw [hyl]; exact fun c hc => hd c (List.mem_of_mem_drop hc)
  have hyz : y.length = c := by rw [hy]; show (ns.drop _).toArray.size = _; rw [List.size_toArray, List.length_drop]; omega
  have hyn : y.cps.toList ≠ [] := by intro e; have e2 : y.cps.toList.length = 0 := by rw [e]; rfl
                                     rw [Array.length_toList] at e2; have e3 : y.length = 0 := e2; omega
  have hL9 := ltN (above_K (a := 109) (by assumption) (by assumption) (by k_is))
  (with_reducible rename News _ _ _ (_ :: _) => NN)
  (with_reducible rename ∀ p, p ∈ news → p.1 < _ => hL8)
  k_dflt (refine' ifs_spec ?zB ?zF ?zX NN ?zT ?zk ?zC (hT0.mono fun q hq => .tail _ (.tail _ hq)) (by omega) hyd hyn ?zd ?zu ?_)
  (case zB => k_asm)
  (case zF => k_asm)
  (case zX => k_asm)
  (case zT => k_asm)
  (case zk => exact rfl)
  (case zC => kn_code)
  (case zd => ktr_room)
  (case zu => ktr_units)
  intro n9 t9 h9 tk9 dr9 F9 N9 hM9 hK9
  obtain ⟨n8, N8, hO8, hI8⟩ := news_front2 N9 (hK9 _ (.head _) (by show @Ne Nat _ 31; omega)) (hK9 _ (.tail _ (.head _)) (by show @Ne Nat _ 31; omega)) (by show @Ne Nat _ _; omega)
  have hM8 := hM9.off N9 (hK9 _ (.head _) (by show @Ne Nat _ 31; omega)) (hK9 _ (.tail _ (.head _)) (by show @Ne Nat _ 31; omega)) (by assumption) (by assumption) (by show @Ne Nat 31 _; omega) (by show @Ne Nat 31 _; omega) hI8
  have hK8 : ∀ q ∈ news, q.1 ≠ 31 → q ∈ n8 := fun q hq h31 => hI8 q (hK9 q (.tail _ (.tail _ hq)) h31) (by have hz := hL8 q hq; intro e; rw [e] at hz; exact absurd (show @LT.lt Nat _ _ _ from hz) (by omega)) (by have hz := hL8 q hq; intro e; rw [e] at hz; exact absurd (show @LT.lt Nat _ _ _ from hz) (by omega))
  clear N9
  have hO1 := fun q hq => (hO8 q hq).1
  have hO2 := fun q hq => (hO8 q hq).2
  have hv := digitsVal_small (by rw [Array.length_toList]; show y.length ≤ 15; omega) hyd
  obtain ⟨V, hV⟩ : ∃ V, NumText.digitsVal y.cps.toList = V := ⟨_, rfl⟩
  rw [hV] at hv
  rw [hV]
  try dsimp only
  try k_fold
  k_steps
  have hRV := RV.start (b := b) hc hr
  rw [← hyl, hV] at hRV
  obtain ⟨q, hq⟩ : ∃ q, NumText.digitsVal ns / b = q := ⟨_, rfl⟩
  rw [hq] at hRV hret
  rw [show ((c : Int) - 0).toNat = c by omega]
  refine' rangeFold (GInv q c b _ _ _ _ n8) ?step ?done c 0 _ _ (by omega) ?start
  (case start => refine' GInv.start ?z1 ?z2 hRV; (case z1 => assumption); (case z2 => exact rfl))
  · intro i m1 news1 t h1 tk1 hi hInv F1 N1
    obtain ⟨ov, v, tv, fl, tf, u, e1, hov, e2, hfl, hv9⟩ := hInv
    subst e1 e2
    have hfig : FigIs b v ((q / 10 ^ i % 10 : Nat) : Int) := fun g h0 h9 => hv9.pick hi hb10 h0 h9
    have hstep := hv9.step hi
    have hf10 : q / 10 ^ i % 10 < 10 := Nat.mod_lt _ (by decide)
    generalize hfE : q / 10 ^ i % 10 = f at *
    have hfl2 : fl.length = i := by rw [hfl, figsN_length]
    k_steps
    (with_reducible rename News _ _ _ (_ :: _ :: _) => N3)
    have N4 := fun p hp => N3 p (.tail _ hp)
    refine' ⟨_, _, _, _, rfl, (by k_asm), N4, ?zoff, _, _, _, _, _, _, rfl, (by assumption), ?minv, ?zfl, hstep⟩
    (case minv => exact three_names)
    (case zfl => rw [hfl, figsN, hfE]; rfl)
    (case zoff => exact fun p hp => Nat.ne_of_lt (ktn_ltOf (l := _ :: _ :: n8) (by assumption) p hp))
  · intro m1 news1 h1 tk1 hInv F1 N1
    obtain ⟨ov, v, tv, fl, tf, u, e1, hov, e2, hfl, hv9⟩ := hInv
    subst e1 e2
    k_steps
    rw [hfl] at *
    exact hret _ _ _ _ _ (by k_asm) (by k_asm) (hM8.mono fun q hq => .tail _ (.tail _ hq)) (fun q hq h31 => .tail _ (.tail _ (hK8 q hq h31)))
end
end Mine
-- MCram
namespace Mine
theorem cram_text {W : List Nat} {wd : Int} {x : Str} (hx : x = ⟨W.toArray⟩) (hw1 : -1 ≤ wd) (hlt : wd < (x.length : Int)) :
    Txt.slice x none (some (if (wd - 3).fdiv 2 > 0 then (wd - 3).fdiv 2 else 0)) ++ Str.ofString "..." ++
        Txt.slice x (some ((x.length : Int) - if (wd - 3 - if (wd - 3).fdiv 2 > 0 then (wd - 3).fdiv 2 else 0) > 0 then wd - 3 - if (wd - 3).fdiv 2 > 0 then (wd - 3).fdiv 2 else 0 else 0)) none
      = ⟨(W.take ((wd - 3).toNat / 2) ++ ([46, 46, 46] ++ W.drop (W.length - ((wd - 3).toNat - (wd - 3).toNat / 2)))).toArray⟩ := by
  have hxl : x.length = W.length := by rw [hx]; rfl
  have hxc : x.cps.toList = W := by rw [hx]
  have e0 : (wd - 3).fdiv 2 = (wd - 3) / 2 := Int.fdiv_eq_ediv_of_nonneg _ (by decide)
  obtain ⟨pre, hpre⟩ : ∃ n : Nat, n = (wd - 3).toNat / 2 := ⟨_, rfl⟩
  obtain ⟨post, hpost⟩ : ∃ n : Nat, n = (wd - 3).toNat - (wd - 3).toNat / 2 := ⟨_, rfl⟩
  have e1 : (if (wd - 3).fdiv 2 > 0 then (wd - 3).fdiv 2 else 0) = (pre : Int) := by rw [e0, hpre]; split <;> omega
  rw [e1]
  have e2 : (if wd - 3 - (pre : Int) > 0 then wd - 3 - (pre : Int) else 0) = (post : Int) := by rw [hpre, hpost]; split <;> omega
  rw [e2, ← hpost, ← hpre, slice_to (by omega) (by omega), slice_from (by omega) (by omega), hxc, show Str.ofString "..." = ⟨#[46, 46, 46]⟩ by decide +kernel, hxl]
  rw [show ((pre : Int)).toNat = pre from rfl, show ((W.length : Int) - (post : Int)).toNat = W.length - post by omega]
  refine PySem.Str.ext' ?_
  rw [PySem.Str.cps_append, PySem.Str.cps_append]
  simp
section
variable {prog : Program} {w : World} {p : Program} {loose : List Str} {mean : ExcName → Option Value} {mg mb : Str → Option Value}
    {dp un : Nat} {gd : Option (List Code)} {cn : Str} {cs : Scope} {a : Addr} {ccd : Value} {cl : List (Str × Addr)} {outer : List Env} {A₀ : Around} {base h₀ : Heap} {L : Addr} {m : Str → Option Value} {s : Shared} {Q E : Value → Shared → Prop} {news : List (Addr × Obj)}
set_option maxRecDepth 100000 in
set_option maxHeartbeats 8000000 in
theorem cram_spec
    (B : Below A₀ base outer h₀) (F : Fr h₀ L s.heap m) (X : (hd.heap_39 w.params).In h₀) (N : News h₀ L s.heap news) (T : Top p loose mean mg mb h₀) (hk : cs.kind = .function)
    {W : List Nat} {wd : Int} {tx tw : Tok} (hl : W.length ≤ 15) (hw1 : -1 ≤ wd) (hw2 : wd ≤ 20)
    (hdp : dp + 1 < recursionLimit) (hun : un + 8 < cLine)
    (hret1 : wd < (W.length : Int) → ∀ t h' tk', Fr h₀ L h' m → News h₀ L h' news →
      Q (.str ⟨(W.take ((wd - 3).toNat / 2) ++ ([46, 46, 46] ++ W.drop (W.length - ((wd - 3).toNat - (wd - 3).toNat / 2)))).toArray⟩ t) { s with heap := h', toks := tk' })
    (hret2 : ¬ wd < (W.length : Int) → ∀ t h' tk', Fr h₀ L h' m → News h₀ L h' news → Q (.str ⟨W.toArray⟩ t) { s with heap := h', toks := tk' }) :
    wpAny (model prog w) (ktrTop dp un gd cn cs L a ccd cl outer) (call (.ref 21) [.str ⟨W.toArray⟩ tx, .int wd tw]) Q E s := by
  obtain ⟨x, hx⟩ : ∃ x : Str, x = ⟨W.toArray⟩ := ⟨_, rfl⟩
  have hxl : x.length = W.length := by rw [hx]; rfl
  have hx15 : x.length ≤ 15 := by rw [hxl]; exact hl
  rw [← hx] at hret2 ⊢
  refine wpAny_call ?_
  k_dflt walk_at "mi enter"
  k_steps
  · rw [cram_text hx hw1 (by assumption)]
    exact hret1 (by omega) _ _ _ (by k_asm) (by k_asm)
  · exact hret2 (by omega) _ _ _ (by k_asm) (by k_asm)
end
end Mine
-- MSig
namespace Mine
def sg (x : Int) : Nat := 48 + (Int.fmod x 10).toNat
def sgs (l : List Int) : List Str := l.map fun k => ⟨#[sg k]⟩
theorem fmod10 (x : Int) : Int.fmod x 10 = (((Int.fmod x 10).toNat : Nat) : Int) := by
  have := fmod_lo x (n := 10) (by decide)
  omega
theorem fmod10_lt (x : Int) : (Int.fmod x 10).toNat < 10 := by
  have := fmod_lo x (n := 10) (by decide)
  have := fmod_hi x (n := 10) (by decide)
  omega
theorem sg_digit (x : Int) : 48 ≤ sg x ∧ sg x ≤ 57 := by
  have := fmod10_lt x
  unfold sg
  omega
theorem sgs_join (l : List Int) : Txt.join (Str.ofString "") (sgs l) = ⟨(l.map sg).toArray⟩ := by
  have e : Str.ofString "" = ⟨#[]⟩ := by decide +kernel
  rw [e]
  show Builtin.Str.glued _ _ = _
  rw [StrLaws.glued_eq_join]
  have h := PyProof.Rows.join_ones (l.map sg)
  rw [List.map_map] at h
  exact h
def SgEl (news : List (Addr × Obj)) (k : Int) (y : Value) (news' : List (Addr × Obj)) : Prop := news' = news ∧ ∃ t : Tok, y = .str ⟨#[sg k]⟩ t
section
variable {prog : Program} {w : World} {A : Around} {h₀ : Heap} {L : Addr} {m : Str → Option Value} {env : Env} {elt : PySem.Expr} {x : Str} {scope : Scope} {cl : List (Str × Addr)} {s : Shared} {S : List (Addr × Obj) → Prop} {P : Nat → Value → Prop} {Fin : List Value → List (Addr × Obj) → Prop} {news : List (Addr × Obj)}
theorem sgn_rest {n : Nat} {ks : List Int} (hks : ks.length = n) (hP : ∀ i v, i < n → P i v → ∃ k t, ks[i]? = some k ∧ v = .int k t)
    (turn : ∀ k t I oI C oC D m₂ ys h tk (E' : Value → Shared → Prop), k ∈ ks → LCg.NsObj oC m₂ → m₂ x = some (.int k t) → Fr h₀ L h m → News h₀ L h ((I, oI) :: (C, oC) :: (D, LCg.lst ys) :: news) → LCg.Off3 I C D news → ((@Ne Nat I C) ∧ (@Ne Nat I D) ∧ (@Ne Nat C D)) →
      wpAny (model prog w) A (eval elt (compEnvC scope cl C env)) (LCg.CompEnd h₀ L m { s with heap := h, toks := tk } I oI C oC D (LCg.lst ys) S (fun y news' => SgEl news k y news')) E' { s with heap := h, toks := tk })
    (fin : ∀ ys, StrsAre ys (sgs ks) → Fin ys news) : LCg.CompRest prog w A h₀ L m env elt x scope cl s S P Fin n 0 [] news := by
  have key : ∀ (j i : Nat) (ys : List Value), i + j = n → StrsAre ys (sgs (ks.take i)) → LCg.CompRest prog w A h₀ L m env elt x scope cl s S P Fin j i ys news := by
    intro j
    induction j with
    | zero =>
      intro i ys hi hy
      have e : i = ks.length := by omega
      subst e
      rw [List.take_length] at hy
      exact LCg.CompRest.zero (fin ys hy)
    | succ j ih =>
      intro i ys hi hy
      refine LCg.CompRest.succ ?_
      intro v I oI C oC D m₂ h tk E' hv hC hx F N off ne
      obtain ⟨k, t, hk, hv'⟩ := hP i v (by omega) hv
      rw [hv'] at hx
      refine wpAny_mono (turn k t I oI C oC D m₂ ys h tk E' (List.mem_of_getElem? hk) hC hx F N off ne) (fun y s₂ hq => ?_) fun _ _ e => e
      obtain ⟨h', tk', nw, e, F', N', off', hS, hn, t', hy'⟩ := hq
      rw [hn] at N' off' hS
      refine ⟨h', tk', news, e, F', N', off', hS, ?_⟩
      rw [hy']
      refine ih (i + 1) _ (by omega) ?_
      rw [List.take_add_one, hk]
      have e9 : sgs (ks.take i ++ (some k).toList) = sgs (ks.take i) ++ [⟨#[sg k]⟩] := by unfold sgs; rw [List.map_append]; rfl
      rw [e9]
      exact StrsAre.append' hy (.cons _ t' .nil)
  exact key n 0 [] (by omega) (by rw [List.take_zero]; exact .nil)
theorem sgn_list {vs : List Value} {ns : List Int} (hi : IntsAre vs ns)
    (turn : ∀ k t I oI C oC D m₂ ys h tk (E' : Value → Shared → Prop), k ∈ ns → LCg.NsObj oC m₂ → m₂ x = some (.int k t) → Fr h₀ L h m → News h₀ L h ((I, oI) :: (C, oC) :: (D, LCg.lst ys) :: news) → LCg.Off3 I C D news → ((@Ne Nat I C) ∧ (@Ne Nat I D) ∧ (@Ne Nat C D)) →
      wpAny (model prog w) A (eval elt (compEnvC scope cl C env)) (LCg.CompEnd h₀ L m { s with heap := h, toks := tk } I oI C oC D (LCg.lst ys) S (fun y news' => SgEl news k y news')) E' { s with heap := h, toks := tk })
    (fin : ∀ ys, StrsAre ys (sgs ns) → Fin ys news) : LCg.CompRest prog w A h₀ L m env elt x scope cl s S (fun i v => vs.toArray[i]? = some v) Fin vs.toArray.size 0 [] news :=
  sgn_rest (ks := ns) (by rw [List.size_toArray]; exact hi.length.symm) (fun i v _ hv => by
    obtain ⟨k, t, e, hk⟩ := IntsAre.at hi i v (by simpa using hv)
    exact ⟨k, t, hk, e⟩) turn fin
theorem compEnd_sg {h' : Heap} {tk : Nat} {I C D : Addr} {oI oC oD : Obj} {all : List (Addr × Obj)} {k : Int} {t : Tok} (F : Fr h₀ L h' m) (N : News h₀ L h' all) (sub : ∀ p ∈ (I, oI) :: (C, oC) :: (D, oD) :: news, p ∈ all) (off : LCg.Off3 I C D news) (hS : S news) :
    LCg.CompEnd h₀ L m s I oI C oC D oD S (fun y news' => SgEl news k y news') (.str ⟨#[48 + (Int.fmod k 10).toNat]⟩ t) { s with heap := h', toks := tk } := LCg.CompEnd.intro F N news sub off hS ⟨rfl, t, rfl⟩
end
def menu (i : Int) : Int := if i = 0 then 7 else if i = 1 then 3 else if i = 2 then 9 else 1
theorem menu_one (i : Int) : menu i = 7 ∨ menu i = 3 ∨ menu i = 9 ∨ menu i = 1 := by
  unfold menu
  by_cases a : i = 0
  · rw [if_pos a]; exact .inl rfl
  · rw [if_neg a]
    by_cases b : i = 1
    · rw [if_pos b]; exact .inr (.inl rfl)
    · rw [if_neg b]
      by_cases c : i = 2
      · rw [if_pos c]; exact .inr (.inr (.inl rfl))
      · rw [if_neg c]; exact .inr (.inr (.inr rfl))
theorem sgs_sum : ∀ ns : List Int, ((sgs ns).map (·.length)).sum = ns.length
  | [] => rfl
  | a :: r => by
    have ih := sgs_sum r
    show (1 : Nat) + ((sgs r).map (·.length)).sum = r.length + 1
    omega
theorem menu_item {prog : Program} {w : World} {A : Around} {E : Value → Shared → Prop} {s : Shared} {h₀ : Heap} {L : Addr} {news : List (Addr × Obj)} {value slice : PySem.Expr} {l : Addr} {t1 t2 t3 t4 : Tok} {x : Int} {u : Tok} {Q : Value → Shared → Prop} {k : Nat} (N : News h₀ L s.heap news) (hm : (l, W.listOf #[.int 7 t1, .int 3 t2, .int 9 t3, .int 1 t4] k) ∈ news)
    (h : ∀ t, Q (.int (menu (Int.fmod x 4)) t) s)
    (hs : subscripted slice false (.ref l) (.int (Int.fmod x 4) u) = operate [.ref l, .int (Int.fmod x 4) u] (getItem (.ref l) (.int (Int.fmod x 4) u)) := by with_unfolding_all rfl) (hg : ∀ r, letTemporaryGo value (.ref l) r = pure () := by intro _; with_unfolding_all rfl) :
    wpAny (model prog w) A (subscriptTail value slice (.ref l) (.int (Int.fmod x 4) u)) Q E s := by
  have h0 := fmod_lo x (n := 4) (by decide)
  have h1 := fmod_hi x (n := 4) (by decide)
  refine kri_item (us := [.int 7 t1, .int 3 t2, .int 9 t3, .int 1 t4]) (a := 0) (n := 4) (g := menu) N hm rfl rfl ?_ h0 h1 (by omega) (fun t => ?_) hs hg
  · exact .cons 7 t1 (.cons 3 t2 (.cons 9 t3 (.cons 1 t4 .nil)))
  · rw [Int.zero_add]; exact h t
theorem by_nat (d : Int) : ∃ b : Nat, 10 * Int.fmod (Int.fdiv d 4) 10 + menu (Int.fmod d 4) = (b : Int) ∧ 0 < b ∧ b < 100 ∧ Nat.gcd b 10 = 1 := by
  have h0 := fmod_lo d (n := 4) (by decide)
  have h1 := fmod_hi d (n := 4) (by decide)
  have h2 := fmod10 (Int.fdiv d 4)
  have h3 := fmod10_lt (Int.fdiv d 4)
  generalize (Int.fmod (Int.fdiv d 4) 10).toNat = k at *
  rw [h2]
  have hm := menu_one (Int.fmod d 4)
  have g : ∀ k : Nat, k < 10 → Nat.gcd (10 * k + 7) 10 = 1 ∧ Nat.gcd (10 * k + 3) 10 = 1 ∧ Nat.gcd (10 * k + 9) 10 = 1 ∧ Nat.gcd (10 * k + 1) 10 = 1 := by decide +kernel
  obtain ⟨g1, g2, g3, g4⟩ := g k h3
  rcases hm with e | e | e | e <;> rw [e]
  · exact ⟨10 * k + 7, by omega, by omega, by omega, g1⟩
  · exact ⟨10 * k + 3, by omega, by omega, by omega, g2⟩
  · exact ⟨10 * k + 9, by omega, by omega, by omega, g3⟩
  · exact ⟨10 * k + 1, by omega, by omega, by omega, g4⟩
theorem join_sgs {prog : Program} {w : World} {A : Around} {E : Value → Shared → Prop} {s : Shared} {D : Addr} {ys : List Value} {ns : List Int} {t : Tok} {Q : Value → Shared → Prop} (hl : s.heap.IsList D ys.toArray) (hi : StrsAre ys (sgs ns)) (hn : ns.length ≤ 64)
    (h : ∀ t' k, Q (.str ⟨(ns.map sg).toArray⟩ t') { s with toks := k }) : wpAny (model prog w) A (call (.builtin "str.join") [.str (Str.ofString "") t, .ref D]) Q E s := by
  refine join_listW hl (by simpa using hi) (by decide) ?_ (fun t' k => ?_)
  · have h1 := sgs_sum ns
    have h2 : (sgs ns).length = ns.length := List.length_map ..
    omega
  · rw [sgs_join]; exact h t' k
end Mine
-- MLoop
namespace Mine
/-- a turn's end, the drawn numbers let go -/
def DEnd (h₀ : Heap) (L : Addr) (s₁ : Shared) (I : Addr) (it : Obj) (rest : (Str → Option Value) → List (Addr × Obj) → Prop) (s₂ : Shared) : Prop :=
  ∃ h' tk dr m' news', s₂ = { s₁ with heap := h', toks := tk, drawn := dr } ∧ Fr h₀ L h' m' ∧ News h₀ L h' ((I, it) :: news') ∧ (∀ p ∈ news', p.1 ≠ I) ∧ rest m' news'
def DPost (h₀ : Heap) (L : Addr) (s₁ : Shared) (I : Addr) (it : Obj) (rest : (Str → Option Value) → List (Addr × Obj) → Prop) (Q : Flow → Shared → Prop) (f : Flow) (s₂ : Shared) : Prop :=
  match f with
  | .ret v => Q (.ret v) s₂
  | .brk => Q .next s₂
  | _ => DEnd h₀ L s₁ I it rest s₂
section
variable {prog : Program} {w : World} {A : Around} {s : Shared} {env : Env} {h₀ : Heap}
def RangeAtD (prog : Program) (w : World) (A : Around) (h₀ : Heap) (env : Env) (x : Str) (body : List Stmt) (Q : Flow → Shared → Prop) (E : Value → Shared → Prop) (xv : Value) (s₁ : Shared) : Prop :=
  ∃ (r : Addr) (a b : Int) (t u v : Tok) (n : Nat) (m₀ : Str → Option Value) (news : List (Addr × Obj)) (Inv : Nat → (Str → Option Value) → List (Addr × Obj) → Prop),
    xv = .ref r ∧ A.handled = none ∧ IsRange s₁.heap r a b 1 t u v ∧ Builtin.Range.small a b 1 = true ∧ Builtin.Range.rangeSize a b 1 = (n : Int) ∧ Fr h₀ env.locals s₁.heap m₀ ∧ News h₀ env.locals s₁.heap news ∧ Inv 0 m₀ news ∧
    (∀ I : Addr, (∀ p ∈ news, p.1 < I) → ∀ i m₁ news₁ t h tk dr, i < n → Inv i m₁ news₁ → (∀ p ∈ news₁, p.1 ≠ I) → Fr h₀ env.locals h (fun y => if y = x then some (.int (a + (i : Int)) t) else m₁ y) → News h₀ env.locals h ((I, itR (a + ((i + 1 : Nat) : Int)) ((n : Int) - ((i + 1 : Nat) : Int))) :: news₁) →
      wpAny (model prog w) A (execs body env) (DPost h₀ env.locals { s₁ with heap := h, toks := tk, drawn := dr } I (itR (a + ((i + 1 : Nat) : Int)) ((n : Int) - ((i + 1 : Nat) : Int))) (Inv (i + 1)) Q) E { s₁ with heap := h, toks := tk, drawn := dr }) ∧
    ∀ m₁ news₁ h tk dr, Inv n m₁ news₁ → Fr h₀ env.locals h m₁ → News h₀ env.locals h news₁ → Q .next { s₁ with heap := h, toks := tk, drawn := dr }
theorem For_rangeD {E : Value → Shared → Prop} {Q : Flow → Shared → Prop} {x : Str} {px pos : Pos} {iter : PySem.Expr} {body : List Stmt} {m₉ : Str → Option Value} (_F : Fr h₀ env.locals s.heap m₉) (hx : env.kindOf x = some .local)
    (hp : (env.scope.kind == .class || (env.scope.kind == .module && env.locals != env.globals)) = false)
    (h : wpAny (model prog w) A (eval iter env) (fun xv s₁ => RangeAtD prog w A h₀ env x body Q E xv s₁) E s)
    (hs : ∀ x, foldedSetIterable iter env x = pure x := by intro _; rfl)
    (hE : PassesOwn (model prog w) A env E := by passes_own) :
    wpAny (model prog w) A (exec (.For (.Name x px) iter body [] pos) env) Q E s := by
  refine wpAny_For (wpAny_mono h (fun xv s₁ h₁ => ?_) fun _ _ e => e) hs
  obtain ⟨r, a, b, t, u, v, n, m₀, news, Inv, rfl, hh, hr, hsmall, hn, F, N, h0, step, hQ⟩ := h₁
  refine wpAny_pyIter_range hr hsmall ?_
  have W := Walks.range (prog := prog) (w := w) hh s₁.heap.objs.size a 1 n
  have hnew := next_is_new F
  have hLI : env.locals ≠ s₁.heap.objs.size := Nat.ne_of_lt F.ns.lt
  have hltI : ∀ p ∈ news, p.1 < s₁.heap.objs.size := fun p hp => Heap.lt_size (N p hp).1
  refine codeAny_forLoop (R := fun r s' => match r with | .ok f => Q f s' | .error e => cameBackBy (model prog w) A env E e s')
    (fun k s' => ∃ i h' tk dr m' news', s' = { s₁ with heap := h', toks := tk, drawn := dr } ∧ IsRangeIter h' s₁.heap.objs.size (a + (i : Nat) * 1) ((n : Int) - (i : Nat)) 1 ∧ Fr h₀ env.locals h' m' ∧ News h₀ env.locals h' news' ∧ (∀ p ∈ news', p.1 ≠ s₁.heap.objs.size) ∧ Inv i m' news' ∧ i ≤ n ∧ k = n + 1 - i) ?_ (n + 1)
    ⟨0, _, s₁.toks, s₁.drawn, m₀, news, rfl, (by show IsRangeIter _ _ _ _ _; rw [hn]; simpa using Heap.get?_push_size _ rfl), F.push _, (fun p hp => ⟨Heap.get?_push_of_some _ (N p hp).1, (N p hp).2⟩), fun p hp => Nat.ne_of_lt (hltI p hp), h0, Nat.zero_le _, rfl⟩
  rintro k s' ⟨i, h', tk, dr, m', news', rfl, hst', F', N', hoff, hJ, hi, rfl⟩
  have next : ∀ h₁ : Heap, (∀ b o, b ∉ [s₁.heap.objs.size] → h'.get? b = some o → h₁.get? b = some o) → Fr h₀ env.locals h₁ m' ∧ News h₀ env.locals h₁ news' := fun h₁ hk₁ =>
    ⟨⟨F'.ns.at' fun o e => hk₁ _ o (fun q => hLI (List.mem_singleton.mp q)) e, fun b o e => hk₁ b o (fun q => by rw [List.mem_singleton.mp q] at e; rw [hnew] at e; cases e) (F'.keep b o e), F'.above⟩,
      fun p hp => ⟨hk₁ _ _ (fun q => hoff p hp (List.mem_singleton.mp q)) (N' p hp).1, (N' p hp).2⟩⟩
  by_cases hlt : i < n
  · refine W.item i _ _ _ hlt hst' fun v h₁ tk₁ hP hst₁ hk₁ => ?_
    obtain ⟨F₁, N₁⟩ := next h₁ hk₁
    obtain ⟨t', rfl⟩ := hP
    refine wpAny_assign_Name (wpAny_storeName_local hx F₁.ns (fun h₂ hn₂ hs₂ => ?_) hp)
    have F₂ := F₁.set hn₂ hs₂
    have hst₂ : h₂.get? s₁.heap.objs.size = some (itR (a + ((i + 1 : Nat) : Int)) ((n : Int) - ((i + 1 : Nat) : Int))) := by
      have q : IsRangeIter h₁ s₁.heap.objs.size (a + ((i + 1 : Nat) : Int) * 1) ((n : Int) - ((i + 1 : Nat) : Int)) 1 := hst₁
      rw [Int.mul_one] at q
      exact (hs₂.2 _ fun z => hLI z.symm).trans q
    have e1 : a + (i : Int) * 1 = a + (i : Int) := by rw [Int.mul_one]
    rw [e1] at F₂
    have N₂ : News h₀ env.locals h₂ ((s₁.heap.objs.size, itR (a + ((i + 1 : Nat) : Int)) ((n : Int) - ((i + 1 : Nat) : Int))) :: news') := fun p hp => by
      rcases List.mem_cons.mp hp with rfl | hp
      · exact ⟨hst₂, hLI.symm, hnew⟩
      · exact N₁.set hs₂ p hp
    refine wpAny_mono (wpAny_passesOwn hE (step _ hltI i m' news' t' h₂ _ dr hlt hJ hoff F₂ N₂)) (fun f s₃ h₃ => ?_) fun _ _ e => e
    have fin : DEnd h₀ env.locals { s₁ with heap := h₂, toks := tk₁ + 1, drawn := dr } s₁.heap.objs.size (itR (a + ((i + 1 : Nat) : Int)) ((n : Int) - ((i + 1 : Nat) : Int))) (Inv (i + 1)) s₃ → ∃ m, m < n + 1 - i ∧ ∃ i h' tk dr m' news', s₃ = { s₁ with heap := h', toks := tk, drawn := dr } ∧ IsRangeIter h' s₁.heap.objs.size (a + (i : Nat) * 1) ((n : Int) - (i : Nat)) 1 ∧ Fr h₀ env.locals h' m' ∧ News h₀ env.locals h' news' ∧ (∀ p ∈ news', p.1 ≠ s₁.heap.objs.size) ∧ Inv i m' news' ∧ i ≤ n ∧ m = n + 1 - i := by
      rintro ⟨h9, tk₃, dr₃, m₃, n₃, rfl, F₃, N₃, ho₃, hI₃⟩
      refine ⟨n + 1 - (i + 1), by omega, i + 1, h9, tk₃, dr₃, m₃, n₃, rfl, ?_, F₃, fun p hp => N₃ p (.tail _ hp), ho₃, hI₃, hlt, rfl⟩
      have q := (N₃ _ (.head _)).1
      show IsRangeIter _ _ _ _ _
      rw [Int.mul_one]
      exact q
    cases f with
    | ret v => exact h₃
    | brk => exact h₃
    | cont => exact fin h₃
    | next => exact fin h₃
  · have hin : i = n := by omega
    subst hin
    refine W.done _ _ _ hst' fun h₁ tk₁ hk₁ => wpAny_execs_nil ?_
    obtain ⟨F₁, N₁⟩ := next h₁ hk₁
    exact hQ m' news' h₁ tk₁ dr hJ F₁ N₁
end
end Mine
-- MPl
namespace Mine
theorem char_of : ∀ k : Nat, k < 10 → (Nat.digitChar k).toNat = 48 + k := by decide
theorem dec_small {q : Nat} (h : q < 10) : dec q = [48 + q] := by
  unfold dec
  rw [Nat.toDigits_of_lt_base h, List.map_cons, List.map_nil, char_of q h]
theorem dec_step {q : Nat} (h : 10 ≤ q) : dec q = dec (q / 10) ++ [48 + q % 10] := by
  have hm : q % 10 < 10 := Nat.mod_lt q (by decide)
  have t : Nat.toDigits 10 (q / 10) ++ Nat.toDigits 10 (q % 10) = Nat.toDigits 10 (10 * (q / 10) + q % 10) := Nat.toDigits_append_toDigits (by decide) (by omega) hm
  rw [Nat.div_add_mod] at t
  unfold dec
  rw [← t, List.map_append, Nat.toDigits_of_lt_base hm, List.map_cons, List.map_nil, char_of _ hm]
theorem dec_pos (q : Nat) : 1 ≤ (dec q).length := by
  by_cases h : q < 10
  · rw [dec_small h]; exact Nat.le_refl _
  · rw [dec_step (by omega), List.length_append]; exact Nat.le_add_left _ _
theorem dec_one {q : Nat} (h : 2 ≤ (dec q).length) : 10 ≤ q := by
  by_cases h9 : q < 10
  · rw [dec_small h9] at h; simp at h
  · omega
theorem dec_len {q : Nat} (h : 10 ≤ q) : (dec q).length = (dec (q / 10)).length + 1 := by rw [dec_step h, List.length_append]; rfl
theorem dec_le : ∀ (n q : Nat), q < 10 ^ (n + 1) → (dec q).length ≤ n + 1
  | 0, q, h => by rw [dec_small (by simpa using h)]; exact Nat.le_refl _
  | n + 1, q, h => by
    by_cases h9 : q < 10
    · rw [dec_small h9]; exact Nat.le_add_left _ _
    · rw [dec_len (by omega)]
      exact Nat.add_le_add_right (dec_le n (q / 10) (Nat.div_lt_of_lt_mul (by rw [Nat.mul_comm, ← Nat.pow_succ]; exact h))) 1
theorem dec_take : ∀ (k q : Nat), k < (dec q).length → dec (q / 10 ^ k) = (dec q).take ((dec q).length - k)
  | 0, q, _ => by rw [Nat.pow_zero, Nat.div_one, Nat.sub_zero, List.take_length]
  | k + 1, q, h => by
    have h10 : 10 ≤ q := dec_one (by omega)
    have hl := dec_len h10
    have ih := dec_take k (q / 10) (by omega)
    rw [Nat.pow_succ, Nat.mul_comm, ← Nat.div_div_eq_div_mul, ih, hl, dec_step h10]
    rw [show (dec (q / 10)).length + 1 - (k + 1) = (dec (q / 10)).length - k by omega]
    exact (List.take_append_of_le_length (Nat.sub_le ..)).symm
theorem figs_snoc : ∀ (k q : Nat), figsN (k + 1) q = figsN k (q / 10) ++ [48 + q % 10]
  | 0, q => by show [48 + q / 1 % 10] = [] ++ [48 + q % 10]; rw [Nat.div_one]; rfl
  | k + 1, q => by
    have ih := figs_snoc k q
    show (48 + q / 10 ^ (k + 1) % 10) :: figsN (k + 1) q = ((48 + q / 10 / 10 ^ k % 10) :: figsN k (q / 10)) ++ [48 + q % 10]
    rw [ih, Nat.pow_succ, Nat.mul_comm, ← Nat.div_div_eq_div_mul]
    rfl
theorem figs_drop : ∀ (k q : Nat), k ≤ (dec q).length → figsN k q = (dec q).drop ((dec q).length - k)
  | 0, q, _ => by rw [Nat.sub_zero, List.drop_length]; rfl
  | k + 1, q, h => by
    rw [figs_snoc]
    by_cases h9 : q < 10
    · have hl : (dec q).length = 1 := by rw [dec_small h9]; rfl
      have hk : k = 0 := by omega
      subst hk
      rw [hl, dec_small h9, Nat.mod_eq_of_lt h9]
      rfl
    · have h10 : 10 ≤ q := by omega
      have hl := dec_len h10
      have ih := figs_drop k (q / 10) (by omega)
      rw [ih, hl, dec_step h10, show (dec (q / 10)).length + 1 - (k + 1) = (dec (q / 10)).length - k by omega]
      exact (List.drop_append_of_le_length (Nat.sub_le ..)).symm
theorem val_take {ns : List Nat} (hd : NumText.AllDigits ns) {k : Nat} (hk : k ≤ ns.length) : NumText.digitsVal (ns.take (ns.length - k)) = NumText.digitsVal ns / 10 ^ k := by
  have h := digitsVal_app (ns.take (ns.length - k)) k (ns.drop (ns.length - k)) (by rw [List.length_drop]; omega)
  rw [List.take_append_drop] at h
  have h2 := digitsVal_lt k (ns.drop (ns.length - k)) (by rw [List.length_drop]; omega) fun c hc => hd c (List.mem_of_mem_drop hc)
  rw [h, Nat.mul_comm, Nat.mul_add_div (Nat.pow_pos (by decide)), Nat.div_eq_of_lt h2, Nat.add_zero]
/-- what comes from the left is the head of the quotient's text -/
theorem left_is {ns : List Nat} {b a : Nat} (hd : NumText.AllDigits ns) (ha : 0 < a) (hl : a ≤ (dec (NumText.digitsVal ns / b)).length) (hn : (dec (NumText.digitsVal ns / b)).length ≤ ns.length) :
    dec (NumText.digitsVal (ns.take (ns.length - ((dec (NumText.digitsVal ns / b)).length - a))) / b) = (dec (NumText.digitsVal ns / b)).take a := by
  rw [val_take hd (by omega), Nat.div_div_eq_div_mul, Nat.mul_comm, ← Nat.div_div_eq_div_mul, dec_take _ _ (by omega)]
  congr 1
  omega
theorem whole_le {ns : List Nat} {b : Nat} (hd : NumText.AllDigits ns) (h1 : 1 ≤ ns.length) : (dec (NumText.digitsVal ns / b)).length ≤ ns.length := by
  have h := digitsVal_lt _ ns rfl hd
  obtain ⟨n, hn⟩ : ∃ n, ns.length = n + 1 := ⟨ns.length - 1, by omega⟩
  rw [hn] at h ⊢
  exact dec_le n _ (Nat.lt_of_le_of_lt (Nat.div_le_self ..) h)
end Mine
-- MTup
namespace Mine
theorem dec_digits (q : Nat) : NumText.AllDigits (dec q) := by
  intro c hc
  obtain ⟨ch, hch, e⟩ := List.mem_map.mp hc
  have r := PyProof.Rows.digit_range (Nat.isDigit_of_mem_toDigits (by decide) (by decide) hch)
  rw [← e]
  exact r
theorem by_nat2 (d : Int) : ∃ b : Nat, 10 * Int.fmod (Int.fdiv d 4) 10 + [7, 3, 9, 1].getD (Int.fmod d 4).toNat 0 = (b : Int) ∧ 0 < b ∧ b < 100 ∧ Nat.gcd b 10 = 1 := by
  have h0 := fmod_lo d (n := 4) (by decide)
  have h1 := fmod_hi d (n := 4) (by decide)
  have h2 := fmod10 (Int.fdiv d 4)
  have h3 := fmod10_lt (Int.fdiv d 4)
  generalize (Int.fmod (Int.fdiv d 4) 10).toNat = k at *
  rw [h2]
  have hk : (Int.fmod d 4).toNat < 4 := by omega
  generalize (Int.fmod d 4).toNat = j at *
  have hm : ∀ j : Nat, j < 4 → ([7, 3, 9, 1] : List Int).getD j 0 = 7 ∨ ([7, 3, 9, 1] : List Int).getD j 0 = 3 ∨ ([7, 3, 9, 1] : List Int).getD j 0 = 9 ∨ ([7, 3, 9, 1] : List Int).getD j 0 = 1 := by decide
  have g : ∀ k : Nat, k < 10 → Nat.gcd (10 * k + 7) 10 = 1 ∧ Nat.gcd (10 * k + 3) 10 = 1 ∧ Nat.gcd (10 * k + 9) 10 = 1 ∧ Nat.gcd (10 * k + 1) 10 = 1 := by decide +kernel
  obtain ⟨g1, g2, g3, g4⟩ := g k h3
  rcases hm j hk with e | e | e | e <;> rw [e]
  · exact ⟨10 * k + 7, by omega, by omega, by omega, g1⟩
  · exact ⟨10 * k + 3, by omega, by omega, by omega, g2⟩
  · exact ⟨10 * k + 9, by omega, by omega, by omega, g3⟩
  · exact ⟨10 * k + 1, by omega, by omega, by omega, g4⟩
theorem str_nat' {prog : Program} {w : World} {A : Around} {E : Value → Shared → Prop} {s : Shared} {Q : Value → Shared → Prop} {t : Tok} {q : Nat} {S : Str} (hS : S = ⟨(dec q).toArray⟩) (hq : q < 2 ^ 50) (h : ∀ t' k, Q (.str S t') { s with toks := k }) :
    wpAny (model prog w) A (call (.type "str") [.int (q : Int) t]) Q E s := str_nat hq fun t' k => hS ▸ h t' k
theorem str_ok {l : List Nat} (hl : l.length ≤ 64) (hd : NumText.AllDigits l) : PyData.strOk ⟨l.toArray⟩ = true := by
  unfold PyData.strOk
  rw [Array.all_eq_true']
  intro c hc
  have h := hd c (by simpa using hc)
  exact decide_eq_true (by omega)
theorem tup_ne {prog : Program} {w : World} {A : Around} {E : Value → Shared → Prop} {s : Shared} {h₀ : Heap} {L a b : Addr} {news : List (Addr × Obj)} {Q : Value → Shared → Prop} {S : Str} {i : Int} {t1 t2 t3 t4 : Tok}
    (N : News h₀ L s.heap news) (ma : (a, { cls := .type "tuple", data := .seq #[.str S t1, .int i t2] }) ∈ news) (mb : (b, { cls := .type "tuple", data := .seq #[.str S t3, .int i t4] }) ∈ news) (hok : PyData.strOk S = true) (hu : A.units + 64 < cLine) (h : Q (.bool false) s) :
    wpAny (model prog w) A (compareOp .NotEq (.ref a) (.ref b)) Q E s := by
  have hsh : SeqAt.shaped (.tuple [.str S, .int i]) = true := by
    simp [SeqAt.shaped, PyData.canLay0, PyData.canLayAll0, PyData.depth, PyData.depthAll, hok]
  refine ne_dataH (reads_tuple_at (N.get ma) rfl rfl (.cons (.str _ _) (.cons (.int _ _) .nil))) (reads_tuple_at (N.get mb) rfl rfl (.cons (.str _ _) (.cons (.int _ _) .nil))) hsh hsh hu ?_
  have e : PyData.eqv (.tuple [.str S, .int i]) (.tuple [.str S, .int i]) = true := by simp [PyData.eqv, PyData.eqvAll]
  rw [e]
  exact h
end Mine
-- MWr
namespace Mine
section
variable {prog : Program} {w : World} {p : Program} {loose : List Str} {mean : ExcName → Option Value} {mg mb : Str → Option Value}
    {dp un : Nat} {gd : Option (List Code)} {cn : Str} {cs : Scope} {a : Addr} {ccd : Value} {cl : List (Str × Addr)} {outer : List Env} {A₀ : Around} {base h₀ : Heap} {L : Addr} {m : Str → Option Value} {s : Shared} {Q E : Value → Shared → Prop} {news : List (Addr × Obj)}
theorem TMade.tab {P : Addr} {l c : Int} {qual : Str} {news : List (Addr × Obj)} (h : TMade P l c qual news) : Tab P l c qual news := .inr h
theorem left_law
    (B : Below A₀ base outer h₀) (F : Fr h₀ L s.heap m) (X : (hd.heap_39 w.params).In h₀) (N : News h₀ L s.heap news) (T : Top p loose mean mg mb h₀) (hk : cs.kind = .function)
    (hC0 : CodeHd base 35 31) (hC : CodeHd base 63 59) (hC2 : CodeHd base 70 66)
    (hT0 : TMade 31 53 4 (Str.ofString "_str_to_int_inner.<locals>.inner") news) (hT : TMade 59 93 4 (Str.ofString "_int2digits.<locals>.inner") news) (hT2 : TMade 66 108 4 (Str.ofString "_digits2int.<locals>.inner") news)
    {ds : List Nat} {b V : Nat} {x S : Str} {ah : Int} {tx tb tl : Tok} (hx : x = ⟨ds.toArray⟩) (hd : NumText.AllDigits ds) (hl1 : 1 ≤ ds.length) (hl : ds.length ≤ 15) (hV : NumText.digitsVal ds = V) (hS : S = ⟨(dec (V / b)).toArray⟩) (ha0 : 0 < ah) (ha1 : ah ≤ (S.length : Int)) (hb0 : 0 < b) (hb : b < 100)
    (hdp : dp + 82 < recursionLimit) (hun : un + 716 < cLine)
    (hret : ∀ news' t h' tk' dr' (y : Str), y = ⟨((dec (V / b)).take ah.toNat).toArray⟩ → y.length ≤ 15 → Fr h₀ L h' m → News h₀ L h' news' → TMade 31 53 4 (Str.ofString "_str_to_int_inner.<locals>.inner") news' → TMade 59 93 4 (Str.ofString "_int2digits.<locals>.inner") news' → TMade 66 108 4 (Str.ofString "_digits2int.<locals>.inner") news' →
      (∀ q ∈ news, q.1 ≠ 31 → q.1 ≠ 59 → q.1 ≠ 66 → q ∈ news') → Q (.str y t) { s with heap := h', toks := tk', drawn := dr' }) :
    wpAny (model prog w) (ktrTop dp un gd cn cs L a ccd cl outer) (call (.ref 99) [.str x tx, .int (b : Int) tb, .int ((S.length : Int) - ah) tl]) Q E s := by
  subst hx hV
  have hwl := whole_le (b := b) hd hl1
  have hSl : S.length = (dec (NumText.digitsVal ds / b)).length := by rw [hS]; rfl
  have e : (S.length : Int) - ah = (((dec (NumText.digitsVal ds / b)).length - ah.toNat : Nat) : Int) := by omega
  rw [e]
  refine left_spec B F X N T hk hC0 hC hC2 hT0.tab hT.tab hT2.tab hd hl (by omega) hb0 hb hdp hun fun news' t h' tk' dr' F' N' m1 m2 m3 hk' => ?_
  rw [left_is hd (by omega) (by omega) hwl]
  exact hret news' t h' tk' dr' _ rfl (by show (List.take _ _).toArray.size ≤ 15; rw [List.size_toArray, List.length_take]; omega) F' N' m1 m2 m3 hk'
theorem right_law
    (B : Below A₀ base outer h₀) (F : Fr h₀ L s.heap m) (X : (hd.heap_39 w.params).In h₀) (N : News h₀ L s.heap news) (T : Top p loose mean mg mb h₀) (hk : cs.kind = .function)
    (hC0 : CodeHd base 35 31)
    (hT0 : TMade 31 53 4 (Str.ofString "_str_to_int_inner.<locals>.inner") news)
    {ds : List Nat} {b V : Nat} {x S : Str} {c : Int} {tx tb tl tr : Tok} (hx : x = ⟨ds.toArray⟩) (hd : NumText.AllDigits ds) (hl1 : 1 ≤ ds.length) (hl : ds.length ≤ 15) (hV : NumText.digitsVal ds = V) (hS : S = ⟨(dec (V / b)).toArray⟩) (ha0 : 0 < c) (ha1 : c ≤ (S.length : Int)) (hb0 : 0 < b) (hb : b < 100) (hb10 : Nat.gcd b 10 = 1)
    (hdp : dp + 82 < recursionLimit) (hun : un + 716 < cLine)
    (hret : ∀ news' t h' tk' dr' (y : Str), y = ⟨((dec (V / b)).drop ((dec (V / b)).length - c.toNat)).toArray⟩ → y.length ≤ 15 → Fr h₀ L h' m → News h₀ L h' news' → TMade 31 53 4 (Str.ofString "_str_to_int_inner.<locals>.inner") news' →
      (∀ q ∈ news, q.1 ≠ 31 → q ∈ news') → Q (.str y t) { s with heap := h', toks := tk', drawn := dr' }) :
    wpAny (model prog w) (ktrTop dp un gd cn cs L a ccd cl outer) (call (.ref 104) [.str x tx, .int (b : Int) tb, .int ((V % b : Nat) : Int) tr, .int c tl]) Q E s := by
  subst hx hV
  have hwl := whole_le (b := b) hd hl1
  have hSl : S.length = (dec (NumText.digitsVal ds / b)).length := by rw [hS]; rfl
  have e : c = ((c.toNat : Nat) : Int) := by omega
  rw [e]
  refine right_spec B F X N T hk hC0 hT0.tab hd hl (by omega) (by omega) hb0 hb hb10 rfl hdp hun fun news' t h' tk' dr' F' N' m1 hk' => ?_
  rw [figs_drop _ _ (by omega)]
  rw [e] at hret
  exact hret news' t h' tk' dr' _ rfl (by show (List.drop _ _).toArray.size ≤ 15; rw [List.size_toArray, List.length_drop]; omega) F' N' m1 hk'
theorem cram_law
    (B : Below A₀ base outer h₀) (F : Fr h₀ L s.heap m) (X : (hd.heap_39 w.params).In h₀) (N : News h₀ L s.heap news) (T : Top p loose mean mg mb h₀) (hk : cs.kind = .function)
    {W : List Nat} {S : Str} {wd : Int} {tx tw : Tok} (hS : S = ⟨W.toArray⟩) (hl : S.length ≤ 15) (hw1 : -1 ≤ wd) (hw2 : wd ≤ 20)
    (hdp : dp + 1 < recursionLimit) (hun : un + 8 < cLine) (D : Str) (hD1 : wd < (S.length : Int) → (⟨(W.take ((wd - 3).toNat / 2) ++ ([46, 46, 46] ++ W.drop (W.length - ((wd - 3).toNat - (wd - 3).toNat / 2)))).toArray⟩ : Str) = D) (hD2 : ¬ wd < (S.length : Int) → S = D)
    (hret : ∀ t h' tk', Fr h₀ L h' m → News h₀ L h' news → Q (.str D t) { s with heap := h', toks := tk' }) :
    wpAny (model prog w) (ktrTop dp un gd cn cs L a ccd cl outer) (call (.ref 21) [.str S tx, .int wd tw]) Q E s := by
  have hSl : S.length = W.length := by rw [hS]; rfl
  rw [hSl] at hl hD1 hD2
  subst hS
  refine cram_spec B F X N T hk hl hw1 hw2 hdp hun (fun h1 t h' tk' F' N' => ?_) fun h2 t h' tk' F' N' => ?_
  · rw [hD1 h1]; exact hret t h' tk' F' N'
  · rw [hD2 h2]; exact hret t h' tk' F' N'
theorem due3 (A C : List Nat) : ((⟨A.toArray⟩ : Str) ++ Str.ofString "...") ++ (⟨C.toArray⟩ : Str) = ⟨(A ++ ([46, 46, 46] ++ C)).toArray⟩ := by
  rw [show Str.ofString "..." = ⟨#[46, 46, 46]⟩ by decide +kernel]
  refine PySem.Str.ext' ?_
  rw [PySem.Str.cps_append, PySem.Str.cps_append]
  simp
theorem due2 (C : List Nat) : Str.ofString "..." ++ (⟨C.toArray⟩ : Str) = ⟨(([46, 46, 46] ++ C)).toArray⟩ := by
  rw [show Str.ofString "..." = ⟨#[46, 46, 46]⟩ by decide +kernel]
  refine PySem.Str.ext' ?_
  rw [PySem.Str.cps_append]
  simp
theorem ne_same {prog : Program} {w : World} {A : Around} {E : Value → Shared → Prop} {s : Shared} {Q : Value → Shared → Prop} {x : Str} {t u : Tok} (h : Q (.bool false) s) : wpAny (model prog w) A (compareOp .NotEq (.str x t) (.str x u)) Q E s :=
  PySem.P.ne_str (by rw [bne_self_eq_false]; exact h)
end
end Mine
-- MLw
namespace Mine
def Stop (p : Prop) : Prop := p
theorem Stop.go {p : Prop} (h : Stop p) : p := h
def funDef (K : Frag) (a : Addr) : Option (List Stmt × Scope) := match K.lookup a with
  | some ⟨_, _, .func fd, _⟩ => (match fd.body with | .stmts b => some (b, fd.scope) | _ => none)
  | _ => none
theorem funDef_of {K : Frag} {a : Addr} {o : Obj} {d : Option (List Stmt × Scope)} {x : List Stmt × Scope} (h : funDef K a = some x) (e : K.lookup a = some o) (e2 : funDef [(a, o)] a = d) : d = some x := by
  rw [← e2, ← h]
  unfold funDef
  rw [e, List.lookup_cons_self]
theorem funDef_is {K : Frag} {a : Addr} {o : Obj} {d : Option (List Stmt × Scope)} (e : K.lookup a = some o) (e2 : funDef [(a, o)] a = d) : funDef K a = d := by
  rw [← e2]
  unfold funDef
  rw [e, List.lookup_cons_self]
end Mine
-- MLwB
namespace Mine
local macro_rules | `(tactic| k_all) => `(tactic| first | assumption | exact TailLt.ne (by assumption) (by omega))
local macro_rules | `(tactic| k_mem) => `(tactic| (k_dflt assumption))
local macro_rules | `(tactic| walk_at "call ref") => `(tactic| (k_here; (with_reducible show wpAny _ _ (call (Value.ref _) _) _ _ _); refine' Stop.go ?_))
local macro_rules | `(tactic| walk_at "call type:str") => `(tactic| (k_here; k_dflt (refine' str_nat' ?zS ?zq ?_; (case zS | zq => assumption)); intro t' k'))
local macro_rules | `(tactic| walk_at "compareOp NotEq str str") => `(tactic| (k_here; k_dflt (refine' ne_same ?_)))
local macro_rules | `(tactic| walk_at "compareOp NotEq ref ref") => `(tactic| (k_here; k_dflt (refine' tup_ne ?zN ?za ?zb ?zo ?zu ?_; (case zN => k_asm); (case za | zb | zo => assumption); (case zu => ktr_units))))
local macro_rules | `(tactic| walk_at "exec For Name Call cons nil") => `(tactic| (k_here; (rename Fr _ _ _ _ => lF'); (with_unfolding_all refine' For_rangeD lF' ?k1 ?k2 ?_ ?hs9 ?hE9; (case k1 | k2 => exact rfl); (case hs9 => (intro _; rfl)); (case hE9 => assumption); k_whole)))
def LInv (m₀ : Str → Option Value) (_i : Nat) (m : Str → Option Value) (news : List (Addr × Obj)) : Prop :=
  (∀ y, y ≠ Str.ofString "due" → y ≠ Str.ofString "about" → y ≠ Str.ofString "ahead" → y ≠ Str.ofString "behind" → y ≠ Str.ofString "width" → m y = m₀ y) ∧
    TMade 31 53 4 (Str.ofString "_str_to_int_inner.<locals>.inner") news ∧ TMade 59 93 4 (Str.ofString "_int2digits.<locals>.inner") news ∧ TMade 66 108 4 (Str.ofString "_digits2int.<locals>.inner") news
theorem LInv.shape {m m₀ : Str → Option Value} (h : ∀ y, y ≠ Str.ofString "due" → y ≠ Str.ofString "about" → y ≠ Str.ofString "ahead" → y ≠ Str.ofString "behind" → y ≠ Str.ofString "width" → m y = m₀ y) :
    ∃ u : Str → Option Value, m = fun y => if y = Str.ofString "due" then u y else if y = Str.ofString "about" then u y else if y = Str.ofString "ahead" then u y else if y = Str.ofString "behind" then u y else if y = Str.ofString "width" then u y else m₀ y := by
  refine ⟨m, funext fun y => ?_⟩
  by_cases a : y = Str.ofString "due"
  · rw [if_pos a]
  · rw [if_neg a]
    by_cases b : y = Str.ofString "about"
    · rw [if_pos b]
    · rw [if_neg b]
      by_cases c : y = Str.ofString "ahead"
      · rw [if_pos c]
      · rw [if_neg c]
        by_cases d : y = Str.ofString "behind"
        · rw [if_pos d]
        · rw [if_neg d]
          by_cases e : y = Str.ofString "width"
          · rw [if_pos e]
          · rw [if_neg e]; exact h y a b c d e
theorem TMade.offI {P I : Addr} {l c : Int} {qual : Str} {news rest : List (Addr × Obj)} {h₀ h : Heap} {L : Addr} {a b : Int} (T : TMade P l c qual news) (N : News h₀ L h news) (mem : (I, itR a b) ∈ news) (hP : P ≠ I) (hin : ∀ q ∈ news, q.1 ≠ I → q ∈ rest) : TMade P l c qual rest := by
  obtain ⟨c', oc, vs, t, a1, b1, d, e, f⟩ := T
  refine ⟨c', oc, vs, t, hin _ a1 hP, hin _ b1 (fun q => ?_), d, e, f⟩
  have q' : c' = I := q
  have e1 := (N _ b1).1
  have e2 := (N _ mem).1
  rw [q'] at e1
  rw [e1] at e2
  have e3 : oc = itR a b := Option.some.inj e2
  rw [e3] at d
  injection d with d
  rw [← d] at e
  cases e
theorem DEnd.of {h₀ : Heap} {L : Addr} {s₁ : Shared} {I : Addr} {a b : Int} {h' : Heap} {tk : Nat} {dr : Drawn} {m' m₀ : Str → Option Value} {n' : List (Addr × Obj)} {i : Nat} (F : Fr h₀ L h' m') (N : News h₀ L h' n') (mem : (I, itR a b) ∈ n')
    (hm : ∀ y, y ≠ Str.ofString "due" → y ≠ Str.ofString "about" → y ≠ Str.ofString "ahead" → y ≠ Str.ofString "behind" → y ≠ Str.ofString "width" → m' y = m₀ y)
    (h1 : TMade 31 53 4 (Str.ofString "_str_to_int_inner.<locals>.inner") n') (h2 : TMade 59 93 4 (Str.ofString "_int2digits.<locals>.inner") n') (h3 : TMade 66 108 4 (Str.ofString "_digits2int.<locals>.inner") n')
    (h31 : (31 : Nat) < I) (h59 : (59 : Nat) < I) (h66 : (66 : Nat) < I) : DEnd h₀ L s₁ I (itR a b) (LInv m₀ i) { s₁ with heap := h', toks := tk, drawn := dr } := by
  obtain ⟨rest, N1, hne, hin⟩ := news_front N mem
  exact ⟨h', tk, dr, m', rest, rfl, F, N1, hne, hm, h1.offI N mem (Nat.ne_of_lt h31) hin, h2.offI N mem (Nat.ne_of_lt h59) hin, h3.offI N mem (Nat.ne_of_lt h66) hin⟩
theorem law_range {prog : Program} {w : World} {A : Around} {h₀ : Heap} {env : Env} {x : Str} {body : List Stmt} {Q : Flow → Shared → Prop} {E : Value → Shared → Prop} {s₁ : Shared} {r : Addr} {a b : Int} {t u v : Tok} {n : Nat} {m₀ : Str → Option Value} {news : List (Addr × Obj)}
    (hh : A.handled = none) (hr : IsRange s₁.heap r a b 1 t u v) (hsm : Builtin.Range.small a b 1 = true) (hn : Builtin.Range.rangeSize a b 1 = (n : Int)) (F : Fr h₀ env.locals s₁.heap m₀) (N : News h₀ env.locals s₁.heap news)
    (h1 : TMade 31 53 4 (Str.ofString "_str_to_int_inner.<locals>.inner") news) (h2 : TMade 59 93 4 (Str.ofString "_int2digits.<locals>.inner") news) (h3 : TMade 66 108 4 (Str.ofString "_digits2int.<locals>.inner") news)
    (turn : ∀ I : Addr, (∀ p ∈ news, p.1 < I) → ∀ i m₁ news₁ t h tk dr, i < n → LInv m₀ i m₁ news₁ → (∀ p ∈ news₁, p.1 ≠ I) → Fr h₀ env.locals h (fun y => if y = x then some (.int (a + (i : Int)) t) else m₁ y) → News h₀ env.locals h ((I, itR (a + ((i + 1 : Nat) : Int)) ((n : Int) - ((i + 1 : Nat) : Int))) :: news₁) →
      wpAny (model prog w) A (execs body env) (DPost h₀ env.locals { s₁ with heap := h, toks := tk, drawn := dr } I (itR (a + ((i + 1 : Nat) : Int)) ((n : Int) - ((i + 1 : Nat) : Int))) (LInv m₀ (i + 1)) Q) E { s₁ with heap := h, toks := tk, drawn := dr })
    (done : ∀ m₁ news₁ h tk dr, LInv m₀ n m₁ news₁ → Fr h₀ env.locals h m₁ → News h₀ env.locals h news₁ → Q .next { s₁ with heap := h, toks := tk, drawn := dr }) : RangeAtD prog w A h₀ env x body Q E (.ref r) s₁ :=
  ⟨r, a, b, t, u, v, n, m₀, news, LInv m₀, rfl, hh, hr, hsm, hn, F, N, ⟨fun _ _ _ _ _ _ => rfl, h1, h2, h3⟩, turn, done⟩
theorem TMade.lt {P : Addr} {l c : Int} {qual : Str} {news : List (Addr × Obj)} {I : Addr} (h : TMade P l c qual news) (hI : ∀ p ∈ news, p.1 < I) : P < I := by
  obtain ⟨c', oc, vs, t, a, r⟩ := h
  exact hI _ a
section
variable {prog : Program} {w : World} {p : Program} {loose : List Str} {mean : ExcName → Option Value} {mg mb : Str → Option Value}
    {dp un : Nat} {gd : Option (List Code)} {sc : Scope} {a : Addr} {ccd : Value} {outer : List Env} {A₀ : Around} {base h₀ : Heap} {L : Addr} {m₀ : Str → Option Value} {s : Shared} {Q : Flow → Shared → Prop} {E : Value → Shared → Prop} {news : List (Addr × Obj)}
set_option maxRecDepth 100000 in
set_option maxHeartbeats 4000000 in
theorem law_tail {b : List Stmt} (hdef : funDef (hd.heap_39 w.params) 109 = some (b, sc)) {ds : List Nat} {by' : Nat} {tn tb : Tok}
    (F : Fr h₀ L s.heap (fun y => if y = Str.ofString "numeral" then some (.str ⟨ds.toArray⟩ tn) else if y = Str.ofString "by" then some (.int (by' : Int) tb) else m₀ y)) (X : (hd.heap_39 w.params).In h₀) (N : News h₀ L s.heap news) (T : Top p loose mean mg mb h₀)
    (B : Below A₀ base outer h₀)
    (hC0 : CodeHd base 35 31) (hC : CodeHd base 63 59) (hC2 : CodeHd base 70 66)
    (hT0 : Tab 31 53 4 (Str.ofString "_str_to_int_inner.<locals>.inner") news) (hT : Tab 59 93 4 (Str.ofString "_int2digits.<locals>.inner") news) (hT2 : Tab 66 108 4 (Str.ofString "_digits2int.<locals>.inner") news)
    (hds : NumText.AllDigits ds) (hd1 : 1 ≤ ds.length) (hd15 : ds.length ≤ 15) (hb0 : 0 < by') (hb : by' < 100) (hb10 : Nat.gcd by' 10 = 1)
    (hE : PassesOwn (model prog w) (ktrTop dp un gd (Str.ofString "law") sc L a ccd [] outer) (envOf (Str.ofString "law") sc L a ccd) E)
    (hdp : dp + 90 < recursionLimit) (hun : un + 800 < cLine) (hL : @LT.lt Nat _ 109 L)
    (hret : ∀ h' tk' dr' m' news', Fr h₀ L h' m' → News h₀ L h' news' → TMade 31 53 4 (Str.ofString "_str_to_int_inner.<locals>.inner") news' → TMade 59 93 4 (Str.ofString "_int2digits.<locals>.inner") news' → TMade 66 108 4 (Str.ofString "_digits2int.<locals>.inner") news' →
      Q (.ret (.bool true)) { s with heap := h', toks := tk', drawn := dr' }) :
    wpAny (model prog w) (ktrTop dp un gd (Str.ofString "law") sc L a ccd [] outer) (execs (b.drop 3) (envOf (Str.ofString "law") sc L a ccd)) Q E s := by
  have h := funDef_of hdef (by k_is) rfl
  dsimp only [funDef, List.lookup] at h
  cases h
  clear hdef
  dsimp only [List.drop]
  obtain ⟨x, hx⟩ : ∃ x : Str, x = ⟨ds.toArray⟩ := ⟨_, rfl⟩
  have hxl : x.length = ds.length := by rw [hx]; rfl
  have hx15 : x.length ≤ 15 := by rw [hxl]; exact hd15
  have hxc : x.cps.toList = ds := by rw [hx]
  rw [← hx] at F
  k_steps
  unfold Stop
  k_dflt (refine' ifs_spec ?zB ?zF ?zX ?zN ?zT ?zk ?zC hT0 (by omega) (by rw [hxc]; exact hds) (by rw [hxc]; intro e; rw [e] at hd1; exact absurd hd1 (by decide)) ?zd ?zu ?_)
  (case zB => k_asm)
  (case zF => k_asm)
  (case zX => k_asm)
  (case zN => k_asm)
  (case zT => k_asm)
  (case zk => exact rfl)
  (case zC => assumption)
  (case zd => ktr_room)
  (case zu => ktr_units)
  intro n9 t9 h9 tk9 dr9 F9 N9 hM9 hK9
  have hv := digitsVal_small hd15 hds
  rw [hxc]
  obtain ⟨V, hV⟩ : ∃ V, NumText.digitsVal ds = V := ⟨_, rfl⟩
  rw [hV] at hv
  rw [hV]
  have hq50 : V / by' < 2 ^ 50 := Nat.lt_of_le_of_lt (Nat.div_le_self ..) hv
  try dsimp only
  try k_fold
  k_steps
  unfold Stop
  k_dflt (refine' dm_spec ?zB ?zF ?zX ?zN ?zT ?zk ?zC ?zC2 (hT.keep hK9 (by decide) (by decide)) (hT2.keep hK9 (by decide) (by decide)) hv hb0 hb ?zd ?zu ?_)
  (case zB => k_asm)
  (case zF => k_asm)
  (case zX => k_asm)
  (case zN => k_asm)
  (case zT => k_asm)
  (case zk => exact rfl)
  (case zC => assumption)
  (case zC2 => assumption)
  (case zd => ktr_room)
  (case zu => ktr_units)
  intro n8 d8 t1 t2 h8 tk8 F8 N8 hd8 hM8 hM7 hK8
  obtain ⟨S, hS⟩ : ∃ S : Str, S = ⟨(dec (V / by')).toArray⟩ := ⟨_, rfl⟩
  have hwl := whole_le (b := by') hds hd1
  rw [hV] at hwl
  have hSw : S.length = (dec (V / by')).length := by rw [hS]; rfl
  have hSl : S.length ≤ 15 := by omega
  have hS1 : 1 ≤ S.length := by rw [hSw]; exact dec_pos _
  have hM9' := hM9.keep2 hK8 (by decide) (by decide) (by decide) (by decide)
  try dsimp only
  try k_fold
  k_steps
  unfold Stop
  rw [hx]
  k_dflt (refine' paper_spec ?zB ?zF ?zX ?zN ?zT ?zk hds (by omega) hb0 hb ?zd ?zu ?_)
  (case zB => k_asm)
  (case zF => k_asm)
  (case zX => k_asm)
  (case zN => k_asm)
  (case zT => k_asm)
  (case zk => exact rfl)
  (case zd => ktr_room)
  (case zu => ktr_units)
  intro n7 d7 t3 t4 h7 tk7 F7 N7 hd7 hK7
  rw [hV, ← hS] at hd7
  have hmw := hK7 _ (.head _)
  have hsok := str_ok (Nat.le_trans (whole_le (b := by') hds hd1) (by omega)) (dec_digits _)
  rw [hV, ← hS] at hsok
  try dsimp only
  try k_fold
  have hM31 := hM9'.mono fun q hq => hK7 q (.tail _ hq)
  have hM59 := hM8.mono fun q hq => hK7 q (.tail _ hq)
  have hM66 := hM7.mono fun q hq => hK7 q (.tail _ hq)
  k_steps
  (with_reducible rename News _ _ _ _ => NL)
  (rename Fr _ _ _ _ => FL)
  (rename IsRange _ _ _ _ _ _ _ _ => RL)
  refine' law_range (by rfl) RL (small_one (by omega) (by omega) (by omega) (by omega)) (rangeSize_nat _ _) FL NL hM31 hM59 hM66 ?turn ?done
  · intro I hI i m1 news1 t h tk dr hi hInv hoff F1 N1
    obtain ⟨hm, M31, M59, M66⟩ := hInv
    have h31 : (31 : Nat) < I := hM31.lt hI
    have h59 : (59 : Nat) < I := hM59.lt hI
    have h66 : (66 : Nat) < I := hM66.lt hI
    obtain ⟨u, hu⟩ := LInv.shape hm
    subst hu
    clear hm
    have M31' := M31.mono fun q hq => List.mem_cons_of_mem (I, itR (-1 + ((i + 1 : Nat) : Int)) ((((S.length : Int) + 2 - -1).toNat : Int) - ((i + 1 : Nat) : Int))) hq
    have M59' := M59.mono fun q hq => List.mem_cons_of_mem (I, itR (-1 + ((i + 1 : Nat) : Int)) ((((S.length : Int) + 2 - -1).toNat : Int) - ((i + 1 : Nat) : Int))) hq
    have M66' := M66.mono fun q hq => List.mem_cons_of_mem (I, itR (-1 + ((i + 1 : Nat) : Int)) ((((S.length : Int) + 2 - -1).toNat : Int) - ((i + 1 : Nat) : Int))) hq
    obtain ⟨hP, hPd⟩ : ∃ n : Nat, (-1 + (i : Int) - 3).toNat = n := ⟨_, rfl⟩
    have hAB : (if -1 + (i : Int) - 3 > 0 then -1 + (i : Int) - 3 else 0) = (hP : Int) := by split <;> omega
    have hAH : (if -1 + (i : Int) - 3 > 0 then -1 + (i : Int) - 3 else 0).fdiv 2 = ((hP / 2 : Nat) : Int) := by rw [hAB]; exact (Int.ofNat_fdiv hP 2).symm
    k_steps
    · unfold Stop
      have hbh : 0 < (if -1 + (i : Int) - 3 > 0 then -1 + (i : Int) - 3 else 0) - (if -1 + (i : Int) - 3 > 0 then -1 + (i : Int) - 3 else 0).fdiv 2 := by rw [hAH, hAB]; rw [hAH] at *; omega
      k_dflt (refine' left_law ?zB ?zF ?zX ?zN ?zT ?zk ?zC0 ?zC ?zC2 M31' M59' M66' hx hds hd1 hd15 hV hS (by assumption) (by rw [hAH]; omega) hb0 hb ?zd ?zu ?_)
      (case zB => k_asm)
      (case zF => k_asm)
      (case zX => k_asm)
      (case zN => k_asm)
      (case zT => k_asm)
      (case zk => exact rfl)
      (case zC0 => assumption)
      (case zC => assumption)
      (case zC2 => assumption)
      (case zd => ktr_room)
      (case zu => ktr_units)
      intro n5 t5 h5 tk5 dr5 y1 hy1 hy1l F5 N5 P31 P59 P66 hK5
      have hI5 := hK5 _ (.head _) (Nat.ne_of_gt h31) (Nat.ne_of_gt h59) (Nat.ne_of_gt h66)
      try dsimp only
      try k_fold
      k_steps
      unfold Stop
      k_dflt (refine' right_law ?zB ?zF ?zX ?zN ?zT ?zk ?zC0 P31 hx hds hd1 hd15 hV hS hbh (by rw [hAH, hAB]; omega) hb0 hb hb10 ?zd ?zu ?_)
      (case zB => k_asm)
      (case zF => k_asm)
      (case zX => k_asm)
      (case zN => k_asm)
      (case zT => k_asm)
      (case zk => exact rfl)
      (case zC0 => assumption)
      (case zd => ktr_room)
      (case zu => ktr_units)
      intro n6 t6 h6 tk6 dr6 y2 hy2 hy2l F6 N6 R31 hK6
      have hI6 := hK6 _ hI5 (Nat.ne_of_gt h31)
      have R59 := P59.keep hK6 (by decide) (by decide)
      have R66 := P66.keep hK6 (by decide) (by decide)
      try dsimp only
      try k_fold
      k_steps
      unfold Stop
      k_dflt (refine' cram_law ?zB ?zF ?zX ?zN ?zT ?zk hS hSl (by omega) (by omega) ?zd ?zu ((y1 ++ Str.ofString "...") ++ y2) (fun _ => by rw [hy1, hy2, due3, hAH, hAB, show ((hP / 2 : Nat) : Int).toNat = hP / 2 from rfl, show ((hP : Int) - ((hP / 2 : Nat) : Int)).toNat = hP - hP / 2 by omega, hPd]) (fun q => absurd (by omega) q) ?_)
      (case zB => k_asm)
      (case zF => k_asm)
      (case zX => k_asm)
      (case zN => k_asm)
      (case zT => k_asm)
      (case zk => exact rfl)
      (case zd => ktr_room)
      (case zu => ktr_units)
      intro t4 h4 tk4 F4 N4
      try dsimp only
      try k_fold
      k_steps
      k_dflt (exact DEnd.of (by k_asm) (by k_asm) hI6 (by intro y z1 z2 z3 z4 z5; simp only [z1, z2, z3, z4, z5, if_false]) R31 R59 R66 h31 h59 h66)
    · unfold Stop
      have hz : hP / 2 = 0 := by rw [hAH] at *; omega
      k_dflt (refine' right_law ?zB ?zF ?zX ?zN ?zT ?zk ?zC0 M31' hx hds hd1 hd15 hV hS (by assumption) (by rw [hAH, hAB]; omega) hb0 hb hb10 ?zd ?zu ?_)
      (case zB => k_asm)
      (case zF => k_asm)
      (case zX => k_asm)
      (case zN => k_asm)
      (case zT => k_asm)
      (case zk => exact rfl)
      (case zC0 => assumption)
      (case zd => ktr_room)
      (case zu => ktr_units)
      intro n6 t6 h6 tk6 dr6 y2 hy2 hy2l F6 N6 R31 hK6
      have hI6 := hK6 _ (.head _) (Nat.ne_of_gt h31)
      have R59 := M59'.keep hK6 (by decide) (by decide)
      have R66 := M66'.keep hK6 (by decide) (by decide)
      try dsimp only
      try k_fold
      k_steps
      unfold Stop
      k_dflt (refine' cram_law ?zB ?zF ?zX ?zN ?zT ?zk hS hSl (by omega) (by omega) ?zd ?zu (Str.ofString "..." ++ y2) (fun _ => by rw [hy2, due2, hAH, hAB, show ((hP : Int) - ((hP / 2 : Nat) : Int)).toNat = hP - hP / 2 by omega, hPd, hz, List.take_zero, List.nil_append]) (fun q => absurd (by omega) q) ?_)
      (case zB => k_asm)
      (case zF => k_asm)
      (case zX => k_asm)
      (case zN => k_asm)
      (case zT => k_asm)
      (case zk => exact rfl)
      (case zd => ktr_room)
      (case zu => ktr_units)
      intro t4 h4 tk4 F4 N4
      try dsimp only
      try k_fold
      k_steps
      k_dflt (exact DEnd.of (by k_asm) (by k_asm) hI6 (by intro y z1 z2 z3 z4 z5; simp only [z1, z2, z3, z4, z5, if_false]) R31 R59 R66 h31 h59 h66)
    · have hz : hP = 0 := by rw [hAH, hAB] at *; omega
      unfold Stop
      k_dflt (refine' cram_law ?zB ?zF ?zX ?zN ?zT ?zk hS hSl (by omega) (by omega) ?zd ?zu (Str.ofString "...") (fun _ => by rw [hPd, hz, Nat.zero_div, Nat.sub_zero, List.take_zero, List.drop_length]; decide +kernel) (fun q => absurd (by omega) q) ?_)
      (case zB => k_asm)
      (case zF => k_asm)
      (case zX => k_asm)
      (case zN => k_asm)
      (case zT => k_asm)
      (case zk => exact rfl)
      (case zd => ktr_room)
      (case zu => ktr_units)
      intro t4 h4 tk4 F4 N4
      try dsimp only
      try k_fold
      k_steps
      k_dflt (exact DEnd.of (by k_asm) (by k_asm) (.head _) (by intro y z1 z2 z3 z4 z5; simp only [z1, z2, z3, z4, z5, if_false]) M31' M59' M66' h31 h59 h66)
    · skip
      unfold Stop
      k_dflt (refine' cram_law ?zB ?zF ?zX ?zN ?zT ?zk hS hSl (by omega) (by omega) ?zd ?zu S (fun q => absurd q (by omega)) (fun _ => rfl) ?_)
      (case zB => k_asm)
      (case zF => k_asm)
      (case zX => k_asm)
      (case zN => k_asm)
      (case zT => k_asm)
      (case zk => exact rfl)
      (case zd => ktr_room)
      (case zu => ktr_units)
      intro t4 h4 tk4 F4 N4
      try dsimp only
      try k_fold
      k_steps
      k_dflt (exact DEnd.of (by k_asm) (by k_asm) (.head _) (by intro y z1 z2 z3 z4 z5; simp only [z1, z2, z3, z4, z5, if_false]) M31' M59' M66' h31 h59 h66)
  · intro m1 news1 h tk dr hInv F1 N1
    obtain ⟨hm, M31, M59, M66⟩ := hInv
    k_steps
    exact hret _ _ _ _ _ (by k_asm) (by k_asm) M31 M59 M66
end
end Mine
-- MLwC
namespace Mine
local macro_rules | `(tactic| k_all) => `(tactic| first | assumption | exact TailLt.ne (by assumption) (by omega))
local macro_rules | `(tactic| k_mem) => `(tactic| (k_dflt assumption))
local macro_rules | `(tactic| walk_at "subscriptTail") => `(tactic| ((with_reducible show wpAny _ _ (subscriptTail (PySem.Expr.List _ _ _) _ (Value.ref _) (Value.int _ _)) _ _ _); refine' Stop.go ?_))
local macro_rules | `(tactic| walk_at "nothing") => `(tactic| (k_here; k_dflt (refine' menu_item ?zN ?zm ?_ ?zs ?zt; (case zN => k_asm); (case zm => exact .head _); (case zs => with_unfolding_all rfl); (case zt => (intro _; with_unfolding_all rfl)); k_whole); intro t'))
local macro_rules | `(tactic| walk_at "subscriptTail") => `(tactic| (k_here; (with_reducible show wpAny _ _ (subscriptTail _ _ (Value.str (PySem.Str.ofString "0123456789") _) (Value.int (Int.fmod _ _) _)) _ _ _); k_dflt (refine' item10 (fmod10 _) (fmod10_lt _) ?_ ?s ?t; (case s => with_unfolding_all rfl); (case t => (intro _; with_unfolding_all rfl)); k_whole); intro t' k'))
local macro_rules | `(tactic| walk_at "CompSrc") => `(tactic| (k_here; k_dflt (refine LCg.CompSrc.ledger (by rfl) (by k_asm) (by k_asm) (by k_mem) (by kcf_size) ?_; intro g'; (refine' sgn_list (by assumption) (fun k' t' I' oI' C' oC' D' m' ys' h' tk' E' hk' hC' hx' F' N' off' ne' => ?_) (fun ys' hys' => ?_)))))
local macro_rules | `(tactic| walk_at "CompEnd") => `(tactic| refine' Stop.go ?_)
local macro_rules | `(tactic| walk_at "nothing") => `(tactic| (refine' compEnd_sg ?zF ?zN ?zs ?zo ?zS; (case zF | zN => assumption); (case zs => exact fun _ h => h); (case zo => assumption); (case zS => exact True.intro)))
local macro_rules | `(tactic| walk_at "call builtin:str.join") => `(tactic| (k_here; (with_reducible show wpAny _ _ (call (Value.builtin "str.join") [Value.str _ _, Value.ref _]) _ _ _); k_dflt (refine' join_sgs (News.isList (by k_asm) (by first | exact .head _ | k_mem)) (by assumption) ?zn ?_; (case zn => omega)); intro t' k'))
local macro_rules | `(tactic| walk_at "execs cons") => `(tactic| (k_here; (with_reducible show wpAny _ _ (execs (Stmt.Assign [PySem.Expr.Tuple _ _ _] _ _ :: _) _) _ _ _); refine' Stop.go ?_))
section
variable {prog : Program} {w : World} {p : Program} {loose : List Str} {mean : ExcName → Option Value} {mg mb : Str → Option Value}
    {dp un : Nat} {gd : Option (List Code)} {sc : Scope} {a : Addr} {ccd : Value} {outer : List Env} {A₀ : Around} {base h₀ : Heap} {L : Addr} {m₀ : Str → Option Value} {s : Shared} {Q : Flow → Shared → Prop} {E : Value → Shared → Prop} {news : List (Addr × Obj)}
set_option maxRecDepth 100000 in
set_option maxHeartbeats 4000000 in
theorem law_head2 {b : List Stmt} (hdef : funDef (hd.heap_39 w.params) 109 = some (b, sc)) {D : Addr} {dv : List Value} {dl : List Int}
    (F : Fr h₀ L s.heap (fun y => if y = Str.ofString "drawn" then some (.ref D) else m₀ y)) (X : (hd.heap_39 w.params).In h₀) (N : News h₀ L s.heap ((D, listOf dv.toArray 0) :: news)) (T : Top p loose mean mg mb h₀)
    (B : Below A₀ base outer h₀)
    (hC0 : CodeHd base 35 31) (hC : CodeHd base 63 59) (hC2 : CodeHd base 70 66)
    (hT0 : Tab 31 53 4 (Str.ofString "_str_to_int_inner.<locals>.inner") news) (hT : Tab 59 93 4 (Str.ofString "_int2digits.<locals>.inner") news) (hT2 : Tab 66 108 4 (Str.ofString "_digits2int.<locals>.inner") news)
    (hi : IntsAre dv dl) (hl9 : 9 ≤ dl.length) (hl13 : dl.length ≤ 13)
    (hE : PassesOwn (model prog w) (ktrTop dp un gd (Str.ofString "law") sc L a ccd [] outer) (envOf (Str.ofString "law") sc L a ccd) E)
    (hdp : dp + 90 < recursionLimit) (hun : un + 800 < cLine) (hL : @LT.lt Nat _ 109 L)
    (hret : ∀ h' tk' dr' m' news', Fr h₀ L h' m' → News h₀ L h' news' → TMade 31 53 4 (Str.ofString "_str_to_int_inner.<locals>.inner") news' → TMade 59 93 4 (Str.ofString "_int2digits.<locals>.inner") news' → TMade 66 108 4 (Str.ofString "_digits2int.<locals>.inner") news' →
      Q (.ret (.bool true)) { s with heap := h', toks := tk', drawn := dr' }) :
    wpAny (model prog w) (ktrTop dp un gd (Str.ofString "law") sc L a ccd [] outer) (execs (b.drop 1) (envOf (Str.ofString "law") sc L a ccd)) Q E s := by
  have hdef0 := hdef
  have h := funDef_of hdef (by k_is) rfl
  dsimp only [funDef, List.lookup] at h
  cases h
  clear hdef
  dsimp only [List.drop]
  have hvl : dv.length = dl.length := hi.length
  k_steps
  · unfold Stop
    refine' compEnd_sg ?zF ?zN (fun _ h => h) ?zo (by first | lcg_src | assumption)
    (case zF => assumption)
    (case zN => assumption)
    (case zo => assumption)
  · unfold Stop
    obtain ⟨b', hb', hb0, hb1, hb10⟩ := by_nat2 (dl.getD (Int.toNat 0) 0)
    (rename Fr _ _ _ _ => FF)
    rw [hb'] at FF
    have hsd : NumText.AllDigits ((dl.drop 1).map sg) := by
      intro c hc
      obtain ⟨z, _, rfl⟩ := List.mem_map.mp hc
      exact sg_digit z
    have hsl : ((dl.drop 1).map sg).length = dl.length - 1 := by rw [List.length_map, List.length_drop]
    k_dflt (refine' law_tail hdef0 ?zF ?zX ?zN ?zT ?zB hC0 hC hC2 ?zt0 ?zt1 ?zt2 hsd (by omega) (by omega) hb0 hb1 hb10 hE hdp hun hL ?_)
    (case zF => exact FF)
    (case zX => k_asm)
    (case zN => k_asm)
    (case zT => k_asm)
    (case zB => k_asm)
    (case zt0 => exact hT0.mono fun q hq => by (repeat (first | exact hq | apply List.mem_cons_of_mem)))
    (case zt1 => exact hT.mono fun q hq => by (repeat (first | exact hq | apply List.mem_cons_of_mem)))
    (case zt2 => exact hT2.mono fun q hq => by (repeat (first | exact hq | apply List.mem_cons_of_mem)))
    exact hret
end
end Mine
-- MLwA
namespace Mine
local macro_rules | `(tactic| k_all) => `(tactic| first | assumption | exact TailLt.ne (by assumption) (by omega))
local macro_rules | `(tactic| k_mem) => `(tactic| (k_dflt assumption))
local macro_rules | `(tactic| walk_at "execs cons") => `(tactic| (k_here; (with_reducible show wpAny _ _ (execs (Stmt.Assign [PySem.Expr.Name _ _] (PySem.Expr.BinOp _ _ _ _) _ :: _) _) _ _ _); refine' Stop.go ?_))
section
variable {prog : Program} {w : World} {p : Program} {loose : List Str} {mean : ExcName → Option Value} {mg mb : Str → Option Value}
    {dp un : Nat} {gd : Option (List Code)} {sc : Scope} {a : Addr} {ccd : Value} {outer : List Env} {A₀ : Around} {base h₀ : Heap} {L : Addr} {s : Shared} {Q : Flow → Shared → Prop} {E : Value → Shared → Prop}
set_option maxRecDepth 100000 in
set_option maxHeartbeats 4000000 in
theorem law_run {b : List Stmt} (hdef : funDef (hd.heap_39 w.params) 109 = some (b, sc)) {l : Addr}
    (F : Fr h₀ L s.heap (fun y => List.lookup y [(Str.ofString "script", Value.ref l)].reverse)) (X : (hd.heap_39 w.params).In h₀) (N : News h₀ L s.heap [(66, tabObj #[]), (59, tabObj #[]), (31, tabObj #[])]) (T : Top p loose mean mg mb h₀)
    (B : Below A₀ base outer h₀)
    (hC0 : CodeHd base 35 31) (hC : CodeHd base 63 59) (hC2 : CodeHd base 70 66)
    {vs : List Value} {ns : List Int} (hl : h₀.IsList l vs.toArray) (hi : IntsAre vs ns) (h63 : ¬ 63 < ns.length)
    (hE : PassesOwn (model prog w) (ktrTop dp un gd (Str.ofString "law") sc L a ccd [] outer) (envOf (Str.ofString "law") sc L a ccd) E)
    (hdp : dp + 90 < recursionLimit) (hun : un + 800 < cLine) (l0 : 66 < L ∧ 59 < L ∧ 31 < L)
    (hret : ∀ h' tk' dr' m' news', Fr h₀ L h' m' → News h₀ L h' news' → TMade 31 53 4 (Str.ofString "_str_to_int_inner.<locals>.inner") news' → TMade 59 93 4 (Str.ofString "_int2digits.<locals>.inner") news' → TMade 66 108 4 (Str.ofString "_digits2int.<locals>.inner") news' →
      Q (.ret (.bool true)) { s with heap := h', toks := tk', drawn := dr' }) :
    wpAny (model prog w) (ktrTop dp un gd (Str.ofString "law") sc L a ccd [] outer) (execs b (envOf (Str.ofString "law") sc L a ccd)) Q E s := by
  have hdef0 := hdef
  have h := funDef_of hdef (by k_is) rfl
  dsimp only [funDef, List.lookup] at h
  cases h
  clear hdef
  have hvl : vs.length = ns.length := hi.length
  have hL9 := ltN (above_K (a := 109) F X (by k_is))
  k_steps
  unfold Stop
  (with_reducible rename News _ _ _ (_ :: _) => NN)
  (rename Fr _ _ _ _ => FF)
  (rename IntsAre _ _ => II)
  k_dflt (refine' law_head2 hdef0 FF ?zX NN ?zT ?zB hC0 hC hC2 ?zt0 ?zt1 ?zt2 II ?zl9 ?zl13 hE hdp hun hL9 ?_)
  (case zX => k_asm)
  (case zT => k_asm)
  (case zB => k_asm)
  (case zt0 => exact .inl (by repeat (first | exact List.mem_cons_self .. | apply List.mem_cons_of_mem)))
  (case zt1 => exact .inl (by repeat (first | exact List.mem_cons_self .. | apply List.mem_cons_of_mem)))
  (case zt2 => exact .inl (by repeat (first | exact List.mem_cons_self .. | apply List.mem_cons_of_mem)))
  (case zl9 => simp only [List.length_take, List.length_append, List.length_drop, List.length_cons, List.length_nil]; omega)
  (case zl13 => simp only [List.length_take]; omega)
  exact hret
end
end Mine
-- MFin
open Mine
set_option maxRecDepth 100000 in
set_option maxHeartbeats 8000000 in
theorem PySem.Challenge.cw_pg0207_01_holds : PySem.Challenge.rw_pg0207_01.Holds :=
  Mine.hd (by
  k_go0
  all_goals try k_fold
  (rename Fr _ _ _ _ => FF)
  (with_reducible rename News _ _ _ _ => NN)
  (rename Below _ _ _ _ => BB)
  (rename IntsAre _ _ => II)
  (rename Heap.IsList _ _ _ => LL)
  k_dflt (refine' law_run ?z1 FF ?zX NN ?zT BB ?zC0 ?zC ?zC2 LL II ?z63 ?zE ?zd ?zu ?z0 ?zr)
  (case z1 => exact funDef_is (by k_is) rfl)
  (case zX => k_asm)
  (case zT => k_asm)
  (case zC0 => assumption)
  (case zC => assumption)
  (case zC2 => assumption)
  (case z63 => omega)
  (case zE => passes_own)
  (case zd => exact Nat.le_of_ble_eq_true rfl)
  (case zu => exact Nat.le_of_ble_eq_true rfl)
  (case z0 => assumption)
  intro h9 tk9 dr9 m9 n9 F9 N9 M31 M59 M66
  refine And.intro ?_ ?_
  rotate_left
  · obtain ⟨_, _, _, _, e31, _⟩ := M31
    obtain ⟨_, _, _, _, e59, _⟩ := M59
    obtain ⟨_, _, _, _, e66, _⟩ := M66
    exact ⟨⟨_, (N9 _ e66).1⟩, ⟨_, (N9 _ e59).1⟩, ⟨_, (N9 _ e31).1⟩, True.intro⟩
  k_steps)
