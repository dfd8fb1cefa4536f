import PyProof.Rows.All
import Wide.All
import OpenK.AllK
import Wide.FinOn
import Lean
import PySem.Challenge.RW_fs0002_01
open PySem PySem.W PyProof.Rows PySem.Calls
set_option maxRecDepth 100000
set_option maxHeartbeats 8000000
set_option Elab.async false
namespace Mine
open_top hd for PySem.Challenge.rw_fs0002_01
theorem t_off : True := by w_top off; trivial
end Mine
namespace Mine
section
local macro_rules | `(tactic| k_room) => `(tactic| ((try simp only [depth_mark, depth_under_make, depth_under_kw, depth_in1, depth_deeper, depth_Ar, recursionLimit]); omega))
local macro_rules | `(tactic| walk_at "wpAt") => `(tactic| dsimp only)
local macro_rules | `(tactic| walk_at "wpAt") => `(tactic| (ks_step "exec Expr"; k_dflt (refine ks_wpAt_Expr_any ?_)))
local macro_rules | `(tactic| walk_at "wpAt") => `(tactic| (ks_step "eval Call"; k_dflt (refine ks_wpAt_MethodCall ?_)))
local macro_rules | `(tactic| k_units) => `(tactic| ((simp only [units_Ar, units_in1, units_deeper, cLine_is]); omega))
local macro_rules | `(tactic| k_mem) => `(tactic| assumption)
local macro_rules | `(tactic| k_all) => `(tactic| first | assumption | exact allLt_ne (by assumption))
variable {w : World} {s : Shared} {base : Heap} {outer : List Env} {p : Program} {loose : List Str} {mean : ExcName → Option Value} {mg mb : Str → Option Value}
variable {h₀ : Heap} {m : Str → Option Value} {news : List (Addr × Obj)} {Q : Value → Shared → Prop} {E : Value → Shared → Prop} {A₀ : Around}
variable {cn : Str} {nms : List (Str × NameKind)} {b1 b2 : Bool} {more : List (Str × Const)} {L fa : Addr} {cd : Value} {cl : List (Str × Addr)} {d u : Nat}
/-- an Around told by its numbers -/
abbrev Ar (d u : Nat) (outer : List Env) : Around := ⟨none, d, some outer, some [], u⟩
theorem depth_Ar (d u : Nat) (outer : List Env) : (Ar d u outer).depth = d := rfl
theorem units_Ar (d u : Nat) (outer : List Env) : (Ar d u outer).units = u := rfl
abbrev PR : Program := PySem.Challenge.rw_fs0002_01.row.prog
/-- a function's frame -/
abbrev EV (cn : Str) (nms : List (Str × NameKind)) (b1 b2 : Bool) (more : List (Str × Const)) (L fa : Addr) (cd : Value) (cl : List (Str × Addr)) : Env := envX cn ⟨.function, nms, b1, b2, more⟩ L fa cd cl

/-- the eight things: the even are variables, the odd numbers -/
def clsOf (c : Nat) : Addr := if c % 2 = 0 then 126 else 97
def nm (i : Nat) : Str := match i with | 0 => "a" | 1 => "b" | 2 => "c" | _ => "d"
def nameOf (i : Nat) : Str := match i with | 0 => "%a" | 1 => "%b" | 2 => "%c" | _ => "%d"
def IsVal (c : Nat) (v : Value) : Prop := if c % 2 = 0 then ∃ t, v = .str (nameOf (c / 2)) t else ∃ t, v = .int ((c / 2 : Nat) : Int) t
abbrev opDict (P : Params) (v : Value) (t1 t2 : Tok) : Obj := dictOf [⟨PyData.keyHash P "value", .str "value" t1, v⟩, ⟨PyData.keyHash P "_hash", .str "_hash" t2, .none⟩] 2
abbrev tup2 (a b : Value) : Obj := { cls := .type "tuple", data := .seq #[a, b] }
theorem allLt_to {d : Addr} {l : List (Addr × Obj)} (h : AllLt d l) : ∀ p ∈ l, p.1 < d := by
  induction l with
  | nil => intro p hp; cases hp
  | cons q r ih =>
    intro p hp
    rcases List.mem_cons.mp hp with e | hp
    · rw [e]; exact h.1
    · exact ih h.2 p hp
theorem allLt_ne {d : Addr} {l : List (Addr × Obj)} (h : AllLt d l) : ∀ p ∈ l, p.1 ≠ d := fun p hp => Nat.ne_of_lt (allLt_to h p hp)
theorem allLt_trans {d e : Addr} {l : List (Addr × Obj)} (h : AllLt d l) (hd : d < e) : AllLt e l := by
  induction l with
  | nil => trivial
  | cons p r ih => exact ⟨Nat.lt_trans h.1 hd, ih h.2⟩
theorem allLt_iff {d : Addr} {l : List (Addr × Obj)} : (∀ p ∈ l, p.1 < d) ↔ AllLt d l := ⟨allLt_of, allLt_to⟩
theorem News.sub {h₀ h : Heap} {L : Addr} {news news' : List (Addr × Obj)} (N : News h₀ L h news) (hs : ∀ p ∈ news', p ∈ news) : News h₀ L h news' := fun p hp => N p (hs p hp)
abbrev stDict (P : Params) (lst : Addr) (t : Tok) : Obj := dictOf [⟨PyData.keyHash P "_stack", .str "_stack" t, .ref lst⟩] 1
section
variable {prog : Program} {A : Around} {lst : Addr} {vs : List Value} {n : Nat} {i : Int} {t : Tok} {value slice : PySem.Expr} {news' : List (Addr × Obj)}
theorem back_c (N : News h₀ L s.heap news) (hm : (lst, W.listOf vs.toArray n) ∈ news) (h0 : i < 0) (h1 : -(vs.length : Int) ≤ i) (hfit : -(2 ^ 63) ≤ i) (h : ∀ v, vs[(i + (vs.length : Int)).toNat]? = some v → Q v s)
    (hs : subscripted slice false (.ref lst) (.int i t) = operate [.ref lst, .int i t] (getItem (.ref lst) (.int i t)) := by with_unfolding_all rfl) (hg : ∀ r, letTemporaryGo value (.ref lst) r = pure () := by intro _; with_unfolding_all rfl) :
    wpAny (model prog w) A (subscriptTail value slice (.ref lst) (.int i t)) Q E s := by
  have hj : (i + (vs.length : Int)).toNat < vs.length := by omega
  exact kim_back N hm rfl rfl h0 h1 hfit (List.getElem?_eq_getElem hj) (h _ (List.getElem?_eq_getElem hj)) hs hg
theorem backK_c {x : Value} {jj : Nat} (N : News h₀ L s.heap news) (hm : (lst, W.listOf vs.toArray n) ∈ news) (hx : vs[jj]? = some x) (hj : (i + (vs.length : Int)).toNat = jj) (h0 : i < 0) (h1 : -(vs.length : Int) ≤ i) (hfit : -(2 ^ 63) ≤ i) (h : Q x s)
    (hs : subscripted slice false (.ref lst) (.int i t) = operate [.ref lst, .int i t] (getItem (.ref lst) (.int i t)) := by with_unfolding_all rfl) (hg : ∀ r, letTemporaryGo value (.ref lst) r = pure () := by intro _; with_unfolding_all rfl) :
    wpAny (model prog w) A (subscriptTail value slice (.ref lst) (.int i t)) Q E s := kim_back N hm rfl rfl h0 h1 hfit (by rw [hj]; exact hx) h hs hg
theorem setBack_c {v : Value} {Q : Unit → Shared → Prop} (F : Fr h₀ L s.heap m) (N : News h₀ L s.heap news) (U : Upd lst (W.listOf vs.toArray n) (W.listOf (vs.set (i + (vs.length : Int)).toNat v).toArray n) news news')
    (h0 : i < 0) (h1 : -(vs.length : Int) ≤ i) (hfit : -(2 ^ 63) ≤ i) (h : ∀ h', Fr h₀ L h' m → News h₀ L h' news' → Q () { s with heap := h' }) :
    wpAny (model prog w) A (setItem (.ref lst) (.int i t) v) Q E s := by
  obtain ⟨pre, post, rfl, rfl, a, b⟩ := U.split
  have z := N (lst, W.listOf vs.toArray n) (List.mem_append.mpr (.inr (.head _)))
  have hs : vs.toArray.size = vs.length := List.size_toArray
  refine ki_setBack z.1 h0 (by rw [hs]; exact h1) hfit (h _ (F.change (Heap.SameBut.update ..) z.2.1 z.2.2) (ki_turn _ N a b ?_ ?_))
  · show vs.toArray.setIfInBounds (i + (vs.toArray.size : Int)).toNat v = (vs.set (i + (vs.length : Int)).toNat v).toArray
    rw [hs]
    apply Array.toList_inj.mp
    simp
  · simp
end
theorem zip_take (sel : Nat → Bool) {α : Type} (a : Nat) : ∀ (xs : List α) (j : Nat), (∀ k, j ≤ k → k < j + xs.length → sel k = decide (a ≤ k)) →
    ((xs.zipIdx j).filterMap fun (p : α × Nat) => match p with | (x, k) => if sel k = true then none else some x) = xs.take (a - j)
  | [], j, _ => by simp
  | x :: r, j, h => by
    have ih := zip_take sel a r (j + 1) fun k h1 h2 => h k (by omega) (by simp only [List.length_cons]; omega)
    rw [List.zipIdx_cons, List.filterMap_cons]
    have hj := h j (Nat.le_refl _) (by simp only [List.length_cons]; omega)
    by_cases hc : a ≤ j
    · have : sel j = true := by rw [hj]; exact decide_eq_true hc
      simp only [this, if_true]
      rw [ih, show a - j = 0 from by omega, show a - (j + 1) = 0 from by omega]; simp
    · have : ¬ sel j = true := by rw [hj]; simpa using hc
      simp only [if_neg this]
      rw [ih, show a - j = (a - (j + 1)) + 1 from by omega, List.take_succ_cons]
theorem sel_one (sel : Int → Int → Int → Nat → Bool) (hs : ∀ a b k, sel a b 1 k = (if (1 : Int) > 0 then decide (a ≤ (k : Int)) && decide ((k : Int) < b) && ((k - a) % 1 == 0) else decide (b < (k : Int)) && decide ((k : Int) ≤ a) && ((a - k) % (-1) == 0)))
    (a n k : Nat) (hk : k < n) : sel a n 1 k = decide (a ≤ k) := by
  rw [hs, if_pos (by decide)]
  have h1 : ((k : Int) < (n : Int)) := by omega
  have h2 : (((k : Int) - a) % 1 == 0) = true := by simp [Int.emod_one]
  rw [h2, decide_eq_true h1, Bool.and_true, Bool.and_true]
  by_cases h : a ≤ k
  · rw [decide_eq_true h, decide_eq_true (by omega)]
  · rw [decide_eq_false h, decide_eq_false (by omega)]

section
variable {prog : Program} {A : Around} {lst : Addr} {vs : List Value} {n : Nat} {i : Int} {t : Tok} {news' : List (Addr × Obj)}
theorem bounds_from {i : Int} {n : Nat} (h0 : 0 ≤ i) (h1 : i ≤ n) : sliceBounds (some i) none none n = (((i.toNat : Nat) : Int), ((n : Nat) : Int), 1) := by
  simp only [sliceBounds, Option.getD_none, show (1 : Int) > 0 by decide, if_true, if_neg (show ¬ (i < 0) by omega)]
  congr 1
  omega
theorem delSlice_c {Q : Unit → Shared → Prop} (F : Fr h₀ L s.heap m) (N : News h₀ L s.heap news) (U : Upd lst (W.listOf vs.toArray n) (W.listOf (vs.take i.toNat).toArray (n + 1)) news news')
    (h0 : 0 ≤ i) (h1 : i < vs.length) (hz : vs.length ≤ 100) (h : ∀ h', Fr h₀ L h' m → News h₀ L h' news' → Q () { s with heap := h' }) :
    wpAny (model prog w) A (delItem (.ref lst) (.ref s.heap.objs.size)) Q E { s with heap := s.heap.push { cls := .type "slice", data := .fields #[.int i t, .none, .none] } } := by
  obtain ⟨pre, post, rfl, rfl, a, b⟩ := U.split
  have z := N (lst, W.listOf vs.toArray n) (List.mem_append.mpr (.inr (.head _)))
  have hs : vs.toArray.size = vs.length := List.size_toArray
  have hL : Heap.get? (s.heap.push { cls := .type "slice", data := .fields #[.int i t, .none, .none] }) lst = some (W.listOf vs.toArray n) := Heap.get?_push_of_some _ z.1
  have hl : Heap.IsList (s.heap.push { cls := .type "slice", data := .fields #[.int i t, .none, .none] }) lst vs.toArray := ⟨_, hL, rfl, n, rfl⟩
  have F1 := F.push { cls := .type "slice", data := .fields #[.int i t, .none, .none] }
  have N1 := N.grown (h' := s.heap.push { cls := .type "slice", data := .fields #[.int i t, .none, .none] }) fun _ _ e => Heap.get?_push_of_some _ e
  have hS := Heap.IsSliceOf.new s.heap (.int i t) .none .none
  obtain ⟨os, hos, hcs, hds⟩ := id hS
  have hTs : Shared.TypeIs { s with heap := s.heap.push { cls := .type "slice", data := .fields #[.int i t, .none, .none] } } (.ref s.heap.objs.size) "slice" := ⟨os, hos, hcs⟩
  have hTl : Shared.TypeIs { s with heap := s.heap.push { cls := .type "slice", data := .fields #[.int i t, .none, .none] } } (.ref lst) "list" := hl.typeIs
  refine wpAny_delItem_slot hTl (by decide) PySem.F.slot_list_delitem ?_
  refine wpAny_call_entry PySem.F.slot_list_delitem hTl PySem.F.entry_list_delitem ?_ (PySem.F.args_list_delitem_2 _ _)
  unfold Builtin.«list.__delitem__»
  refine wpAny_bind (wpAny_pure ?_)
  show wpAny _ _ (Builtin.List.listSubscript? (.ref s.heap.objs.size) >>= _) _ _ _
  refine wpAny_bind ?_
  unfold Builtin.List.listSubscript?
  refine wpAny_bind (wpAny_specialOf hTs slice_no_index ?_)
  simp only [Option.isNone_none, if_true]
  refine wpAny_pure ?_
  show wpAny _ _ (typeOf (.ref s.heap.objs.size) >>= _) _ _ _
  refine wpAny_bind (wpAny_typeOf hTs ?_)
  rw [if_neg (by decide)]
  rw [listSliceParts_eq]
  refine wpAny_bind (wpAny_bind (wpAny_field hos hds (x := .none) rfl (wpAny_bind (wpAny_listPart .none ?_))))
  rw [if_neg (show ¬ ((rawPart none == rawInt 0) = true) from Bool.false_ne_true)]
  refine wpAny_bind (wpAny_field hos hds (x := .int i t) rfl (wpAny_bind (wpAny_listPart (.int _ _) ?_)))
  refine wpAny_bind (wpAny_field hos hds (x := .none) rfl (wpAny_bind (wpAny_listPart .none (wpAny_pure ?_))))
  refine wpAny_bind (m := Builtin.List.listItems (.ref lst)) ?_
  unfold Builtin.List.listItems
  refine wpAny_bind (wpAny_seqItems hL rfl (wpAny_pure ?_))
  refine wpAny_bind (wpAny_of_eq (sliceIndices_raw (some i) none none vs.toArray.size (by simp)) ?_)
  rw [bounds_from h0 (by rw [hs]; omega)]
  refine wpAny_bind (wpAny_rule ?_)
  have key : ∀ sel : Int → Int → Int → Nat → Bool, (∀ a b k, sel a b 1 k = (if (1 : Int) > 0 then decide (a ≤ (k : Int)) && decide ((k : Int) < b) && ((k - a) % 1 == 0) else decide (b < (k : Int)) && decide ((k : Int) ≤ a) && ((a - k) % (-1) == 0))) →
      (vs.toArray.toList.zipIdx.filterMap fun (p : Value × Nat) => match p with | (x, k) => if sel (((i.toNat : Nat) : Int)) (((vs.toArray.size : Nat) : Int)) 1 k = true then none else some x) = vs.take i.toNat := fun sel hsel => by
    rw [hs]
    exact zip_take (fun k => sel ((i.toNat : Nat) : Int) ((vs.length : Nat) : Int) 1 k) i.toNat vs 0 fun k _ hk => sel_one sel hsel i.toNat vs.length k (by simpa using hk)
  refine wpAny_bind (wpAny_updateSeq hL rfl ?_ ?_ ?_)
  · refine wpAny_bind (wpAny_letGo (wpAny_pure ⟨.none, rfl, ?_⟩))
    refine h _ (F1.change (Heap.SameBut.update ..) (N1 _ (List.mem_append.mpr (.inr (.head _)))).2.1 z.2.2) (ki_turn _ N1 a b ?_ ?_)
    · refine congrArg List.toArray (key _ ?_)
      intro _ _ _; rfl
    · simp; omega
  · rw [hs, sizeLine_eq]; omega
  · refine Nat.le_trans ?_ (show vs.length ≤ _ from ?_)
    · rw [List.size_toArray]
      refine Nat.le_trans (List.length_filterMap_le _ _) ?_
      simp
    · rw [sizeLine_eq]; omega
theorem len_c (N : News h₀ L s.heap news) (hm : (lst, W.listOf vs.toArray n) ∈ news) (hz : vs.length ≤ 100) (h : ∀ t tk, Q (.int (vs.length : Int) t) { s with toks := tk }) :
    wpAny (model prog w) A (call (.builtin "len") [.ref lst]) Q E s := by
  refine len_list (items := vs.toArray) ⟨_, (N _ hm).1, rfl, n, rfl⟩ (by rw [List.size_toArray]; omega) ?_
  rw [List.size_toArray]
  exact h _ _
theorem copyList_c (F : Fr h₀ L s.heap m) (N : News h₀ L s.heap news) (hm : (lst, W.listOf vs.toArray n) ∈ news) (hz : vs.length ≤ 100)
    (h : ∀ D h', Fr h₀ L h' m → News h₀ L h' ((D, W.listOf vs.toArray 0) :: news) → (∀ p ∈ news, p.1 < D) → Q (.ref D) { s with heap := h' }) :
    wpAny (model prog w) A (call (.builtin "list.copy") [.ref lst]) Q E s :=
  copy_list F N ⟨_, (N _ hm).1, rfl, n, rfl⟩ (fun h' F' N' => h _ h' F' N' fun p hp => Heap.lt_size (N p hp).1) (by rw [sizeLine_eq]; omega)
theorem pick_upto {y : Int} (h : 0 ≤ y) : slicePick vs.toArray none (some y) none = (vs.take y.toNat).toArray := by
  have e : sliceBounds none (some y) none vs.toArray.size = (((0 : Nat) : Int), ((min y.toNat vs.toArray.size : Nat) : Int), 1) := by
    simp only [sliceBounds, Option.getD_none, show (1 : Int) > 0 by decide, if_true, if_neg (show ¬ (y < 0) by omega)]
    congr 1
    congr 1
    omega
  rw [kmk_pick_nat _ e]
  simp [kmk_take_min]
theorem sliceUpto_c {value slice : PySem.Expr} {y : Int} (F : Fr h₀ L s.heap m) (N : News h₀ L s.heap news) (hm : (lst, W.listOf vs.toArray n) ∈ news) (h0 : 0 ≤ y) (hz : vs.length ≤ 100)
    (h : ∀ D h', Fr h₀ L h' m → News h₀ L h' ((D, W.listOf (vs.take y.toNat).toArray 0) :: news) → (∀ p ∈ news, p.1 < D) → Q (.ref D) { s with heap := h' })
    (hs : subscripted slice false (.ref lst) (.ref s.heap.objs.size) = operate [.ref s.heap.objs.size, .ref lst] (getItem (.ref lst) (.ref s.heap.objs.size))) (ht : ∀ r, letTemporaryGo value (.ref lst) r = pure ()) :
    wpAny (model prog w) A (subscriptTail value slice (.ref lst) (.ref s.heap.objs.size)) Q E { s with heap := s.heap.push { cls := .type "slice", data := .fields #[.none, .int y t, .none] } } := by
  refine kmk_slice F N ⟨_, (N _ hm).1, rfl, n, rfl⟩ .none (.int _ _) (fun D h' F' N' l1 => h D h' F' ?_ l1) hs ht (by rw [List.size_toArray, sizeLine_eq]; omega)
  rw [← pick_upto h0]; exact N'
theorem sliceAll_c {value slice : PySem.Expr} (F : Fr h₀ L s.heap m) (N : News h₀ L s.heap news) (hm : (lst, W.listOf vs.toArray n) ∈ news) (hz : vs.length ≤ 100)
    (h : ∀ D h', Fr h₀ L h' m → News h₀ L h' ((D, W.listOf vs.toArray 0) :: news) → (∀ p ∈ news, p.1 < D) → Q (.ref D) { s with heap := h' })
    (hs : subscripted slice false (.ref lst) (.ref s.heap.objs.size) = operate [.ref s.heap.objs.size, .ref lst] (getItem (.ref lst) (.ref s.heap.objs.size))) (ht : ∀ r, letTemporaryGo value (.ref lst) r = pure ()) :
    wpAny (model prog w) A (subscriptTail value slice (.ref lst) (.ref s.heap.objs.size)) Q E { s with heap := s.heap.push { cls := .type "slice", data := .fields #[.none, .none, .none] } } := by
  refine kmk_slice F N ⟨_, (N _ hm).1, rfl, n, rfl⟩ .none .none (fun D h' F' N' l1 => h D h' F' ?_ l1) hs ht (by rw [List.size_toArray, sizeLine_eq]; omega)
  rw [← slicePick_all vs.toArray]; exact N'
end
open Sem in
theorem meets_enum_rev (it l : Addr) (i : Int) (dct : Option Addr) (sl : Array (Option Value)) :
    Meets (Builtin.«enumerate.__new__» ⟨[.type "enumerate", .ref it], []⟩) (fun _ R s => s.heap.get? it = some { cls := .type "list_reverseiterator", dict := dct, data := .fields #[.ref l, rawInt i], slots := sl } ∧
      R (.ok (.ret (.ref s.heap.objs.size))) { s with heap := s.heap.push { cls := .type "enumerate", data := .fields #[.none, .bool false, .ref it, rawInt 0, .none, .none] } }) :=
  .of_wp fun prog w A R s h => by
    obtain ⟨hp, g, d, tk, os⟩ := s; obtain ⟨hl, h⟩ := h
    have hsub := sub_enumerate
    have hL : Heap.IsRevIter (Shared.heap ⟨hp, g, d, tk, os⟩) it l i := ⟨_, hl, rfl, rfl⟩
    wp_walk using AutoSeq1.wpAny_loadPart' hl
    refine wpAny_stack_any fun st => wpAny_pure ?_
    split
    · rename_i c _ _ _ _ _
      cases (c == Value.type "enumerate")
      · wp_walk using AutoSeq1.wpAny_loadPart' hl, wpAny_pyIter_revIter hL
        exact ⟨_, rfl, h⟩
      · wp_walk using AutoSeq1.wpAny_loadPart' hl, wpAny_pyIter_revIter hL
        exact ⟨_, rfl, h⟩
    · wp_walk using AutoSeq1.wpAny_loadPart' hl, wpAny_pyIter_revIter hL
      exact ⟨_, rfl, h⟩
section
variable {prog : Program} {A : Around}
theorem call_enum_rev {it l : Addr} {i : Int} (hL : s.heap.IsRevIter it l i)
    (h : ∀ h', IsEnum h' s.heap.objs.size it 0 .none → h'.objs.size = s.heap.objs.size + 1 → (∀ b o, s.heap.get? b = some o → h'.get? b = some o) → Q (.ref s.heap.objs.size) { s with heap := h' }) :
    wpAny (model prog w) A (call (.type "enumerate") [.ref it]) Q E s := by
  obtain ⟨⟨c, dct, dt, sl⟩, hl, hc, hd⟩ := hL
  replace hc : c = .type "list_reverseiterator" := hc
  replace hd : dt = .fields #[.ref l, rawInt i] := hd
  subst hc hd
  refine callType_new PySem.F.called_enumerate (by decide) (PySem.F.typeCall_enumerate_1 _) (PySem.F.newCall_enumerate_1 _) (fun obj => PySem.F.args_object_init_2 obj _) PySem.F.entry_enumerate_new
    (meets_enum_rev it l i dct sl) ⟨hl, ?_⟩
  show _ ∧ _
  have he : IsEnum (s.heap.push { cls := .type "enumerate", data := .fields #[.none, .bool false, .ref it, rawInt 0, .none, .none] }) s.heap.objs.size it 0 .none := Heap.get?_push_size _ rfl
  exact ⟨⟨_, he, rfl⟩, h _ he (by rw [Heap.size_push]) fun b o x => Heap.get?_push_of_some _ x⟩

theorem nextOf_rev_item {it l : Addr} {i : Nat} {items : Array Value} {x : Value} (hit : s.heap.IsRevIter it l (i : Int)) (hl : s.heap.IsList l items) (hx : items[i]? = some x)
    (hQ : ∀ h', h'.IsRevIter it l ((i : Int) - 1) → Heap.SameBut it s.heap h' → Q x { s with heap := h' }) : wpAny (model prog w) A (Builtin.SmallTypes.nextOf (.ref it)) Q E s := by
  obtain ⟨o, ho, hc, hd⟩ := id hit
  obtain ⟨ol, hol, _, nl, hdl⟩ := hl
  unfold Builtin.SmallTypes.nextOf
  refine wpAny_bind (wpAny_callSpecial?_slot (name := Str.ofString "__next__") hit.typeIs PySem.F.slot_lri_next
    (wpAny_call_entry PySem.F.slot_lri_next hit.typeIs PySem.F.entry_lri_next ?_ (PySem.F.args_lri_next_1 _)))
  unfold Builtin.«list_reverseiterator.__next__»
  refine wpAny_bind (wpAny_of_eq (a := (Value.ref it, [])) rfl ?_)
  try dsimp only
  refine wpAny_bind (wpAny_field ho hd (x := rawInt (i : Int)) rfl ?_)
  show wpAny _ _ (if (i : Int) < 0 then _ else _) _ _ s
  rw [if_neg (by omega)]
  show wpAny _ _ (field (.ref it) 0 >>= _) _ _ s
  refine wpAny_bind (wpAny_field ho hd (x := .ref l) rfl ?_)
  show wpAny _ _ (seqItems? (.ref l) >>= _) _ _ s
  refine wpAny_bind (wpAny_seqItems hol hdl ?_)
  simp only [Int.toNat_natCast, hx]
  refine wpAny_bind (wpAny_setField ho hd (by simp) ?_)
  first
  | refine wpAny_pure ⟨x, rfl, wpAny_pure (hQ _ ?_ (Heap.SameBut.update ..))⟩
  | refine wpAny_bind (wpAny_pure (wpAny_pure ⟨x, rfl, wpAny_pure (hQ _ ?_ (Heap.SameBut.update ..))⟩))
  exact ⟨_, Heap.get?_update_self _ ho (Obj.isFreed_of_fields (Obj.data_mapFields hd _)), (Obj.cls_mapFields ..).trans hc, by
    rw [Obj.data_mapFields hd]; simp⟩
theorem nextOf_rev_end {it l : Addr} (hh : A.handled = none) (hit : s.heap.IsRevIter it l (-1))
    (hE : ∀ h' e, Heap.ExtBut it s.heap h' → (∃ o, h'.get? e = some o ∧ o.cls = .type "StopIteration") → E (.ref e) { s with heap := h' }) : wpAny (model prog w) A (Builtin.SmallTypes.nextOf (.ref it)) Q E s := by
  obtain ⟨o, ho, hc, hd⟩ := id hit
  unfold Builtin.SmallTypes.nextOf
  refine wpAny_bind (wpAny_callSpecial?_slot (name := Str.ofString "__next__") hit.typeIs PySem.F.slot_lri_next
    (wpAny_call_entry PySem.F.slot_lri_next hit.typeIs PySem.F.entry_lri_next ?_ (PySem.F.args_lri_next_1 _)))
  unfold Builtin.«list_reverseiterator.__next__»
  refine wpAny_bind (wpAny_of_eq (a := (Value.ref it, [])) rfl ?_)
  try dsimp only
  refine wpAny_bind (wpAny_field ho hd (x := rawInt (-1)) rfl ?_)
  show wpAny _ _ (if (-1 : Int) < 0 then _ else _) _ _ s
  rw [if_pos (by decide)]
  refine wpAny_bind (wpAny_rule ?_)
  first
  | show wpAny _ _ (newExc (.type "StopIteration") [] >>= _) _ _ _
  | (refine wpAny_bind ?_; show wpAny _ _ (newExc (.type "StopIteration") [] >>= _) _ _ _)
  refine wpAny_bind ?_
  simp only [newExc, newTuple]
  refine wpAny_bind (wpAny_newObj_type ?_ (by size_fits))
  refine wpAny_bind (m := firstArgMember _ _) (wpAny_of_eq (a := Value.none) (by first | rfl | (simp only [firstArgMember]; rfl)) ?_)
  refine wpAny_newObj_type ?_ (by size_fits)
  simp only [raiseNew]
  refine wpAny_bind (wpAny_handled ?_)
  first | rw [show A.in1.handled = none from hh] | rw [hh]
  refine wpAny_bind (wpAny_pure (wpAny_throw ?_))
  exact hE _ _ (((Heap.ExtBut.refl _ _).push _).push _) ⟨_, Heap.get?_push_size _ rfl, rfl⟩
end
theorem draws_rev {prog : Program} {A : Around} (hh : A.handled = none) (it l : Addr) (hne : l ≠ it) (items : Array Value) :
    Draws prog w A it [it, l] items.size (fun i v => items[items.size - 1 - i]? = some v) (fun i h => i ≤ items.size ∧ h.IsRevIter it l ((items.size : Int) - 1 - (i : Int)) ∧ h.IsList l items) where
  live := fun _ _ st => let ⟨o, ho, _⟩ := st.2.1; ⟨o, ho⟩
  frame := fun _ _ _ st hk => ⟨st.1, st.2.1.at fun o e => hk it (by simp) o e, st.2.2.at fun o e => hk l (by simp) o e⟩
  item := fun i s Q E hi st hQ => by
    have e : (items.size : Int) - 1 - (i : Int) = ((items.size - 1 - i : Nat) : Int) := by omega
    have hit := st.2.1
    rw [e] at hit
    have hx : items[items.size - 1 - i]? = some (items[items.size - 1 - i]'(by omega)) := Array.getElem?_eq_getElem (by omega)
    refine nextOf_rev_item hit st.2.2 hx fun h' hit' hs' => ?_
    have e2 : ((items.size - 1 - i : Nat) : Int) - 1 = (items.size : Int) - 1 - ((i + 1 : Nat) : Int) := by omega
    rw [e2] at hit'
    exact hQ _ h' s.toks hx ⟨hi, hit', st.2.2.at fun o eo => (hs'.2 l hne).trans eo⟩ hs'
  done := fun s Q E st hE => by
    have e : (items.size : Int) - 1 - (items.size : Int) = -1 := by omega
    have hit := st.2.1
    rw [e] at hit
    exact nextOf_rev_end hh hit hE
/-- what a turn of an enumerating loop hands back -/
def StepE (h₀ : Heap) (L : Addr) (e : Addr) (oe : Obj) (it : Addr) (oi : Obj) (J : (Str → Option Value) → List (Addr × Obj) → Prop) (s₁ : Shared) (Qr : Value → Shared → Prop) (Qb : Shared → Prop) (f : Flow) (s₂ : Shared) : Prop :=
  match f with
  | .ret v => Qr v s₂
  | .brk => Qb s₂
  | _ => ∃ h' tk m₂ news₂, s₂ = { s₁ with heap := h', toks := tk } ∧ Fr h₀ L h' m₂ ∧ News h₀ L h' ((e, oe) :: (it, oi) :: news₂) ∧ (∀ p ∈ news₂, p.1 ≠ e ∧ p.1 ≠ it) ∧ J m₂ news₂

section
variable {prog : Program} {A : Around} {env : Env}
theorem enumLoop {R : Result → Shared → Prop} {xi xc : Str} {pk pv pt : Pos} {x1 : Nat} {body : List Stmt} {e it l : Addr} {lo : Obj} {n : Nat} {P : Nat → Value → Prop} {St : Nat → Heap → Prop}
    (hh : A.handled = none) (D : Draws prog w A.in1 it [it, l] n P St) (hxi : env.kindOf xi = some .local) (hxc : env.kindOf xc = some .local)
    (hp : (env.scope.kind == .class || (env.scope.kind == .module && env.locals != env.globals)) = false)
    (hei : e ≠ it) (hle : l ≠ e) (hLe : env.locals ≠ e) (hLi : env.locals ≠ it) (hLl : env.locals ≠ l)
    (he : IsEnum s.heap e it 0 .none) (hst : St 0 s.heap) (F : Fr h₀ env.locals s.heap m) (N : News h₀ env.locals s.heap news) (hoff : ∀ p ∈ news, p.1 ≠ e ∧ p.1 ≠ it) (h0e : h₀.get? e = none) (h0i : h₀.get? it = none)
    (J : Nat → (Str → Option Value) → List (Addr × Obj) → Prop) (h0 : J 0 m news) (hJl : ∀ i m nw, J i m nw → (l, lo) ∈ nw)
    (step : ∀ i v t m₁ news₁ oe oi h tk, i < n → P i v → J i m₁ news₁ → (∀ p ∈ news₁, p.1 ≠ e ∧ p.1 ≠ it) →
      Fr h₀ env.locals h (fun y => if y = xc then some v else if y = xi then some (.int i t) else m₁ y) → News h₀ env.locals h ((e, oe) :: (it, oi) :: news₁) →
      wpAny (model prog w) A (execs body env) (StepE h₀ env.locals e oe it oi (J (i + 1)) { s with heap := h, toks := tk } (fun v s' => R (.ok (.ret v)) s') fun s' => R (.ok .next) s') (notedBy (model prog w) A env fun e s' => R (.error e) s') { s with heap := h, toks := tk })
    (hR : ∀ h' tk m' news', Fr h₀ env.locals h' m' → News h₀ env.locals h' news' → J n m' news' → R (.ok .next) { s with heap := h', toks := tk }) :
    codeAny (model prog w) A (.forLoop (.Tuple [.Name xi pk, .Name xc pv] x1 pt) (.ref e) body [] env) R s := by
  have hef : e ∉ [it, l] := by simp; exact ⟨hei, hle.symm⟩
  have W := WalksT.enumerateD D e hei hef (by simp)
  have hLf : env.locals ∉ e :: [it, l] := by simp; exact ⟨hLe, hLi, hLl⟩
  have hLw : env.locals ∉ [e, it] := by simp; exact ⟨hLe, hLi⟩
  have old : ∀ b o, h₀.get? b = some o → b ∉ [e, it] := fun b o q hb => by
    rcases List.mem_cons.mp hb with rfl | hb
    · rw [h0e] at q; cases q
    · rw [List.mem_singleton.mp hb, h0i] at q; cases q
  refine codeAny_forLoop_any
    (fun k s' => ∃ (h' : Heap) (tk : Nat) (m' : Str → Option Value) (news' : List (Addr × Obj)) (i : Nat), s' = { s with heap := h', toks := tk } ∧ ((∃ old, IsEnum h' e it i old) ∧ St i h') ∧ Fr h₀ env.locals h' m' ∧ News h₀ env.locals h' news' ∧ (∀ p ∈ news', p.1 ≠ e ∧ p.1 ≠ it) ∧ J i m' news' ∧ i ≤ n ∧ k = n + 1 - i) ?_ (n + 1)
    ⟨s.heap, s.toks, m, news, 0, rfl, ⟨⟨_, by simpa using he⟩, hst⟩, F, N, hoff, h0, Nat.zero_le _, rfl⟩
  rintro k s' ⟨H, tk, m', news', i, rfl, hst', F', N', ho', hJ, hi, rfl⟩
  have notw : ∀ p ∈ news', p.1 ∉ [e, it] := fun p hp hm => by
    rcases List.mem_cons.mp hm with q | hm
    · exact (ho' p hp).1 q
    · exact (ho' p hp).2 (List.mem_singleton.mp hm)
  have next : ∀ h₁ : Heap, (∀ b o, b ∉ [e, it] → H.get? b = some o → h₁.get? b = some o) → Fr h₀ env.locals h₁ m' ∧ News h₀ env.locals h₁ news' := fun h₁ hk₁ =>
    ⟨⟨F'.ns.at' fun o e => hk₁ _ o hLw e, fun b o e => hk₁ b o (old b o e) (F'.keep b o e), F'.above⟩, fun p hp => ⟨hk₁ _ _ (notw p hp) (N' p hp).1, (N' p hp).2⟩⟩
  by_cases hlt : i < n
  · refine W.item i _ _ _ hlt hst' fun T vals h₁ tk₁ hPt _ hT hMid hk₁ => ?_
    obtain ⟨t, x, hPx, rfl⟩ := hPt
    refine W.go _ x1 pt i T _ _ _ hMid fun h₂ hst₂ hk₂ => ?_
    have ht₂ : h₂.IsTuple T #[.int i t, x] := hT.at fun o e => hk₂ T o (W.apart i T h₁ hMid) e
    refine wpAny_assign_Tuple hh ht₂ rfl rfl fun h₃ hx₃ => ?_
    replace hx₃ : Heap.ExtBut h₂.objs.size h₂ h₃ := hx₃
    have up₃ : ∀ b o, h₂.get? b = some o → h₃.get? b = some o := fun b o x => hx₃ b o (Nat.ne_of_lt (Heap.lt_size x)) x
    obtain ⟨F₃, N₃⟩ := next h₃ fun b o hb x => up₃ b o (hk₂ b o hb (hk₁ b o hb x))
    show wpAny _ A (do holding [x] (assign (.Name xi pk) env (.int i t)); do holding [] (assign (.Name xc pv) env x); pure ()) _ _ _
    refine wpAny_bind (wpAny_holding (wpAny_assign_Name (wpAny_storeName_local hxi F₃.ns (fun h₄ hn₄ hs₄ => ?_) hp)))
    replace hs₄ : Heap.SameBut env.locals h₃ h₄ := hs₄
    have F₄ := F₃.set hn₄ hs₄
    refine wpAny_bind (wpAny_holding (wpAny_assign_Name (wpAny_storeName_local hxc F₄.ns (fun h₅ hn₅ hs₅ => wpAny_pure ?_) hp)))
    replace hs₅ : Heap.SameBut env.locals h₄ h₅ := hs₅
    have F₅ := F₄.set hn₅ hs₅
    have N₅ : News h₀ env.locals h₅ news' := (N₃.set hs₄).set hs₅
    have hst₅ := W.frame _ _ h₅ hst₂ fun b hb o e => hs₅.extBut b o (fun q => hLf (q ▸ hb)) (hs₄.extBut b o (fun q => hLf (q ▸ hb)) (up₃ b o e))
    obtain ⟨olde, hoe⟩ := hst₅.1
    obtain ⟨oi, hoi⟩ := D.live _ _ hst₅.2
    have hoe' : ∃ oe, h₅.get? e = some oe := ⟨_, hoe⟩
    obtain ⟨oe, hoe'⟩ := hoe'
    have N₆ : News h₀ env.locals h₅ ((e, oe) :: (it, oi) :: news') := fun p hp => by
      rcases List.mem_cons.mp hp with rfl | hp
      · exact ⟨hoe', hLe.symm, h0e⟩
      · rcases List.mem_cons.mp hp with rfl | hp
        · exact ⟨hoi, hLi.symm, h0i⟩
        · exact N₅ p hp
    have hlm := hJl _ _ _ hJ
    have hl5 := (N₅ _ hlm).1
    have fin : ∀ s₃, (∃ h' tk m₂ news₂, s₃ = { s with heap := h', toks := tk } ∧ Fr h₀ env.locals h' m₂ ∧ News h₀ env.locals h' ((e, oe) :: (it, oi) :: news₂) ∧ (∀ p ∈ news₂, p.1 ≠ e ∧ p.1 ≠ it) ∧ J (i + 1) m₂ news₂) →
        ∃ k', k' < n + 1 - i ∧ ∃ (h' : Heap) (tk : Nat) (m' : Str → Option Value) (news' : List (Addr × Obj)) (i : Nat), s₃ = { s with heap := h', toks := tk } ∧ ((∃ old, IsEnum h' e it i old) ∧ St i h') ∧ Fr h₀ env.locals h' m' ∧ News h₀ env.locals h' news' ∧ (∀ p ∈ news', p.1 ≠ e ∧ p.1 ≠ it) ∧ J i m' news' ∧ i ≤ n ∧ k' = n + 1 - i := by
      rintro s₃ ⟨h₇, tk₇, m₂, news₂, rfl, F₇, N₇, ho₇, hJ₇⟩
      refine ⟨n + 1 - (i + 1), by omega, h₇, tk₇, m₂, news₂, i + 1, rfl, ?_, F₇, fun p hp => N₇ p (.tail _ (.tail _ hp)), ho₇, hJ₇, hlt, rfl⟩
      refine W.frame _ _ _ hst₅ fun b hb o q => ?_
      rcases List.mem_cons.mp hb with rfl | hb
      · rw [hoe'] at q; cases q; exact (N₇ _ (.head _)).1
      · rcases List.mem_cons.mp hb with rfl | hb
        · rw [hoi] at q; cases q; exact (N₇ _ (.tail _ (.head _))).1
        · rw [List.mem_singleton.mp hb] at q ⊢
          rw [hl5] at q; cases q
          exact (N₇ _ (.tail _ (.tail _ (hJl _ _ _ hJ₇)))).1
    refine wpAny_mono (step i x t m' news' oe oi h₅ _ hlt hPx hJ ho' F₅ N₆) (fun f s₃ h₆ => ?_) fun _ _ e => e
    cases f with
    | ret v => exact h₆
    | brk => exact h₆
    | cont => exact fin _ h₆
    | next => exact fin _ h₆
  · have hin : i = n := by omega
    subst hin
    refine W.done _ _ _ hst' fun h₁ tk₁ hk₁ => wpAny_execs_nil ?_
    obtain ⟨F₁, N₁⟩ := next h₁ hk₁
    exact hR h₁ tk₁ m' news' F₁ N₁ hJ
end
def StepR (h₀ : Heap) (L : Addr) (nw : List (Addr × Obj)) (J : (Str → Option Value) → Prop) (s₁ : Shared) (Qr : Value → Shared → Prop) (Qb : Shared → Prop) (f : Flow) (s₂ : Shared) : Prop :=
  match f with
  | .ret v => Qr v s₂
  | .brk => Qb s₂
  | _ => ∃ h' tk m₂, s₂ = { s₁ with heap := h', toks := tk } ∧ Fr h₀ L h' m₂ ∧ News h₀ L h' nw ∧ J m₂
section
variable {prog : Program} {A : Around} {env : Env} {lst : Addr} {vs : List Value} {n : Nat}
theorem reversed_c (F : Fr h₀ L s.heap m) (N : News h₀ L s.heap news) (hm : (lst, W.listOf vs.toArray n) ∈ news)
    (h : ∀ D h', Fr h₀ L h' m → News h₀ L h' ((D, revObj lst ((vs.length : Int) - 1)) :: news) → (∀ p ∈ news, p.1 < D) → Q (.ref D) { s with heap := h' }) : wpAny (model prog w) A (call (.type "reversed") [.ref lst]) Q E s :=
  krv_reversed F N ⟨_, (N _ hm).1, rfl, n, rfl⟩ h
theorem forRev_c {Q : Flow → Shared → Prop} {xi xc : Str} {pk pv pt : Pos} {x1 : Nat} {body : List Stmt} {it : Addr} (hh : A.handled = none) (hE : PassesOwn (model prog w) A env E) (hxi : env.kindOf xi = some .local) (hxc : env.kindOf xc = some .local)
    (hp : (env.scope.kind == .class || (env.scope.kind == .module && env.locals != env.globals)) = false)
    (F : Fr h₀ env.locals s.heap m) (N : News h₀ env.locals s.heap ((it, revObj lst ((vs.length : Int) - 1)) :: news)) (hlt : ∀ p ∈ news, p.1 < it) (hm : (lst, W.listOf vs.toArray n) ∈ news)
    (J : Nat → (Str → Option Value) → Prop) (h0 : J 0 m)
    (step : ∀ i v t m₁ nw h tk, i < vs.length → vs[vs.length - 1 - i]? = some v → J i m₁ → (∀ p ∈ news, p ∈ nw) → Fr h₀ env.locals h (fun y => if y = xc then some v else if y = xi then some (.int (i : Nat) t) else m₁ y) → News h₀ env.locals h nw →
      wpAny (model prog w) A (execs body env) (StepR h₀ env.locals nw (J (i + 1)) { s with heap := h, toks := tk } (fun v s' => Q (.ret v) s') fun s' => Q .next s') E { s with heap := h, toks := tk })
    (done : ∀ h' tk m', Fr h₀ env.locals h' m' → News h₀ env.locals h' news → J vs.length m' → Q .next { s with heap := h', toks := tk }) :
    wpAny (model prog w) A (call (.type "enumerate") [.ref it]) (fun xv s₁ => wpAny (model prog w) A (pyIter xv) (fun itv s₂ => codeAny (model prog w) A (.forLoop (.Tuple [.Name xi pk, .Name xc pv] x1 pt) itv body [] env) (fun r s' => match r with | .ok f => Q f s' | .error e => cameBackBy (model prog w) A env E e s') s₂) E s₁) E s := by
  have hI := N _ (.head _)
  have hL := N _ (.tail _ hm)
  have hne : lst ≠ it := Nat.ne_of_lt (hlt _ hm)
  refine call_enum_rev (it := it) (l := lst) (i := (vs.length : Int) - 1) ⟨_, hI.1, rfl, rfl⟩ fun h₁ he hz hk => ?_
  refine wpAny_pyIter_enum he ?_
  have old : ∀ p ∈ (it, revObj lst ((vs.length : Int) - 1)) :: news, p.1 ≠ s.heap.objs.size := fun p hp => Nat.ne_of_lt (Heap.lt_size (N p hp).1)
  have e0 : h₀.get? s.heap.objs.size = none := by
    cases q : h₀.get? s.heap.objs.size with
    | none => rfl
    | some o => exact absurd (Heap.lt_size (F.keep _ _ q)) (Nat.lt_irrefl _)
  have hs : vs.toArray.size = vs.length := List.size_toArray
  refine enumLoop (m := m) (news := news) (e := s.heap.objs.size) (it := it) (l := lst) (lo := W.listOf vs.toArray n) hh (draws_rev (A := A.in1) (show A.handled = none from hh) it lst hne vs.toArray) hxi hxc hp (Ne.symm (old _ (.head _))) (old _ (.tail _ hm)) (Nat.ne_of_lt F.ns.lt) (Ne.symm hI.2.1) (Ne.symm hL.2.1) he ?_
    ⟨F.ns.at' fun o q => hk _ _ q, fun b o q => hk _ _ (F.keep b o q), F.above⟩ (fun p hp => ⟨hk _ _ (N p (.tail _ hp)).1, (N p (.tail _ hp)).2⟩) (fun p hp => ⟨old _ (.tail _ hp), Nat.ne_of_lt (hlt p hp)⟩) e0 hI.2.2
    (fun i m₁ nw => nw = news ∧ J i m₁) ⟨rfl, h0⟩ (fun i m₁ nw hj => hj.1 ▸ hm) ?_ ?_
  · refine ⟨Nat.zero_le _, ⟨_, hk _ _ hI.1, rfl, ?_⟩, _, hk _ _ hL.1, rfl, n, rfl⟩
    rw [hs]; simp; rfl
  · rintro i v t m₁ news₁ oe oi h₂ tk hi hv ⟨rfl, hJ⟩ hoff F₂ N₂
    rw [hs] at hi hv
    refine wpAny_passesOwn hE (wpAny_mono (step i v t m₁ _ h₂ tk hi (by simpa using hv) hJ (fun p hp => .tail _ (.tail _ hp)) F₂ N₂) (fun f s₃ h₆ => ?_) fun _ _ q => q)
    cases f with
    | ret v => exact h₆
    | brk => exact h₆
    | next => obtain ⟨h', tk', m₂, e, F₃, N₃, hj⟩ := h₆; exact ⟨h', tk', m₂, _, e, F₃, N₃, hoff, rfl, hj⟩
    | cont => obtain ⟨h', tk', m₂, e, F₃, N₃, hj⟩ := h₆; exact ⟨h', tk', m₂, _, e, F₃, N₃, hoff, rfl, hj⟩
  · rintro h' tk m' news' F' N' ⟨rfl, hj⟩
    rw [hs] at hj
    exact done h' tk m' F' N' hj
theorem map_turn {m m₁ : Str → Option Value} {xi xc : Str} {v0 v1 : Value} (h : ∀ y : Str, y ≠ xi → y ≠ xc → m₁ y = m y) :
    (fun y => if y = xc then some v1 else if y = xi then some v0 else m₁ y) = fun y => if y = xc then some v1 else if y = xi then some v0 else m y := by
  funext y
  by_cases h1 : y = xc
  · simp [h1]
  · by_cases h2 : y = xi
    · simp [h1, h2]
    · simp only [if_neg h1, if_neg h2]; exact h y h2 h1
theorem forRevK_c {Q : Flow → Shared → Prop} {xi xc : Str} {pk pv pt : Pos} {x1 : Nat} {body : List Stmt} {it : Addr} (hh : A.handled = none) (hE : PassesOwn (model prog w) A env E) (hxi : env.kindOf xi = some .local) (hxc : env.kindOf xc = some .local)
    (hp : (env.scope.kind == .class || (env.scope.kind == .module && env.locals != env.globals)) = false)
    (F : Fr h₀ env.locals s.heap m) (N : News h₀ env.locals s.heap ((it, revObj lst ((vs.length : Int) - 1)) :: news)) (hlt : ∀ p ∈ news, p.1 < it) (hm : (lst, W.listOf vs.toArray n) ∈ news)
    (J : Nat → Prop) (h0 : J 0)
    (step : ∀ i v t nw h tk, i < vs.length → vs[vs.length - 1 - i]? = some v → J i → (∀ p ∈ news, p ∈ nw) → Fr h₀ env.locals h (fun y => if y = xc then some v else if y = xi then some (.int (i : Nat) t) else m y) → News h₀ env.locals h nw →
      wpAny (model prog w) A (execs body env) (StepR h₀ env.locals nw (fun m₂ => (∀ y : Str, y ≠ xi → y ≠ xc → m₂ y = m y) ∧ J (i + 1)) { s with heap := h, toks := tk } (fun v s' => Q (.ret v) s') fun s' => Q .next s') E { s with heap := h, toks := tk })
    (done : ∀ h' tk m', Fr h₀ env.locals h' m' → News h₀ env.locals h' news → (∀ y : Str, y ≠ xi → y ≠ xc → m' y = m y) → J vs.length → Q .next { s with heap := h', toks := tk }) :
    wpAny (model prog w) A (call (.type "enumerate") [.ref it]) (fun xv s₁ => wpAny (model prog w) A (pyIter xv) (fun itv s₂ => codeAny (model prog w) A (.forLoop (.Tuple [.Name xi pk, .Name xc pv] x1 pt) itv body [] env) (fun r s' => match r with | .ok f => Q f s' | .error e => cameBackBy (model prog w) A env E e s') s₂) E s₁) E s := by
  refine forRev_c hh hE hxi hxc hp F N hlt hm (fun i m₁ => (∀ y : Str, y ≠ xi → y ≠ xc → m₁ y = m y) ∧ J i) ⟨fun _ _ _ => rfl, h0⟩ ?_ fun h' tk m' F' N' hj => done h' tk m' F' N' hj.1 hj.2
  rintro i v t m₁ nw h tk hi hv ⟨hm₁, hJ⟩ hsub F₂ N₂
  rw [map_turn hm₁] at F₂
  exact step i v t nw h tk hi hv hJ hsub F₂ N₂
end
section
variable {A : Around} {a da x : Addr} {c c1 c2 : Nat} {v v1 v2 : Value} {t1 t2 : Tok}
theorem val_handed (h : IsVal c v) : handedIn v = true := by
  unfold IsVal at h
  split at h <;> obtain ⟨t, rfl⟩ := h <;> rfl
theorem getValue_c {expr : Bool} (F : Fr h₀ L s.heap m) (N : News h₀ L s.heap news) (X : (Mine.hd.heap_39 w.params).In h₀) (ha : (a, instObj (clsOf c) da) ∈ news) (hda : (da, opDict w.params v t1 t2) ∈ news) (hv : IsVal c v)
    (h : Q v { s with toks := s.toks + 1 }) : wpAny (model PR w) A (getAttr (.ref a) "value" expr) Q E s := by
  have hh := val_handed hv
  by_cases hc : c % 2 = 0
  · rw [show clsOf c = 126 from if_pos hc] at ha
    refine' get_own ?k1 ?k2 ?k3 ?k4 ?k5 ?k6 ?k7 ?k8 ?k9 h
    case k1 => k_asm
    case k2 => k_asm
    case k3 => exact InstAt.of_news N ha hda
    case k4 => k_is
    case k5 => k_is
    case k6 => k_is
    case k7 => k_is
    case k8 => k_get
    case k9 => exact hh
  · rw [show clsOf c = 97 from if_neg hc] at ha
    refine' get_own ?k1 ?k2 ?k3 ?k4 ?k5 ?k6 ?k7 ?k8 ?k9 h
    case k1 => k_asm
    case k2 => k_asm
    case k3 => exact InstAt.of_news N ha hda
    case k4 => k_is
    case k5 => k_is
    case k6 => k_is
    case k7 => k_is
    case k8 => k_get
    case k9 => exact hh
theorem isOp_c (F : Fr h₀ L s.heap m) (N : News h₀ L s.heap news) (X : (Mine.hd.heap_39 w.params).In h₀) (ha : (a, instObj (clsOf c) da) ∈ news) (hda : (da, opDict w.params v t1 t2) ∈ news)
    (h : Q (.bool true) s) : wpAny (model PR w) A (call (.builtin "isinstance") [.ref a, .ref 67]) Q E s := by
  by_cases hc : c % 2 = 0
  · rw [show clsOf c = 126 from if_pos hc] at ha
    k_dflt (refine' isi_call ?k1 ?k2 ?k3 ?k4 h; (case k1 => k_in); (case k2 => (intro M; exact InstAt.type (InstAt.of_news N ha hda))); (case k3 => k_is); (case k4 => intro e; cases e))
  · rw [show clsOf c = 97 from if_neg hc] at ha
    k_dflt (refine' isi_call ?k1 ?k2 ?k3 ?k4 h; (case k1 => k_in); (case k2 => (intro M; exact InstAt.type (InstAt.of_news N ha hda))); (case k3 => k_is); (case k4 => intro e; cases e))
theorem nameOf_inj {i j : Nat} (hi : i < 4) (hj : j < 4) : (nameOf i == nameOf j) = decide (i = j) := by
  have h1 : i = 0 ∨ i = 1 ∨ i = 2 ∨ i = 3 := by omega
  have h2 : j = 0 ∨ j = 1 ∨ j = 2 ∨ j = 3 := by omega
  rcases h1 with rfl | rfl | rfl | rfl <;> rcases h2 with rfl | rfl | rfl | rfl <;> decide +kernel
theorem eqVal_c (h1 : IsVal c1 v1) (h2 : IsVal c2 v2) (hc1 : c1 < 8) (hc2 : c2 < 8) (h : Q (.bool (decide (c1 = c2))) s) : wpAny (model PR w) A (compareOp .Eq v1 v2) Q E s := by
  unfold IsVal at h1 h2
  split at h1 <;> split at h2 <;> obtain ⟨t, rfl⟩ := h1 <;> obtain ⟨t', rfl⟩ := h2
  · refine eq_str ?_
    rw [nameOf_inj (by omega) (by omega)]
    rw [show decide (c1 / 2 = c2 / 2) = decide (c1 = c2) from decide_eq_decide.mpr (by omega)]; exact h
  · refine EqMixed.eq_str_int ?_
    rw [show decide (c1 = c2) = false from decide_eq_false (by omega)] at h; exact h
  · refine EqMixed.eq_int_str ?_
    rw [show decide (c1 = c2) = false from decide_eq_false (by omega)] at h; exact h
  · refine eq_int ?_
    rw [show ((((c1 / 2 : Nat) : Int)) == ((c2 / 2 : Nat) : Int)) = decide (c1 = c2) from by
      rw [Bool.eq_iff_iff]; simp only [beq_iff_eq, decide_eq_true_eq]; omega]
    exact h
end
def dataOf (c : Nat) : PyData := if c % 2 = 0 then .str (nameOf (c / 2)) else .int ((c / 2 : Nat) : Int)
theorem carried_of {c : Nat} {v : Value} (h : IsVal c v) : Carried v (dataOf c) := by
  unfold IsVal at h; unfold dataOf
  split at h <;> rename_i hc <;> obtain ⟨t, rfl⟩ := h
  · rw [if_pos hc]; exact .str _ _
  · rw [if_neg hc]; exact .int _ _
section
theorem pz_of {F : Value → Value → Prop} {f : Nat → Tok} {pv : Value → Bool} {pz : Nat → Bool} : ∀ {ks : List Nat} {ys : List Value}, (∀ k ∈ ks, pv (.int (k : Nat) (f k)) = pz k) → Paired F ((ks.map fun k => Value.int (k : Nat) (f k)).filter pv) ys → Paired (fun k y => F (.int (k : Nat) (f k)) y) (ks.filter pz) ys
  | [], ys, _, h => by
    simp only [List.map_nil, List.filter_nil] at h ⊢
    cases h; exact .nil
  | k :: r, ys, hp, h => by
    have hk := hp k (.head _)
    have hr : ∀ k ∈ r, pv (.int (k : Nat) (f k)) = pz k := fun k q => hp k (.tail _ q)
    rw [List.map_cons] at h
    by_cases hc : pz k = true
    · rw [List.filter_cons_of_pos (by rw [hk]; exact hc)] at h
      rw [List.filter_cons_of_pos hc]
      cases h with
      | cons h1 h2 => exact .cons h1 (pz_of hr h2)
    · rw [List.filter_cons_of_neg (by rw [hk]; exact hc)] at h
      rw [List.filter_cons_of_neg hc]
      exact pz_of hr h
theorem ints_form {vs : List Value} {n : Nat} (hl : vs.length = n) (h : ∀ (j : Nat) v, vs[j]? = some v → ∃ t, v = .int (0 + (j : Nat) * 1) t) : ∃ f : Nat → Tok, vs = (List.range n).map fun k => Value.int (k : Nat) (f k) := by
  subst hl
  have key : ∀ k, ∃ t, k < vs.length → vs[k]? = some (.int (k : Nat) t) := fun k => by
    by_cases hk : k < vs.length
    · obtain ⟨t, ht⟩ := h k vs[k] (List.getElem?_eq_getElem hk)
      refine ⟨t, fun _ => ?_⟩
      rw [List.getElem?_eq_getElem hk, ht]
      simp
    · exact ⟨0, fun q => absurd q hk⟩
  refine ⟨fun k => Classical.choose (key k), List.ext_getElem? fun k => ?_⟩
  by_cases hk : k < vs.length
  · rw [Classical.choose_spec (key k) hk]
    simp [hk]
  · rw [List.getElem?_eq_none (by omega), List.getElem?_eq_none (by simp; omega)]
def AllNe (d : Addr) : List (Addr × Obj) → Prop
  | [] => True
  | p :: r => @Ne Nat p.1 d ∧ AllNe d r
theorem allNe_of {d : Addr} {l : List (Addr × Obj)} (h : ∀ p ∈ l, p.1 ≠ d) : AllNe d l := by
  induction l with
  | nil => trivial
  | cons p r ih => exact ⟨h p (.head _), ih fun q hq => h q (.tail _ hq)⟩
theorem allNe_to {d : Addr} {l : List (Addr × Obj)} (h : AllNe d l) : ∀ p ∈ l, p.1 ≠ d := by
  induction l with
  | nil => intro p hp; cases hp
  | cons q r ih =>
    intro p hp
    rcases List.mem_cons.mp hp with e | hp
    · rw [e]; exact h.1
    · exact ih h.2 p hp

theorem walks_bound {prog : Program} {A : Around} {I : Addr} {fp wr : List Addr} {n : Nat} {P : Nat → Value → Prop} {St : Nat → Heap → Prop} (W : Walks prog w A I fp wr n P St) : Walks prog w A I fp wr n (fun i v => i < n ∧ P i v) St where
  sub := W.sub
  frame := W.frame
  item := fun i s Q E hi st hQ => W.item i s Q E hi st fun v h' tk hP hst hk => hQ v h' tk ⟨hi, hP⟩ hst hk
  done := W.done
  self := W.self
variable {prog : Program} {A : Around} {env : Env}
theorem compRange_c {elt iter : PySem.Expr} {x : Str} {px : Pos} {ifs : List PySem.Expr} {scope : Scope} {cl : List (Str × Addr)} {pos : Pos} (n : Nat) (pz : Nat → Bool) (Fv : Nat → Value → Prop) (_F₀ : Fr h₀ L s.heap m)
    (hh : A.handled = none) (hclos : closureFor scope env = pure cl) (hcell : ∀ y ∈ scope.names, y.2 ≠ .cell) (hkind : scope.kind = .function)
    (hnames : ∀ y ∈ scope.names, y.2 = .local → scope.names.lookup y.1 = some .local) (hx : scope.names.lookup x = some .local) (hs : ∀ x, foldedSetIterable iter env x = pure x) (hn : n ≤ 1000)
    (h : wpAny (model prog w) A (eval iter env) (fun xv s₁ => ∃ r t u v news, xv = .ref r ∧ IsRange s₁.heap r 0 n 1 t u v ∧ Fr h₀ L s₁.heap m ∧ News h₀ L s₁.heap news ∧
      (∀ k t C s₂ m₂ E', k < n → Fr h₀ L s₂.heap m → News h₀ L s₂.heap news → InElt s₂.heap s₂.heap → s₂.heap.Ns (compEnvC scope cl C env).locals m₂ → m₂ x = some (.int (k : Nat) t) →
        wpAny (model prog w) A (forIn ifs true fun c r => if r = true then do let ok ← isTrue c (compEnvC scope cl C env) (eval c (compEnvC scope cl C env)); pure (ForInStep.yield ok) else pure (ForInStep.yield r)) (fun ok s₃ => ok = pz k ∧ Keeps s₂ s₃) E' s₂) ∧
      (∀ k t C s₂ m₂ E', k < n → pz k = true → Fr h₀ L s₂.heap m → News h₀ L s₂.heap news → InElt s₂.heap s₂.heap → s₂.heap.Ns (compEnvC scope cl C env).locals m₂ → m₂ x = some (.int (k : Nat) t) →
        wpAny (model prog w) A (eval elt (compEnvC scope cl C env)) (fun y s₃ => Fv k y ∧ Keeps s₂ s₃) E' s₂) ∧
      (∀ D ys ep h' tk, Fr h₀ L h' m → News h₀ L h' ((D, W.listOf (List.toArray ys) ep) :: news) → (∀ p ∈ news, p.1 ≠ D) → (∀ b o, s₁.heap.get? b = some o → h'.get? b = some o) → Paired Fv ((List.range n).filter pz) ys → Q (.ref D) { s₁ with heap := h', toks := tk })) E s) :
    wpAny (model prog w) A (eval (.ListComp elt [⟨.Name x px, iter, ifs, 0⟩] scope pos) env) Q E s := by
  refine wpAny_ListComp_free (fun v => match v with | .int i _ => pz i.toNat | _ => false) (fun v y => match v with | .int i _ => Fv i.toNat y | _ => False) hclos hcell hkind hnames hx (wpAny_mono h (fun xv s₁ h₁ => ?_) fun _ _ e => e) hs
  obtain ⟨r, t, u, v, news, rfl, hr, F, N, htests, helt, hQ⟩ := h₁
  have up : ∀ (s₃ : Shared), (∀ b o, b ∉ [s₁.heap.objs.size] → (s₁.heap.push { cls := .type "range_iterator", data := .fields #[rawInt 0, rawInt n, rawInt 1] }).get? b = some o → s₃.heap.get? b = some o) → ∀ b o, s₁.heap.get? b = some o → s₃.heap.get? b = some o :=
    fun s₃ hk b o e => hk b o (fun hm => by rw [List.mem_singleton.mp hm] at e; exact Nat.lt_irrefl _ (Heap.lt_size e)) (Heap.get?_push_of_some _ e)
  have hsz : Builtin.Range.rangeSize 0 n 1 = n := by
    rw [rangeSize_nat]; omega
  refine wpAny_pyIter_range hr ?_ ?_
  · exact small_one (by omega) (by omega) (by omega) (by omega)
  rw [hsz]
  refine ⟨s₁.heap.objs.size, [s₁.heap.objs.size], [s₁.heap.objs.size], n, _, _, rfl, walks_bound (Walks.range hh s₁.heap.objs.size 0 1 n), by rw [sizeLine_eq]; omega, ?_, ?_, ⟨?_, ?_⟩, ?_⟩
  · have := Heap.get?_push_size s.heap (o := { cls := .type "range_iterator", data := .fields #[rawInt 0, rawInt n, rawInt 1] }) rfl
    simp only [IsRangeIter]
    simp
    exact Heap.get?_push_size _ rfl
  · intro b hb
    rw [List.mem_singleton.mp hb]
    show _ < (s₁.heap.push _).objs.size
    rw [Heap.size_push]; exact Nat.lt_succ_self _
  · rintro C i v s₃ m₃ E' hC ⟨hi, t', rfl⟩ hns hm hk _
    have k1 := up s₃ hk
    have e : (0 : Int) + (i : Nat) * 1 = (i : Nat) := by omega
    rw [e] at hm ⊢
    exact htests i t' C s₃ m₃ E' hi (F.keeps k1) (fun p hp => ⟨k1 _ _ (N p hp).1, (N p hp).2⟩) (InElt.start _) hns hm
  · rintro C i v s₃ m₃ E' hC ⟨hi, t', rfl⟩ hp hns hm hk _
    have k1 := up s₃ hk
    have e : (0 : Int) + (i : Nat) * 1 = (i : Nat) := by omega
    rw [e] at hm hp ⊢
    exact helt i t' C s₃ m₃ E' hi hp (F.keeps k1) (fun p hp => ⟨k1 _ _ (N p hp).1, (N p hp).2⟩) (InElt.start _) hns hm
  · intro D h' tk ys vs hD hl hpl hlen hP hF hk
    have k1 : ∀ b o, s₁.heap.get? b = some o → h'.get? b = some o := up { s₁ with heap := h' } hk
    obtain ⟨ep, hep⟩ := hpl
    obtain ⟨f, rfl⟩ := ints_form hlen fun j v q => (hP j v q).2
    have N' : News h₀ L h' ((D, W.listOf (List.toArray ys.toList) ep) :: news) := fun p hp => by
      rcases List.mem_cons.mp hp with rfl | hp
      · refine ⟨by simpa using hep, fun q => ?_, ?_⟩
        · obtain ⟨oL, _, _, hL, _⟩ := F.ns
          have z := Heap.get?_push_of_some { cls := .type "range_iterator", data := .fields #[rawInt 0, rawInt n, rawInt 1] } hL
          have q' : D = L := q
          rw [← q', hD] at z; cases z
        · cases q : h₀.get? D with
          | none => rfl
          | some o =>
            have z := Heap.get?_push_of_some { cls := .type "range_iterator", data := .fields #[rawInt 0, rawInt n, rawInt 1] } (F.keep _ _ q)
            rw [hD] at z; cases z
      · exact ⟨k1 _ _ (N p hp).1, (N p hp).2⟩
    refine hQ D ys.toList ep h' tk (F.keeps k1) N' (fun p hp q => ?_) k1 (pz_of (fun k _ => rfl) hF)
    have z := Heap.get?_push_of_some { cls := .type "range_iterator", data := .fields #[rawInt 0, rawInt n, rawInt 1] } (N p hp).1
    rw [q, hD] at z; cases z
/-- two lists of the same codes -/
theorem shaped_data (cs : List Nat) : SeqAt.shaped (.list (cs.map dataOf)) = true := by
  have h1 : ∀ cs : List Nat, PyData.canLayAll0 (cs.map dataOf) = true := by
    intro cs
    induction cs with
    | nil => rfl
    | cons c r ih =>
      simp only [List.map_cons, PyData.canLayAll0, ih, Bool.and_true]
      unfold dataOf
      split
      · unfold nameOf; split <;> decide +kernel
      · rfl
  have h2 : ∀ cs : List Nat, PyData.depthAll (cs.map dataOf) ≤ 1 := by
    intro cs
    induction cs with
    | nil => exact Nat.zero_le _
    | cons c r ih =>
      simp only [List.map_cons, PyData.depthAll]
      have : (dataOf c).depth ≤ 1 := by unfold dataOf; split <;> simp [PyData.depth]
      omega
  simp only [SeqAt.shaped, PyData.canLay0, PyData.depth, h1, Bool.true_and]
  have := h2 cs
  exact decide_eq_true (by omega)
theorem eqv_data (cs : List Nat) : PyData.eqv (.list (cs.map dataOf)) (.list (cs.map dataOf)) = true := by
  have h : ∀ cs : List Nat, PyData.eqvAll (cs.map dataOf) (cs.map dataOf) = true := by
    intro cs
    induction cs with
    | nil => rfl
    | cons c r ih =>
      simp only [List.map_cons, PyData.eqvAll, ih, Bool.and_true]
      unfold dataOf; split <;> simp [PyData.eqv]
  simp only [PyData.eqv, h]
theorem carriedAll_of {α : Type} {g : α → Nat} : ∀ {ks : List α} {ys : List Value}, Paired (fun k y => IsVal (g k) y) ks ys → CarriedAll ys ((ks.map g).map dataOf)
  | _, _, .nil => .nil
  | _, _, .cons h r => .cons (carried_of h) (carriedAll_of r)
theorem neLists_c {D1 D2 : Addr} {ys zs : List Value} {e1 e2 : Nat} {cs : List Nat} (N : News h₀ L s.heap news) (h1 : (D1, W.listOf ys.toArray e1) ∈ news) (h2 : (D2, W.listOf zs.toArray e2) ∈ news)
    (c1 : CarriedAll ys (cs.map dataOf)) (c2 : CarriedAll zs (cs.map dataOf)) (hu : A.units + 64 < cLine) (h : Q (.bool false) s) : wpAny (model prog w) A (compareOp .NotEq (.ref D1) (.ref D2)) Q E s := by
  refine SeqAt.compareNe_shaped (reads_newData ⟨_, (N _ h1).1, rfl, e1, rfl⟩ c1) (reads_newData ⟨_, (N _ h2).1, rfl, e2, rfl⟩ c2) (shaped_data cs) (shaped_data cs) hu ?_
  rw [eqv_data]; exact h
end
/-- what a turn of a counting loop hands back -/
def StepI (h₀ : Heap) (L : Addr) (I : Addr) (oi : Obj) (J : (Str → Option Value) → List (Addr × Obj) → Prop) (s₁ : Shared) (Qr : Value → Shared → Prop) (Qb : Shared → Prop) (f : Flow) (s₂ : Shared) : Prop :=
  match f with
  | .ret v => Qr v s₂
  | .brk => Qb s₂
  | _ => ∃ h' tk m₂ news₂, s₂ = { s₁ with heap := h', toks := tk } ∧ Fr h₀ L h' m₂ ∧ News h₀ L h' ((I, oi) :: news₂) ∧ (∀ p ∈ news₂, p.1 ≠ I) ∧ J m₂ news₂
section
variable {prog : Program} {A : Around} {env : Env}
theorem forRange_c {Q : Flow → Shared → Prop} {iter : PySem.Expr} {x : Str} {px pos : Pos} {body : List Stmt} (n : Nat) (_F₀ : Fr h₀ env.locals s.heap m)
    (hh : A.handled = none) (hx : env.kindOf x = some .local) (hp : (env.scope.kind == .class || (env.scope.kind == .module && env.locals != env.globals)) = false) (hs : ∀ x, foldedSetIterable iter env x = pure x) (hE : PassesOwn (model prog w) A env E) (hn : n ≤ 1000)
    (h : wpAny (model prog w) A (eval iter env) (fun xv s₁ => ∃ r t u v m news, ∃ J : Nat → (Str → Option Value) → List (Addr × Obj) → Prop, xv = .ref r ∧ IsRange s₁.heap r 0 n 1 t u v ∧ Fr h₀ env.locals s₁.heap m ∧ News h₀ env.locals s₁.heap news ∧ J 0 m news ∧
      (∀ i t m₁ news₁ I oi h tk, i < n → J i m₁ news₁ → (∀ p ∈ news₁, p.1 ≠ I) → Fr h₀ env.locals h (fun y => if y = x then some (.int (i : Nat) t) else m₁ y) → News h₀ env.locals h ((I, oi) :: news₁) →
        wpAny (model prog w) A (execs body env) (StepI h₀ env.locals I oi (J (i + 1)) { s₁ with heap := h, toks := tk } (fun v s' => Q (.ret v) s') fun s' => Q .next s') E { s₁ with heap := h, toks := tk }) ∧
      (∀ h' tk m' news', Fr h₀ env.locals h' m' → News h₀ env.locals h' news' → J n m' news' → Q .next { s₁ with heap := h', toks := tk })) E s) :
    wpAny (model prog w) A (exec (.For (.Name x px) iter body [] pos) env) Q E s := by
  refine For_invV h₀ hx hp (wpAny_mono h (fun xv s₁ h₁ => ?_) fun _ _ e => e) hs hE
  obtain ⟨r, t, u, v, m, news, J, rfl, hr, F, N, hJ, step, done⟩ := h₁
  have hsz : Builtin.Range.rangeSize 0 n 1 = n := by rw [rangeSize_nat]; omega
  refine wpAny_pyIter_range hr (small_one (by omega) (by omega) (by omega) (by omega)) ?_
  rw [hsz]
  have e0 : h₀.get? s₁.heap.objs.size = none := by
    cases q : h₀.get? s₁.heap.objs.size with
    | none => rfl
    | some o => exact absurd (Heap.lt_size (F.keep _ _ q)) (Nat.lt_irrefl _)
  refine ⟨s₁.heap.objs.size, [s₁.heap.objs.size], [s₁.heap.objs.size], n, _, _, m, news, J, rfl, walks_bound (Walks.range hh s₁.heap.objs.size 0 1 n), ?_, ?_, ?_, ?_, F.push _, (fun p hp => ⟨Heap.get?_push_of_some _ (N p hp).1, (N p hp).2⟩), hJ, ?_, ?_⟩
  · intro hm
    exact Nat.lt_irrefl _ ((List.mem_singleton.mp hm) ▸ F.ns.lt)
  · intro b hb; rw [List.mem_singleton.mp hb]; exact e0
  · intro p hp hm
    exact Nat.lt_irrefl _ ((List.mem_singleton.mp hm) ▸ Heap.lt_size (N p hp).1)
  · simp only [IsRangeIter]
    simp
    exact Heap.get?_push_size _ rfl
  · rintro i v m₁ news₁ s₂ own ⟨h₂, tk, rfl⟩ hi ⟨_, t', rfl⟩ hj hoff hown hget hall hst F₂ N₂
    have e : (0 : Int) + (i : Nat) * 1 = (i : Nat) := by omega
    rw [e] at F₂
    have hst' : IsRangeIter h₂ s₁.heap.objs.size (0 + ((i + 1 : Nat) : Int) * 1) ((n : Int) - ((i + 1 : Nat) : Int)) 1 := hst
    obtain ⟨oi, hoi⟩ : ∃ oi, h₂.get? s₁.heap.objs.size = some oi := ⟨_, hst'⟩
    have hmem := hall _ (.head _) e0 _ hoi
    have only : ∀ p ∈ own, p = (s₁.heap.objs.size, oi) := fun p hp => by
      have h1 := List.mem_singleton.mp (hown p hp)
      have h2 : h₂.get? p.1 = some p.2 := hget p hp
      rw [h1, hoi] at h2
      exact Prod.ext h1 (Option.some.inj h2).symm
    have N₃ : News h₀ env.locals h₂ ((s₁.heap.objs.size, oi) :: news₁) := fun p hp => by
      rcases List.mem_cons.mp hp with rfl | hp
      · exact N₂ _ (List.mem_append_left _ hmem)
      · exact N₂ _ (List.mem_append_right _ hp)
    have fin : ∀ s₃, (∃ h' tk m₂ news₂, s₃ = { s₁ with heap := h', toks := tk } ∧ Fr h₀ env.locals h' m₂ ∧ News h₀ env.locals h' ((s₁.heap.objs.size, oi) :: news₂) ∧ (∀ p ∈ news₂, p.1 ≠ s₁.heap.objs.size) ∧ J (i + 1) m₂ news₂) →
        LoopStepU h₀ env.locals [s₁.heap.objs.size] own (J (i + 1)) { s₁ with heap := h₂, toks := tk } .next s₃ := by
      rintro s₃ ⟨h₇, tk₇, m₂, news₂, rfl, F₇, N₇, ho₇, hJ₇⟩
      refine ⟨rfl, h₇, tk₇, m₂, news₂, rfl, F₇, fun p hp => ?_, fun p hp hm => ho₇ p hp (List.mem_singleton.mp hm), hJ₇⟩
      rcases List.mem_append.mp hp with hp | hp
      · rw [only p hp]; exact N₇ _ (.head _)
      · exact N₇ _ (.tail _ hp)
    refine wpAny_mono (step i t' m₁ news₁ _ oi h₂ tk hi hj (fun p hp q => hoff p hp (by rw [q]; exact .head _)) F₂ N₃) (fun f s₃ h₆ => ?_) fun _ _ q => q
    cases f with
    | ret v => exact h₆
    | brk => exact h₆
    | next => exact fin _ h₆
    | cont => exact fin _ h₆
  · rintro h' tk m' news' F' N' _ hj
    exact done h' tk m' news' F' N' hj
end
section
variable {prog : Program} {A : Around} {env : Env}
theorem assignCompRange_c {Q : Flow → Shared → Prop} {elt iter : PySem.Expr} {x y : Str} {px py : Pos} {ifs : List PySem.Expr} {scope : Scope} {cl : List (Str × Addr)} {pos spos : Pos} (n : Nat) (pz : Nat → Bool) (Fv : Nat → Value → Prop) (_F₀ : Fr h₀ env.locals s.heap m)
    (hsw : swapsWith (.ListComp elt [⟨.Name x px, iter, ifs, 0⟩] scope pos) (some (.Name y py)) spos.line env = pure true)
    (hh : A.handled = none) (hclos : closureFor scope env = pure cl) (hcell : ∀ y ∈ scope.names, y.2 ≠ .cell) (hkind : scope.kind = .function)
    (hnames : ∀ y ∈ scope.names, y.2 = .local → scope.names.lookup y.1 = some .local) (hx : scope.names.lookup x = some .local) (hy : env.kindOf y = some .local)
    (hp : (env.scope.kind == .class || (env.scope.kind == .module && env.locals != env.globals)) = false) (hs : ∀ x, foldedSetIterable iter env x = pure x) (hn : n ≤ 1000)
    (h : wpAny (model prog w) A (eval iter env) (fun xv s₁ => ∃ r t u v news, xv = .ref r ∧ IsRange s₁.heap r 0 n 1 t u v ∧ Fr h₀ env.locals s₁.heap m ∧ News h₀ env.locals s₁.heap news ∧
      (∀ k t C s₂ m₂ E', k < n → Fr h₀ env.locals s₂.heap m → News h₀ env.locals s₂.heap news → InElt s₂.heap s₂.heap → s₂.heap.Ns (compEnvC scope cl C env).locals m₂ → m₂ x = some (.int (k : Nat) t) →
        wpAny (model prog w) A (forIn ifs true fun c r => if r = true then do let ok ← isTrue c (compEnvC scope cl C env) (eval c (compEnvC scope cl C env)); pure (ForInStep.yield ok) else pure (ForInStep.yield r)) (fun ok s₃ => ok = pz k ∧ Keeps s₂ s₃) E' s₂) ∧
      (∀ k t C s₂ m₂ E', k < n → pz k = true → Fr h₀ env.locals s₂.heap m → News h₀ env.locals s₂.heap news → InElt s₂.heap s₂.heap → s₂.heap.Ns (compEnvC scope cl C env).locals m₂ → m₂ x = some (.int (k : Nat) t) →
        wpAny (model prog w) A (eval elt (compEnvC scope cl C env)) (fun y s₃ => Fv k y ∧ Keeps s₂ s₃) E' s₂) ∧
      (∀ D ys ep h' tk, Fr h₀ env.locals h' (fun z => if z = y then some (.ref D) else m z) → News h₀ env.locals h' ((D, W.listOf (List.toArray ys) ep) :: news) → (∀ p ∈ news, p.1 ≠ D) → Paired Fv ((List.range n).filter pz) ys → Q .next { s₁ with heap := h', toks := tk })) E s) :
    wpAny (model prog w) A (exec (.Assign [.Name y py] (.ListComp elt [⟨.Name x px, iter, ifs, 0⟩] scope pos) spos) env) Q E s := by
  refine wpAny_Assign_ListComp_free (fun v => match v with | .int i _ => pz i.toNat | _ => false) (fun v y => match v with | .int i _ => Fv i.toNat y | _ => False) hsw hclos hcell hkind hnames hx hy hp (wpAny_mono h (fun xv s₁ h₁ => ?_) fun _ _ e => e) hs
  obtain ⟨r, t, u, v, news, rfl, hr, F, N, htests, helt, hQ⟩ := h₁
  have up : ∀ (s₃ : Shared), (∀ b o, b ∉ [s₁.heap.objs.size] → (s₁.heap.push { cls := .type "range_iterator", data := .fields #[rawInt 0, rawInt n, rawInt 1] }).get? b = some o → s₃.heap.get? b = some o) → ∀ b o, s₁.heap.get? b = some o → s₃.heap.get? b = some o :=
    fun s₃ hk b o e => hk b o (fun hm => by rw [List.mem_singleton.mp hm] at e; exact Nat.lt_irrefl _ (Heap.lt_size e)) (Heap.get?_push_of_some _ e)
  have hsz : Builtin.Range.rangeSize 0 n 1 = n := by
    rw [rangeSize_nat]; omega
  refine wpAny_pyIter_range hr (small_one (by omega) (by omega) (by omega) (by omega)) ?_
  rw [hsz]
  refine ⟨s₁.heap.objs.size, [s₁.heap.objs.size], [s₁.heap.objs.size], n, _, _, m, rfl, walks_bound (Walks.range hh s₁.heap.objs.size 0 1 n), by rw [sizeLine_eq]; omega, ?_, ?_, ?_, F.ns.push _, ⟨?_, ?_⟩, ?_⟩
  · simp only [IsRangeIter]
    simp
    exact Heap.get?_push_size _ rfl
  · intro b hb
    rw [List.mem_singleton.mp hb]
    show _ < (s₁.heap.push _).objs.size
    rw [Heap.size_push]; exact Nat.lt_succ_self _
  · intro hm
    exact Nat.lt_irrefl _ ((List.mem_singleton.mp hm) ▸ F.ns.lt)
  · rintro C i v s₃ m₃ E' hC ⟨hi, t', rfl⟩ hns hm hk _
    have k1 := up s₃ hk
    have e : (0 : Int) + (i : Nat) * 1 = (i : Nat) := by omega
    rw [e] at hm ⊢
    exact htests i t' C s₃ m₃ E' hi (F.keeps k1) (fun p hp => ⟨k1 _ _ (N p hp).1, (N p hp).2⟩) (InElt.start _) hns hm
  · rintro C i v s₃ m₃ E' hC ⟨hi, t', rfl⟩ hp hns hm hk _
    have k1 := up s₃ hk
    have e : (0 : Int) + (i : Nat) * 1 = (i : Nat) := by omega
    rw [e] at hm hp ⊢
    exact helt i t' C s₃ m₃ E' hi hp (F.keeps k1) (fun p hp => ⟨k1 _ _ (N p hp).1, (N p hp).2⟩) (InElt.start _) hns hm
  · intro D h' tk ys vs hD hl hpl hlen hP hF hns hk
    have k1 : ∀ b o, b ≠ env.locals → s₁.heap.get? b = some o → h'.get? b = some o := fun b o hb e => hk b o hb (fun hm => by rw [List.mem_singleton.mp hm] at e; exact Nat.lt_irrefl _ (Heap.lt_size e)) (Heap.get?_push_of_some _ e)
    obtain ⟨ep, hep⟩ := hpl
    obtain ⟨f, rfl⟩ := ints_form hlen fun j v q => (hP j v q).2
    have hDL : D ≠ env.locals := fun q => by
      obtain ⟨oL, _, _, hL, _⟩ := F.ns
      have z := Heap.get?_push_of_some { cls := .type "range_iterator", data := .fields #[rawInt 0, rawInt n, rawInt 1] } hL
      rw [← q, hD] at z; cases z
    have N' : News h₀ env.locals h' ((D, W.listOf (List.toArray ys.toList) ep) :: news) := fun p hp => by
      rcases List.mem_cons.mp hp with rfl | hp
      · refine ⟨by simpa using hep, hDL, ?_⟩
        cases q : h₀.get? D with
        | none => rfl
        | some o =>
          have z := Heap.get?_push_of_some { cls := .type "range_iterator", data := .fields #[rawInt 0, rawInt n, rawInt 1] } (F.keep _ _ q)
          rw [hD] at z; cases z
      · exact ⟨k1 _ _ (N p hp).2.1 (N p hp).1, (N p hp).2⟩
    have F' : Fr h₀ env.locals h' (fun z => if z = y then some (.ref D) else m z) := ⟨hns, fun b o q => k1 b o (Nat.ne_of_lt (Nat.lt_of_lt_of_le (Heap.lt_size q) F.above)) (F.keep b o q), F.above⟩
    refine hQ D ys.toList ep h' tk F' N' (fun p hp q => ?_) (pz_of (fun k _ => rfl) hF)
    have z := Heap.get?_push_of_some { cls := .type "range_iterator", data := .fields #[rawInt 0, rawInt n, rawInt 1] } (N p hp).1
    rw [q, hD] at z; cases z
end
theorem filt_none {P : Nat → Bool} : ∀ {n : Nat}, (∀ k, k < n → P k = false) → (List.range n).filter P = []
  | 0, _ => rfl
  | n + 1, h => by
    rw [List.range_succ, List.filter_append, filt_none fun k hk => h k (by omega)]
    simp [h n (by omega)]
theorem filt_head {P : Nat → Bool} {j : Nat} (hj : P j = true) (hk : ∀ k, k < j → P k = false) : ∀ {n : Nat}, j < n → ∃ r, (List.range n).filter P = j :: r
  | 0, h => absurd h (Nat.not_lt_zero _)
  | n + 1, h => by
    rw [List.range_succ, List.filter_append]
    by_cases hn : j < n
    · obtain ⟨r, hr⟩ := filt_head hj hk hn
      exact ⟨_, by rw [hr]; rfl⟩
    · have : j = n := by omega
      subst this
      rw [filt_none hk]
      exact ⟨[], by simp [hj]⟩
theorem intsAre_of : ∀ {ks : List Nat} {ys : List Value}, Paired (fun (k : Nat) y => ∃ t, y = .int (k : Int) t) ks ys → IntsAre ys (ks.map fun (k : Nat) => (k : Int))
  | _, _, .nil => .nil
  | _, _, .cons ⟨_, rfl⟩ r => .cons _ _ (intsAre_of r)
/-- an operand of code c in the ledger -/
def OpIn (P : Params) (news : List (Addr × Obj)) (v : Value) (c : Nat) : Prop := ∃ a dx t1 t2 vv, v = .ref a ∧ c < 8 ∧ (a, instObj (clsOf c) dx) ∈ news ∧ (dx, opDict P vv t1 t2) ∈ news ∧ IsVal c vv
theorem OpIn.mono {P : Params} {l l' : List (Addr × Obj)} {v : Value} {c : Nat} (h : OpIn P l v c) (hs : ∀ p ∈ l, p ∈ l') : OpIn P l' v c :=
  let ⟨a, dx, t1, t2, vv, e, h8, h1, h2, h3⟩ := h; ⟨a, dx, t1, t2, vv, e, h8, hs _ h1, hs _ h2, h3⟩
def Ops (P : Params) (news : List (Addr × Obj)) (vs : List Value) (cs : List Nat) : Prop := vs.length = cs.length ∧ ∀ (i : Nat) v c, vs[i]? = some v → cs[i]? = some c → OpIn P news v c
theorem Ops.mono {P : Params} {l l' : List (Addr × Obj)} {vs : List Value} {cs : List Nat} (h : Ops P l vs cs) (hs : ∀ p ∈ l, p ∈ l') : Ops P l' vs cs := ⟨h.1, fun i v c h1 h2 => (h.2 i v c h1 h2).mono hs⟩
def Row (rv : List Value) (cs : List Nat) : Prop := rv.length = cs.length ∧ ∀ (i : Nat) v c, rv[i]? = some v → cs[i]? = some c → c < 8 ∧ IsVal c v
def DepthIs (cs : List Nat) (c : Nat) (r : Value) : Prop :=
  (∃ j t, j < cs.length ∧ cs[cs.length - 1 - j]? = some c ∧ (∀ k, k < j → cs[cs.length - 1 - k]? ≠ some c) ∧ r = .int (-(j : Int)) t) ∨ ((∀ k, k < cs.length → cs[cs.length - 1 - k]? ≠ some c) ∧ r = .ref 136)
theorem depth_places {cs : List Nat} {c : Nat} {r : Value} (h : DepthIs cs c r) :
    ((List.range cs.length).filter (fun k => decide (cs[cs.length - 1 - k]? = some c)) = [] ∧ r = .ref 136) ∨ ∃ j l t, (List.range cs.length).filter (fun k => decide (cs[cs.length - 1 - k]? = some c)) = j :: l ∧ r = .int (-(j : Int)) t := by
  rcases h with ⟨j, t, hj, hc, hk, rfl⟩ | ⟨hk, rfl⟩
  · obtain ⟨l, hl⟩ := filt_head (P := fun k => decide (cs[cs.length - 1 - k]? = some c)) (decide_eq_true hc) (fun k q => decide_eq_false (hk k q)) hj
    exact .inr ⟨j, l, t, hl, rfl⟩
  · exact .inl ⟨filt_none fun k q => decide_eq_false (hk k q), rfl⟩
/-- a frame's cell that turns, the rest of the ledger that stays -/
def cellJ (a : Addr) (rest : List (Addr × Obj)) (_ : Nat) (_ : Str → Option Value) (nw : List (Addr × Obj)) : Prop := ∃ o v0, o.data = Data.cell v0 ∧ nw = (a, o) :: rest
end
end Mine
namespace Mine
section
local macro_rules | `(tactic| k_room) => `(tactic| ((try simp only [depth_mark, depth_under_make, depth_under_kw, depth_in1, depth_deeper, depth_Ar, recursionLimit]); omega))
local macro_rules | `(tactic| walk_at "wpAt") => `(tactic| dsimp only)
local macro_rules | `(tactic| walk_at "wpAt") => `(tactic| (ks_step "exec Expr"; k_dflt (refine ks_wpAt_Expr_any ?_)))
local macro_rules | `(tactic| walk_at "wpAt") => `(tactic| (ks_step "eval Call"; k_dflt (refine ks_wpAt_MethodCall ?_)))
local macro_rules | `(tactic| k_units) => `(tactic| ((simp only [units_Ar, units_in1, units_deeper, cLine_is]); omega))
local macro_rules | `(tactic| k_mem) => `(tactic| assumption)
local macro_rules | `(tactic| k_all) => `(tactic| first | assumption | exact allLt_ne (by assumption))
variable {w : World} {s : Shared} {base : Heap} {outer : List Env} {p : Program} {loose : List Str} {mean : ExcName → Option Value} {mg mb : Str → Option Value}
variable {h₀ : Heap} {m : Str → Option Value} {news : List (Addr × Obj)} {Q : Value → Shared → Prop} {E : Value → Shared → Prop} {A₀ : Around}
variable {cn : Str} {nms : List (Str × NameKind)} {b1 b2 : Bool} {more : List (Str × Const)} {L fa : Addr} {cd : Value} {cl : List (Str × Addr)} {d u : Nat}
theorem mkVar_c {t : Tok} {x : Str} (hx1 : x.length = 1) (hsw : Txt.startswith x (Str.ofString "%") = false) (hd : d ≤ 400) (hu : u ≤ 100) (B : Below A₀ base outer h₀) (F : Fr h₀ L s.heap m) (N : News h₀ L s.heap news)
   (X : (Mine.hd.heap_39 w.params).In h₀) (T : Top p loose mean mg mb h₀)
   (h : ∀ a dx t1 t2 tv h' tk, Fr h₀ L h' m → News h₀ L h' ((a, instObj 126 dx) :: (dx, opDict w.params (.str (Str.ofString "%" ++ x) tv) t1 t2) :: news) → (∀ p ∈ news, p.1 < dx) → dx < a → Q (.ref a) { s with heap := h', toks := tk }) :
   wpAny (model PR w) (Ar d u (EV cn nms b1 b2 more L fa cd cl :: outer)) (call (.ref 126) [.str x t]) Q E s := by
  k_dflt (refine' call_cls ?k1 ?k2 ?k3 ?k4 ?k5 ?k6 ?_)
  case k1 => k_asm
  case k2 => k_asm
  case k3 => k_asm
  case k4 => k_is
  case k5 => k_is
  case k6 => k_is
  k_whole
  intro x' d' h' F' N' l1 l2
  have l1' := l1
  (try k_lt l1); (try k_lt2 l2); (try k_sweep)
  ks_enter
  (try k_fold)
  k_steps
  refine h _ _ _ _ _ _ _ (by assumption) (News.sub (by assumption) (List.forall_mem_cons.mpr ⟨by k_mem, List.forall_mem_cons.mpr ⟨by k_mem, fun p hp => ?_⟩⟩)) l1' (by assumption)
  repeat (first | assumption | apply List.Mem.tail)

theorem mkLit_c {t : Tok} {i : Int} (hd : d ≤ 400) (hu : u ≤ 100) (B : Below A₀ base outer h₀) (F : Fr h₀ L s.heap m) (N : News h₀ L s.heap news)
   (X : (Mine.hd.heap_39 w.params).In h₀) (T : Top p loose mean mg mb h₀)
   (h : ∀ a dx t1 t2 h' tk, Fr h₀ L h' m → News h₀ L h' ((a, instObj 97 dx) :: (dx, opDict w.params (.int i t) t1 t2) :: news) → (∀ p ∈ news, p.1 < dx) → dx < a → Q (.ref a) { s with heap := h', toks := tk }) :
   wpAny (model PR w) (Ar d u (EV cn nms b1 b2 more L fa cd cl :: outer)) (call (.ref 97) [.int i t]) Q E s := by
  k_dflt (refine' call_cls ?k1 ?k2 ?k3 ?k4 ?k5 ?k6 ?_)
  case k1 => k_asm
  case k2 => k_asm
  case k3 => k_asm
  case k4 => k_is
  case k5 => k_is
  case k6 => k_is
  k_whole
  intro x' d' h' F' N' l1 l2
  have l1' := l1
  (try k_lt l1); (try k_lt2 l2); (try k_sweep)
  ks_enter
  (try k_fold)
  k_steps
  refine h _ _ _ _ _ _ (by assumption) (News.sub (by assumption) (List.forall_mem_cons.mpr ⟨by k_mem, List.forall_mem_cons.mpr ⟨by k_mem, fun p hp => ?_⟩⟩)) l1' (by assumption)
  repeat (first | assumption | apply List.Mem.tail)

theorem fmod_cases4 {k : Int} (h0 : 0 ≤ k) (h1 : k < 4) : k = 0 ∨ k = 1 ∨ k = 2 ∨ k = 3 := by omega
theorem item_sw {k : Int} (h0 : 0 ≤ k) (h1 : k < 4) : Txt.startswith (Txt.item (Str.ofString "abcd") k) (Str.ofString "%") = false ∧ (Txt.item (Str.ofString "abcd") k).length = 1 := by
  rcases fmod_cases4 h0 h1 with rfl | rfl | rfl | rfl <;> decide +kernel
theorem item_name {k : Int} (h0 : 0 ≤ k) (h1 : k < 4) : Str.ofString "%" ++ Txt.item (Str.ofString "abcd") k = nameOf k.toNat := by
  rcases fmod_cases4 h0 h1 with rfl | rfl | rfl | rfl <;> decide +kernel
theorem code_even {n : Int} (h : n.fmod 2 = 0) : (n.fmod 8).toNat % 2 = 0 ∧ (n.fmod 8).toNat / 2 = ((n.fdiv 2).fmod 4).toNat := by
  rw [Int.fmod_eq_emod_of_nonneg _ (by decide)] at *
  rw [Int.fmod_eq_emod_of_nonneg _ (by decide), Int.fdiv_eq_ediv_of_nonneg _ (by decide)]
  omega
theorem code_odd {n : Int} (h : n.fmod 2 ≠ 0) : (n.fmod 8).toNat % 2 ≠ 0 ∧ (((n.fmod 8).toNat / 2 : Nat) : Int) = (n.fdiv 2).fmod 4 := by
  rw [Int.fmod_eq_emod_of_nonneg _ (by decide)] at *
  rw [Int.fmod_eq_emod_of_nonneg _ (by decide), Int.fdiv_eq_ediv_of_nonneg _ (by decide)]
  omega
theorem fm4 (n : Int) : 0 ≤ (n.fdiv 2).fmod 4 ∧ (n.fdiv 2).fmod 4 < 4 := by
  rw [Int.fmod_eq_emod_of_nonneg _ (by decide)]; omega

end
end Mine
namespace Mine
section
local macro_rules | `(tactic| k_room) => `(tactic| ((try simp only [depth_mark, depth_under_make, depth_under_kw, depth_in1, depth_deeper, depth_Ar, recursionLimit]); omega))
local macro_rules | `(tactic| walk_at "wpAt") => `(tactic| dsimp only)
local macro_rules | `(tactic| walk_at "wpAt") => `(tactic| (ks_step "exec Expr"; k_dflt (refine ks_wpAt_Expr_any ?_)))
local macro_rules | `(tactic| walk_at "wpAt") => `(tactic| (ks_step "eval Call"; k_dflt (refine ks_wpAt_MethodCall ?_)))
local macro_rules | `(tactic| k_units) => `(tactic| ((simp only [units_Ar, units_in1, units_deeper, cLine_is]); omega))
local macro_rules | `(tactic| k_mem) => `(tactic| assumption)
local macro_rules | `(tactic| k_all) => `(tactic| first | assumption | exact allLt_ne (by assumption))
local macro_rules | `(tactic| walk_at "call ref") => `(tactic| (k_here; (with_reducible show wpAny _ _ (call (Value.ref 126) [Value.str _ _]) _ _ _); k_dflt (refine' mkVar_c (item_sw (fm4 _).1 (fm4 _).2).2 (item_sw (fm4 _).1 (fm4 _).2).1 ?k3 ?k4 ?k5 ?k6 ?k7 ?k8 ?k9 ?_; (case k3 => ((try simp only [depth_mark, depth_under_make, depth_under_kw, depth_in1, depth_deeper, depth_Ar]); omega)); (case k4 => ((try simp only [units_Ar, units_in1, units_deeper]); omega)); (case k5 => k_asm); (case k6 => k_asm); (case k7 => k_asm); (case k8 => k_asm); (case k9 => k_asm)); k_whole; intro a' dx' t1' t2' tv' h' tk' F' N' l1 l2; (try k_lt l1); (try k_lt2 l2); (try k_sweep)))
local macro_rules | `(tactic| walk_at "call ref") => `(tactic| (k_here; (with_reducible show wpAny _ _ (call (Value.ref 97) [Value.int _ _]) _ _ _); k_dflt (refine' mkLit_c ?k3 ?k4 ?k5 ?k6 ?k7 ?k8 ?k9 ?_; (case k3 => ((try simp only [depth_mark, depth_under_make, depth_under_kw, depth_in1, depth_deeper, depth_Ar]); omega)); (case k4 => ((try simp only [units_Ar, units_in1, units_deeper]); omega)); (case k5 => k_asm); (case k6 => k_asm); (case k7 => k_asm); (case k8 => k_asm); (case k9 => k_asm)); k_whole; intro a' dx' t1' t2' h' tk' F' N' l1 l2; (try k_lt l1); (try k_lt2 l2); (try k_sweep)))

variable {w : World} {s : Shared} {base : Heap} {outer : List Env} {p : Program} {loose : List Str} {mean : ExcName → Option Value} {mg mb : Str → Option Value}
variable {h₀ : Heap} {m : Str → Option Value} {news : List (Addr × Obj)} {Q : Value → Shared → Prop} {E : Value → Shared → Prop} {A₀ : Around}
variable {cn : Str} {nms : List (Str × NameKind)} {b1 b2 : Bool} {more : List (Str × Const)} {L fa : Addr} {cd : Value} {cl : List (Str × Addr)} {d u : Nat}
theorem thing_c {n : Int} {t : Tok} (hd : d ≤ 380) (hu : u ≤ 80) (B : Below A₀ base outer h₀) (F : Fr h₀ L s.heap m) (N : News h₀ L s.heap news)
   (X : (Mine.hd.heap_39 w.params).In h₀) (T : Top p loose mean mg mb h₀)
   (h : ∀ tp a dx t1 t2 v v' h' tk, Fr h₀ L h' m → News h₀ L h' ((tp, tup2 (.ref a) v') :: (a, instObj (clsOf (n.fmod 8).toNat) dx) :: (dx, opDict w.params v t1 t2) :: news) → IsVal (n.fmod 8).toNat v → IsVal (n.fmod 8).toNat v' →
      (∀ p ∈ news, p.1 < dx) → dx < a → a < tp → Q (.ref tp) { s with heap := h', toks := tk }) :
   wpAny (model PR w) (Ar d u (EV cn nms b1 b2 more L fa cd cl :: outer)) (call (.ref 241) [.int n t]) Q E s := by
  refine wpAny_call ?_
  k_enter
  k_steps
  · have he := code_even (n := n) (by assumption)
    rw [show clsOf (n.fmod 8).toNat = 126 from if_pos he.1] at h
    refine h _ _ _ _ _ _ _ _ _ (by assumption) (by assumption) ?_ ?_ (by assumption) (by assumption) ?_
    · exact (if_pos he.1).mpr ⟨_, by rw [item_name (fm4 _).1 (fm4 _).2, he.2]⟩
    · exact (if_pos he.1).mpr ⟨_, by rw [item_name (fm4 _).1 (fm4 _).2, he.2]⟩
    · exact (by assumption : _ ∧ _ ∧ _).1
  · have he := code_odd (n := n) (by assumption)
    rw [show clsOf (n.fmod 8).toNat = 97 from if_neg he.1] at h
    refine h _ _ _ _ _ _ _ _ _ (by assumption) (by assumption) ?_ ?_ (by assumption) (by assumption) ?_
    · exact (if_neg he.1).mpr ⟨_, by rw [he.2]⟩
    · exact (if_neg he.1).mpr ⟨_, by rw [he.2]⟩
    · exact (by assumption : _ ∧ _ ∧ _).1
end
end Mine
namespace Mine
section
local macro_rules | `(tactic| k_room) => `(tactic| ((try simp only [depth_mark, depth_under_make, depth_under_kw, depth_in1, depth_deeper, depth_Ar, recursionLimit]); omega))
local macro_rules | `(tactic| walk_at "wpAt") => `(tactic| dsimp only)
local macro_rules | `(tactic| walk_at "wpAt") => `(tactic| (ks_step "exec Expr"; k_dflt (refine ks_wpAt_Expr_any ?_)))
local macro_rules | `(tactic| walk_at "wpAt") => `(tactic| (ks_step "eval Call"; k_dflt (refine ks_wpAt_MethodCall ?_)))
local macro_rules | `(tactic| k_units) => `(tactic| ((simp only [units_Ar, units_in1, units_deeper, cLine_is]); omega))
local macro_rules | `(tactic| k_mem) => `(tactic| assumption)
local macro_rules | `(tactic| k_all) => `(tactic| first | assumption | exact allLt_ne (by assumption))
local macro_rules | `(tactic| walk_at "compareOp IsNot int ref") => `(tactic| refine wpAny_isNot_other (by rfl) (by intro x; cases x) ?_)
local macro_rules | `(tactic| walk_at "subscriptTail") => `(tactic| (k_here; (with_reducible show wpAny _ _ (subscriptTail _ _ (Value.ref _) (Value.int _ _)) _ _ _); k_dflt (refine' back_c ?N ?m ?a ?b ?c ?_ ; (case N => k_asm); (case m => k_mem); (case a => omega); (case b => omega); (case c => omega)); k_whole; intro v' hv'))

local macro_rules | `(tactic| walk_at "spare one") => `(tactic| fail)
local macro_rules | `(tactic| walk_at "spare two") => `(tactic| fail)
variable {w : World} {s : Shared} {base : Heap} {outer : List Env} {p : Program} {loose : List Str} {mean : ExcName → Option Value} {mg mb : Str → Option Value}
variable {h₀ : Heap} {m : Str → Option Value} {news : List (Addr × Obj)} {Q : Value → Shared → Prop} {E : Value → Shared → Prop} {A₀ : Around}
variable {cn : Str} {nms : List (Str × NameKind)} {b1 b2 : Bool} {more : List (Str × Const)} {L fa : Addr} {cd : Value} {cl : List (Str × Addr)} {d u : Nat}
theorem peek_c {x dx lst : Addr} {ts : Tok} {vs : List Value} {n : Nat} {j : Int} {t : Tok} {k : Nat} (hj : j = -(k : Int)) (hk : k < vs.length) (hlen : vs.length ≤ 100) (hx : (x, instObj 225 dx) ∈ news) (hdx : (dx, stDict w.params lst ts) ∈ news) (hl : (lst, W.listOf vs.toArray n) ∈ news)
   (hd : d ≤ 380) (hu : u ≤ 80) (B : Below A₀ base outer h₀) (F : Fr h₀ L s.heap m) (N : News h₀ L s.heap news)
   (X : (Mine.hd.heap_39 w.params).In h₀) (T : Top p loose mean mg mb h₀)
   (h : ∀ v h' tk, vs[vs.length - 1 - k]? = some v → Fr h₀ L h' m → News h₀ L h' news → InElt s.heap h' → Q v { s with heap := h', toks := tk }) :
   wpAny (model PR w) (Ar d u (EV cn nms b1 b2 more L fa cd cl :: outer)) (call (.ref 194) [.ref x, .int j t]) Q E s := by
  refine wpAny_call ?_
  have cE' := InElt.start s.heap
  k_enter
  repeat' (first | (k_unfold; (try dsimp only)) | (k_end; wrow_close) | walk1 | (dsimp only; walk1) | (leave1; walk_say "STEP leave1"; try dsimp only) | fail "no step")
  refine h _ _ _ ?_ (by assumption) (by assumption) (by assumption)
  rw [show vs.length - 1 - k = (j - 1 + (vs.length : Int)).toNat from by omega]
  assumption
end
end Mine
namespace Mine
section
local macro_rules | `(tactic| k_room) => `(tactic| ((try simp only [depth_mark, depth_under_make, depth_under_kw, depth_in1, depth_deeper, depth_Ar, recursionLimit]); omega))
local macro_rules | `(tactic| walk_at "wpAt") => `(tactic| dsimp only)
local macro_rules | `(tactic| walk_at "wpAt") => `(tactic| (ks_step "exec Expr"; k_dflt (refine ks_wpAt_Expr_any ?_)))
local macro_rules | `(tactic| walk_at "wpAt") => `(tactic| (ks_step "eval Call"; k_dflt (refine ks_wpAt_MethodCall ?_)))
local macro_rules | `(tactic| k_units) => `(tactic| ((simp only [units_Ar, units_in1, units_deeper, cLine_is]); omega))
local macro_rules | `(tactic| k_mem) => `(tactic| assumption)
local macro_rules | `(tactic| k_all) => `(tactic| first | assumption | exact allLt_ne (by assumption))
local macro_rules | `(tactic| walk_at "compareOp IsNot int ref") => `(tactic| refine wpAny_isNot_other (by rfl) (by intro x; cases x) ?_)
local macro_rules | `(tactic| walk_at "subscriptTail") => `(tactic| (k_here; (with_reducible show wpAny _ _ (subscriptTail _ _ (Value.ref _) (Value.int _ _)) _ _ _); k_dflt (refine' back_c ?N ?m ?a ?b ?c ?_ ; (case N => k_asm); (case m => k_mem); (case a => omega); (case b => omega); (case c => omega)); k_whole; intro v' hv'))

local macro_rules | `(tactic| walk_at "setItem ref int") => `(tactic| (k_here; (with_reducible show wpAny _ _ (setItem (Value.ref _) (Value.int _ _) _) _ _ _); k_dflt (refine' setBack_c ?F ?N ?U ?a ?b ?c ?_ ; (case F => k_asm); (case N => k_asm); (case U => k_upd); (case a => omega); (case b => (try simp only [List.length_set]); omega); (case c => omega)); k_whole; intro h' F' N'; (try k_sweep)))
variable {w : World} {s : Shared} {base : Heap} {outer : List Env} {p : Program} {loose : List Str} {mean : ExcName → Option Value} {mg mb : Str → Option Value}
variable {h₀ : Heap} {m : Str → Option Value} {news : List (Addr × Obj)} {Q : Value → Shared → Prop} {E : Value → Shared → Prop} {A₀ : Around}
variable {cn : Str} {nms : List (Str × NameKind)} {b1 b2 : Bool} {more : List (Str × Const)} {L fa : Addr} {cd : Value} {cl : List (Str × Addr)} {d u : Nat}
variable {v : Value} {t1 t2 : Tok}
variable {x dx lst a da : Addr} {ts : Tok} {vs : List Value} {n : Nat} {j : Int} {t : Tok} {k c : Nat} {rest : List (Addr × Obj)}
theorem push_c (hc8 : c < 8) (hlen : vs.length ≤ 100) (hr : ∀ p ∈ rest, p.1 ≠ lst) (hx : (x, instObj 225 dx) ∈ rest) (hdx : (dx, stDict w.params lst ts) ∈ rest) (ha : (a, instObj (clsOf c) da) ∈ rest) (hda : (da, opDict w.params v t1 t2) ∈ rest)
   (hd : d ≤ 380) (hu : u ≤ 80) (B : Below A₀ base outer h₀) (F : Fr h₀ L s.heap m) (N : News h₀ L s.heap ((lst, W.listOf vs.toArray n) :: rest))
   (X : (Mine.hd.heap_39 w.params).In h₀) (T : Top p loose mean mg mb h₀)
   (h : ∀ n' h' tk, Fr h₀ L h' m → News h₀ L h' ((lst, W.listOf (vs ++ [Value.ref a]).toArray n') :: rest) → Q .none { s with heap := h', toks := tk }) :
   wpAny (model PR w) (Ar d u (EV cn nms b1 b2 more L fa cd cl :: outer)) (call (.ref 165) [.ref x, .ref a]) Q E s := by
  by_cases hc : c % 2 = 0
  all_goals first | rw [show clsOf c = 126 from if_pos hc] at ha | rw [show clsOf c = 97 from if_neg hc] at ha
  all_goals refine wpAny_call ?_
  all_goals k_enter
  all_goals (repeat' (first | (k_unfold; (try dsimp only)) | (k_end; wrow_close) | walk1 | (dsimp only; walk1) | (leave1; walk_say "STEP leave1"; try dsimp only) | fail "no step"))
  all_goals refine h (n+1) _ _ (by assumption) ?_
  all_goals rw [show (vs ++ [Value.ref a]).toArray = vs.toArray.push (Value.ref a) from by simp]
  all_goals assumption
theorem dup_c (hj : j = -(k : Int)) (hk : k < vs.length) (hlen : vs.length ≤ 100) (hr : ∀ p ∈ rest, p.1 ≠ lst) (hx : (x, instObj 225 dx) ∈ rest) (hdx : (dx, stDict w.params lst ts) ∈ rest)
   (hd : d ≤ 370) (hu : u ≤ 70) (B : Below A₀ base outer h₀) (F : Fr h₀ L s.heap m) (N : News h₀ L s.heap ((lst, W.listOf vs.toArray n) :: rest))
   (X : (Mine.hd.heap_39 w.params).In h₀) (T : Top p loose mean mg mb h₀)
   (h : ∀ v n' h' tk, vs[vs.length - 1 - k]? = some v → Fr h₀ L h' m → News h₀ L h' ((lst, W.listOf (vs ++ [v]).toArray n') :: rest) → Q .none { s with heap := h', toks := tk }) :
   wpAny (model PR w) (Ar d u (EV cn nms b1 b2 more L fa cd cl :: outer)) (call (.ref 208) [.ref x, .int j t]) Q E s := by
  refine wpAny_call ?_
  k_enter
  k_steps
  have e2 : (j - 1 + (vs.length : Int)).toNat = vs.length - 1 - k := by omega
  simp only [e2] at *
  refine h _ (n+1) _ _ (by assumption) (by assumption) ?_
  rw [List.push_toArray] at *
  assumption
theorem swap_c (hj : j = -(k : Int)) (hk0 : 0 < k) (hk : k < vs.length) (hlen : vs.length ≤ 100) (hr : ∀ p ∈ rest, p.1 ≠ lst) (hx : (x, instObj 225 dx) ∈ rest) (hdx : (dx, stDict w.params lst ts) ∈ rest)
   (hd : d ≤ 370) (hu : u ≤ 70) (B : Below A₀ base outer h₀) (F : Fr h₀ L s.heap m) (N : News h₀ L s.heap ((lst, W.listOf vs.toArray n) :: rest))
   (X : (Mine.hd.heap_39 w.params).In h₀) (T : Top p loose mean mg mb h₀)
   (h : ∀ v v' h' tk, vs[vs.length - 1 - k]? = some v → vs[vs.length - 1]? = some v' → Fr h₀ L h' m → News h₀ L h' ((lst, W.listOf ((vs.set (vs.length - 1) v).set (vs.length - 1 - k) v').toArray n) :: rest) → Q .none { s with heap := h', toks := tk }) :
   wpAny (model PR w) (Ar d u (EV cn nms b1 b2 more L fa cd cl :: outer)) (call (.ref 215) [.ref x, .int j t]) Q E s := by
  refine wpAny_call ?_
  k_enter
  k_steps
  have e1 : (-1 + (vs.length : Int)).toNat = vs.length - 1 := by omega
  have e2 : (j - 1 + (vs.length : Int)).toNat = vs.length - 1 - k := by omega
  simp only [List.length_set, e1, e2] at *
  refine h _ _ _ _ ?_ ?_ (by assumption) (by assumption)
  all_goals assumption
theorem poke_c (hj : j = -(k : Int)) (hk : k < vs.length) (hlen : vs.length ≤ 100) (hr : ∀ p ∈ rest, p.1 ≠ lst) (hx : (x, instObj 225 dx) ∈ rest) (hdx : (dx, stDict w.params lst ts) ∈ rest) (ha : (a, instObj (clsOf c) da) ∈ rest) (hda : (da, opDict w.params v t1 t2) ∈ rest)
   (hd : d ≤ 370) (hu : u ≤ 70) (B : Below A₀ base outer h₀) (F : Fr h₀ L s.heap m) (N : News h₀ L s.heap ((lst, W.listOf vs.toArray n) :: rest))
   (X : (Mine.hd.heap_39 w.params).In h₀) (T : Top p loose mean mg mb h₀)
   (h : ∀ h' tk, Fr h₀ L h' m → News h₀ L h' ((lst, W.listOf (vs.set (vs.length - 1 - k) (.ref a)).toArray n) :: rest) → Q .none { s with heap := h', toks := tk }) :
   wpAny (model PR w) (Ar d u (EV cn nms b1 b2 more L fa cd cl :: outer)) (call (.ref 201) [.ref x, .int j t, .ref a]) Q E s := by
  by_cases hc : c % 2 = 0
  all_goals first | rw [show clsOf c = 126 from if_pos hc] at ha | rw [show clsOf c = 97 from if_neg hc] at ha
  all_goals refine wpAny_call ?_
  all_goals k_enter
  all_goals k_steps
  all_goals have e2 : (j - 1 + (vs.length : Int)).toNat = vs.length - 1 - k := by omega
  all_goals simp only [e2] at *
  all_goals refine h _ _ (by assumption) (by assumption)
end
end Mine
namespace Mine
section
local macro_rules | `(tactic| k_room) => `(tactic| ((try simp only [depth_mark, depth_under_make, depth_under_kw, depth_in1, depth_deeper, depth_Ar, recursionLimit]); omega))
local macro_rules | `(tactic| walk_at "wpAt") => `(tactic| dsimp only)
local macro_rules | `(tactic| walk_at "wpAt") => `(tactic| (ks_step "exec Expr"; k_dflt (refine ks_wpAt_Expr_any ?_)))
local macro_rules | `(tactic| walk_at "wpAt") => `(tactic| (ks_step "eval Call"; k_dflt (refine ks_wpAt_MethodCall ?_)))
local macro_rules | `(tactic| k_units) => `(tactic| ((simp only [units_Ar, units_in1, units_deeper, cLine_is]); omega))
local macro_rules | `(tactic| k_mem) => `(tactic| assumption)
local macro_rules | `(tactic| k_all) => `(tactic| first | assumption | exact allLt_ne (by assumption))
local macro_rules | `(tactic| walk_at "compareOp IsNot int ref") => `(tactic| refine wpAny_isNot_other (by rfl) (by intro x; cases x) ?_)
local macro_rules | `(tactic| walk_at "subscriptTail") => `(tactic| (k_here; (with_reducible show wpAny _ _ (subscriptTail _ _ (Value.ref _) (Value.int _ _)) _ _ _); k_dflt (refine' back_c ?N ?m ?a ?b ?c ?_ ; (case N => k_asm); (case m => k_mem); (case a => omega); (case b => omega); (case c => omega)); k_whole; intro v' hv'))

local macro_rules | `(tactic| walk_at "setItem ref int") => `(tactic| (k_here; (with_reducible show wpAny _ _ (setItem (Value.ref _) (Value.int _ _) _) _ _ _); k_dflt (refine' setBack_c ?F ?N ?U ?a ?b ?c ?_ ; (case F => k_asm); (case N => k_asm); (case U => k_upd); (case a => omega); (case b => (try simp only [List.length_set]); omega); (case c => omega)); k_whole; intro h' F' N'; (try k_sweep)))
local macro_rules | `(tactic| k_lt $h) => `(tactic| (replace $h := allLt_of $h; (try simp only [AllLt, and_true] at $h:ident); try (first | (have lR' : AllLt _ _ := $h) | (have lR' : AllLt _ _ := And.right $h) | (have lR' : AllLt _ _ := And.right (And.right $h)) | (have lR' : AllLt _ _ := And.right (And.right (And.right $h))) | (have lR' : AllLt _ _ := And.right (And.right (And.right (And.right $h)))) | (have lR' : AllLt _ _ := And.right (And.right (And.right (And.right (And.right $h))))) | (have lR' : AllLt _ _ := And.right (And.right (And.right (And.right (And.right (And.right $h)))))) | (have lR' : AllLt _ _ := And.right (And.right (And.right (And.right (And.right (And.right (And.right $h))))))) | (have lR' : AllLt _ _ := And.right (And.right (And.right (And.right (And.right (And.right (And.right (And.right $h)))))))) | (have lR' : AllLt _ _ := And.right (And.right (And.right (And.right (And.right (And.right (And.right (And.right (And.right $h)))))))))  | (have lR' : AllLt _ _ := And.right (And.right (And.right (And.right (And.right (And.right (And.right (And.right (And.right (And.right $h))))))))))  | (have lR' : AllLt _ _ := And.right (And.right (And.right (And.right (And.right (And.right (And.right (And.right (And.right (And.right (And.right $h)))))))))))  | (have lR' : AllLt _ _ := And.right (And.right (And.right (And.right (And.right (And.right (And.right (And.right (And.right (And.right (And.right (And.right $h))))))))))))  | (have lR' : AllLt _ _ := And.right (And.right (And.right (And.right (And.right (And.right (And.right (And.right (And.right (And.right (And.right (And.right (And.right $h))))))))))))))))
local macro_rules | `(tactic| walk_at "call builtin:len") => `(tactic| (k_here; (with_reducible show wpAny _ _ (call (Value.builtin "len") [Value.ref _]) _ _ _); k_dflt (refine' len_c ?N ?m ?z ?_; (case N => k_asm); (case m => k_mem); (case z => omega)); k_whole; intro t' tk'))
local macro_rules | `(tactic| walk_at "call builtin:list.copy") => `(tactic| (k_here; k_dflt (refine' copyList_c ?F ?N ?m ?z ?_; (case F => k_asm); (case N => k_asm); (case m => k_mem); (case z => omega)); k_whole; intro D' h' F' N' l1; (try k_lt l1); (try k_sweep)))
local macro_rules | `(tactic| walk_at "delItem ref ref") => `(tactic| (k_here; k_dflt (refine' delSlice_c ?F ?N ?U ?a ?b ?z ?_; (case F => k_asm); (case N => k_asm); (case U => k_upd); (case a => omega); (case b => omega); (case z => omega)); k_whole; intro h' F' N'; (try k_sweep)))
local macro_rules | `(tactic| walk_at "subscriptTail Name Slice ref ref") => `(tactic| (k_here; (with_reducible show wpAny _ _ (subscriptTail _ (PySem.Expr.Slice _ _ none _) (Value.ref _) (Value.ref _)) _ _ _); k_dflt (first | (refine' sliceAll_c ?F ?N ?m ?z ?_ ?s ?t; (case F => k_asm); (case N => k_asm); (case m => k_mem); (case z => omega); (case s => with_unfolding_all rfl); (case t => kmk_pure)) | (refine' sliceUpto_c ?F ?N ?m ?a ?z ?_ ?s ?t; (case F => k_asm); (case N => k_asm); (case m => k_mem); (case a => omega); (case z => omega); (case s => with_unfolding_all rfl); (case t => kmk_pure))); intro D' h' F' N' l1; (try k_lt l1); (try k_sweep)))
variable {w : World} {s : Shared} {base : Heap} {outer : List Env} {p : Program} {loose : List Str} {mean : ExcName → Option Value} {mg mb : Str → Option Value}
variable {h₀ : Heap} {m : Str → Option Value} {news : List (Addr × Obj)} {Q : Value → Shared → Prop} {E : Value → Shared → Prop} {A₀ : Around}
variable {cn : Str} {nms : List (Str × NameKind)} {b1 b2 : Bool} {more : List (Str × Const)} {L fa : Addr} {cd : Value} {cl : List (Str × Addr)} {d u : Nat}
variable {v : Value} {t1 t2 : Tok}
variable {x dx lst a da : Addr} {ts : Tok} {vs : List Value} {n : Nat} {j : Int} {t : Tok} {k c : Nat} {rest : List (Addr × Obj)}
theorem pop_c {num : Int} (h1 : 1 ≤ num) (h2 : num ≤ vs.length) (hlen : vs.length ≤ 100) (hr : ∀ p ∈ rest, p.1 ≠ lst) (hx : (x, instObj 225 dx) ∈ rest) (hdx : (dx, stDict w.params lst ts) ∈ rest)
   (hd : d ≤ 370) (hu : u ≤ 70) (B : Below A₀ base outer h₀) (F : Fr h₀ L s.heap m) (N : News h₀ L s.heap ((lst, W.listOf vs.toArray n) :: rest))
   (X : (Mine.hd.heap_39 w.params).In h₀) (T : Top p loose mean mg mb h₀)
   (h : ∀ n' h' tk, Fr h₀ L h' m → News h₀ L h' ((lst, W.listOf (vs.take (vs.length - num.toNat)).toArray n') :: rest) → Q .none { s with heap := h', toks := tk }) :
   wpAny (model PR w) (Ar d u (EV cn nms b1 b2 more L fa cd cl :: outer)) (call (.ref 173) [.ref x, .int num t]) Q E s := by
  refine wpAny_call ?_
  k_enter
  k_steps
  have e : ((vs.length : Int) - num).toNat = vs.length - num.toNat := by omega
  simp only [e] at *
  exact h _ _ _ (by assumption) (by assumption)
theorem pop1_c (h2 : 1 ≤ vs.length) (hlen : vs.length ≤ 100) (hr : ∀ p ∈ rest, p.1 ≠ lst) (hx : (x, instObj 225 dx) ∈ rest) (hdx : (dx, stDict w.params lst ts) ∈ rest)
   (hd : d ≤ 370) (hu : u ≤ 70) (B : Below A₀ base outer h₀) (F : Fr h₀ L s.heap m) (N : News h₀ L s.heap ((lst, W.listOf vs.toArray n) :: rest))
   (X : (Mine.hd.heap_39 w.params).In h₀) (T : Top p loose mean mg mb h₀)
   (h : ∀ n' h' tk, Fr h₀ L h' m → News h₀ L h' ((lst, W.listOf (vs.take (vs.length - 1)).toArray n') :: rest) → Q .none { s with heap := h', toks := tk }) :
   wpAny (model PR w) (Ar d u (EV cn nms b1 b2 more L fa cd cl :: outer)) (call (.ref 173) [.ref x]) Q E s := by
  refine wpAny_call ?_
  k_enter
  k_steps
  have e : ((vs.length : Int) - 1).toNat = vs.length - 1 := by omega
  simp only [e] at *
  exact h _ _ _ (by assumption) (by assumption)
theorem copy_c (hlen : vs.length ≤ 100) (hr : ∀ p ∈ rest, p.1 ≠ lst) (hx : (x, instObj 225 dx) ∈ rest) (hdx : (dx, stDict w.params lst ts) ∈ rest)
   (hd : d ≤ 370) (hu : u ≤ 70) (B : Below A₀ base outer h₀) (F : Fr h₀ L s.heap m) (N : News h₀ L s.heap ((lst, W.listOf vs.toArray n) :: rest))
   (X : (Mine.hd.heap_39 w.params).In h₀) (T : Top p loose mean mg mb h₀)
   (h : ∀ y dy l' ty n' h' tk, Fr h₀ L h' m → News h₀ L h' ((y, instObj 225 dy) :: (dy, stDict w.params l' ty) :: (l', W.listOf vs.toArray n') :: (lst, W.listOf vs.toArray n) :: rest) → (∀ p ∈ (lst, W.listOf vs.toArray n) :: rest, p.1 < dy) → dy < y → y < l' → Q (.ref y) { s with heap := h', toks := tk }) :
   wpAny (model PR w) (Ar d u (EV cn nms b1 b2 more L fa cd cl :: outer)) (call (.ref 150) [.ref x]) Q E s := by
  refine wpAny_call ?_
  k_enter
  k_steps
  refine h _ _ _ _ 0 _ _ (by assumption) (News.sub (by assumption) (List.forall_mem_cons.mpr ⟨by k_mem, List.forall_mem_cons.mpr ⟨by k_mem, List.forall_mem_cons.mpr ⟨by k_mem, List.forall_mem_cons.mpr ⟨by k_mem, fun p hp => ?_⟩⟩⟩⟩)) (allLt_to (l := _ :: _) (by assumption)) ?_ ?_
  · repeat (first | assumption | apply List.Mem.tail)
  · assumption
  · exact (by assumption : _ ∧ _ ∧ _ ∧ _ ∧ _).2.1
theorem height_c (hlen : vs.length ≤ 100) (hx : (x, instObj 225 dx) ∈ news) (hdx : (dx, stDict w.params lst ts) ∈ news) (hl : (lst, W.listOf vs.toArray n) ∈ news)
   (hd : d ≤ 370) (hu : u ≤ 70) (B : Below A₀ base outer h₀) (F : Fr h₀ L s.heap m) (N : News h₀ L s.heap news)
   (X : (Mine.hd.heap_39 w.params).In h₀) (T : Top p loose mean mg mb h₀)
   (h : ∀ t h' tk, Fr h₀ L h' m → News h₀ L h' news → Q (.int vs.length t) { s with heap := h', toks := tk }) :
   wpAny (model PR w) (Ar d u (EV cn nms b1 b2 more L fa cd cl :: outer)) (getAttr (.ref x) "height") Q E s := by
  k_steps
  exact h _ _ _ (by assumption) (by assumption)
end
end Mine
namespace Mine
section
local macro_rules | `(tactic| k_room) => `(tactic| ((try simp only [depth_mark, depth_under_make, depth_under_kw, depth_in1, depth_deeper, depth_Ar, recursionLimit]); omega))
local macro_rules | `(tactic| walk_at "wpAt") => `(tactic| dsimp only)
local macro_rules | `(tactic| walk_at "wpAt") => `(tactic| (ks_step "exec Expr"; k_dflt (refine ks_wpAt_Expr_any ?_)))
local macro_rules | `(tactic| walk_at "wpAt") => `(tactic| (ks_step "eval Call"; k_dflt (refine ks_wpAt_MethodCall ?_)))
local macro_rules | `(tactic| k_units) => `(tactic| ((simp only [units_Ar, units_in1, units_deeper, cLine_is]); omega))
local macro_rules | `(tactic| k_mem) => `(tactic| assumption)
local macro_rules | `(tactic| k_all) => `(tactic| first | assumption | exact allLt_ne (by assumption))
local macro_rules | `(tactic| walk_at "compareOp IsNot int ref") => `(tactic| refine wpAny_isNot_other (by rfl) (by intro x; cases x) ?_)
local macro_rules | `(tactic| walk_at "subscriptTail") => `(tactic| (k_here; (with_reducible show wpAny _ _ (subscriptTail _ _ (Value.ref _) (Value.int _ _)) _ _ _); k_dflt (refine' back_c ?N ?m ?a ?b ?c ?_ ; (case N => k_asm); (case m => k_mem); (case a => omega); (case b => omega); (case c => omega)); k_whole; intro v' hv'))

local macro_rules | `(tactic| walk_at "setItem ref int") => `(tactic| (k_here; (with_reducible show wpAny _ _ (setItem (Value.ref _) (Value.int _ _) _) _ _ _); k_dflt (refine' setBack_c ?F ?N ?U ?a ?b ?c ?_ ; (case F => k_asm); (case N => k_asm); (case U => k_upd); (case a => omega); (case b => (try simp only [List.length_set]); omega); (case c => omega)); k_whole; intro h' F' N'; (try k_sweep)))
local macro_rules | `(tactic| k_lt $h) => `(tactic| (replace $h := allLt_of $h; (try simp only [AllLt, and_true] at $h:ident); try (first | (have lR' : AllLt _ _ := $h) | (have lR' : AllLt _ _ := And.right $h) | (have lR' : AllLt _ _ := And.right (And.right $h)) | (have lR' : AllLt _ _ := And.right (And.right (And.right $h))) | (have lR' : AllLt _ _ := And.right (And.right (And.right (And.right $h)))) | (have lR' : AllLt _ _ := And.right (And.right (And.right (And.right (And.right $h))))) | (have lR' : AllLt _ _ := And.right (And.right (And.right (And.right (And.right (And.right $h)))))) | (have lR' : AllLt _ _ := And.right (And.right (And.right (And.right (And.right (And.right (And.right $h))))))) | (have lR' : AllLt _ _ := And.right (And.right (And.right (And.right (And.right (And.right (And.right (And.right $h)))))))) | (have lR' : AllLt _ _ := And.right (And.right (And.right (And.right (And.right (And.right (And.right (And.right (And.right $h)))))))))  | (have lR' : AllLt _ _ := And.right (And.right (And.right (And.right (And.right (And.right (And.right (And.right (And.right (And.right $h))))))))))  | (have lR' : AllLt _ _ := And.right (And.right (And.right (And.right (And.right (And.right (And.right (And.right (And.right (And.right (And.right $h)))))))))))  | (have lR' : AllLt _ _ := And.right (And.right (And.right (And.right (And.right (And.right (And.right (And.right (And.right (And.right (And.right (And.right $h))))))))))))  | (have lR' : AllLt _ _ := And.right (And.right (And.right (And.right (And.right (And.right (And.right (And.right (And.right (And.right (And.right (And.right (And.right $h))))))))))))))))
local macro_rules | `(tactic| walk_at "call builtin:len") => `(tactic| (k_here; (with_reducible show wpAny _ _ (call (Value.builtin "len") [Value.ref _]) _ _ _); k_dflt (refine' len_c ?N ?m ?z ?_; (case N => k_asm); (case m => k_mem); (case z => omega)); k_whole; intro t' tk'))
local macro_rules | `(tactic| walk_at "call builtin:list.copy") => `(tactic| (k_here; k_dflt (refine' copyList_c ?F ?N ?m ?z ?_; (case F => k_asm); (case N => k_asm); (case m => k_mem); (case z => omega)); k_whole; intro D' h' F' N' l1; (try k_lt l1); (try k_sweep)))
local macro_rules | `(tactic| walk_at "delItem ref ref") => `(tactic| (k_here; k_dflt (refine' delSlice_c ?F ?N ?U ?a ?b ?z ?_; (case F => k_asm); (case N => k_asm); (case U => k_upd); (case a => omega); (case b => omega); (case z => omega)); k_whole; intro h' F' N'; (try k_sweep)))
local macro_rules | `(tactic| walk_at "subscriptTail Name Slice ref ref") => `(tactic| (k_here; (with_reducible show wpAny _ _ (subscriptTail _ (PySem.Expr.Slice _ _ none _) (Value.ref _) (Value.ref _)) _ _ _); k_dflt (first | (refine' sliceAll_c ?F ?N ?m ?z ?_ ?s ?t; (case F => k_asm); (case N => k_asm); (case m => k_mem); (case z => omega); (case s => with_unfolding_all rfl); (case t => kmk_pure)) | (refine' sliceUpto_c ?F ?N ?m ?a ?z ?_ ?s ?t; (case F => k_asm); (case N => k_asm); (case m => k_mem); (case a => omega); (case z => omega); (case s => with_unfolding_all rfl); (case t => kmk_pure))); intro D' h' F' N' l1; (try k_lt l1); (try k_sweep)))
local macro_rules | `(tactic| walk_at "call type:reversed") => `(tactic| (k_here; (with_reducible show wpAny _ _ (call (Value.type _) [Value.ref _]) _ _ _); k_dflt (refine' reversed_c ?F ?N ?m ?_; (case F => k_asm); (case N => k_asm); (case m => k_mem)); k_whole; intro D' h' F' N' l1; have l1' := l1; (try k_lt l1); (try k_sweep)))
local macro_rules | `(tactic| walk_at "getAttr ref") => `(tactic| (k_here; (with_reducible show wpAny _ _ (getAttr (Value.ref _) (PySem.Str.ofString "value") _) _ _ _); k_dflt (refine' getValue_c ?F ?N ?X ?a ?b ?c ?_; (case F => k_asm); (case N => k_asm); (case X => k_asm); (case a => k_mem); (case b => k_mem); (case c => assumption)); k_whole))
local macro_rules | `(tactic| walk_at "call builtin:isinstance") => `(tactic| (k_here; (with_reducible show wpAny _ _ (call _ [Value.ref _, Value.ref 67]) _ _ _); k_dflt (refine' isOp_c ?F ?N ?X ?a ?b ?_; (case F => k_asm); (case N => k_asm); (case X => k_asm); (case a => k_mem); (case b => k_mem)); k_whole))
local macro_rules | `(tactic| walk_at "compareOp Eq") => `(tactic| (k_dflt (refine' eqVal_c ?a ?b ?c ?d ?_; (case a => assumption); (case b => assumption); (case c => assumption); (case d => assumption)); k_whole))
local macro_rules | `(tactic| walk_at "subscriptTail") => `(tactic| (k_here; (with_reducible show wpAny _ _ (subscriptTail _ _ (Value.ref _) (Value.int _ _)) _ _ _); k_dflt (refine' backK_c ?N ?m ?x ?j ?a ?b ?c ?_ ; (case N => k_asm); (case m => k_mem); (case x => assumption); (case j => omega); (case a => omega); (case b => omega); (case c => omega)); k_whole))
variable {w : World} {s : Shared} {base : Heap} {outer : List Env} {p : Program} {loose : List Str} {mean : ExcName → Option Value} {mg mb : Str → Option Value}
variable {h₀ : Heap} {m : Str → Option Value} {news : List (Addr × Obj)} {Q : Value → Shared → Prop} {E : Value → Shared → Prop} {A₀ : Around}
variable {cn : Str} {nms : List (Str × NameKind)} {b1 b2 : Bool} {more : List (Str × Const)} {L fa : Addr} {cd : Value} {cl : List (Str × Addr)} {d u : Nat}
variable {v : Value} {t1 t2 : Tok}
variable {x dx lst a da : Addr} {ts : Tok} {vs : List Value} {n : Nat} {j : Int} {t : Tok} {k c : Nat} {rest : List (Addr × Obj)}
theorem getDepth_c {cs : List Nat} (hc8 : c < 8) (hops : Ops w.params news vs cs) (hlen : vs.length ≤ 100) (hx : (x, instObj 225 dx) ∈ news) (hdx : (dx, stDict w.params lst ts) ∈ news) (hl : (lst, W.listOf vs.toArray n) ∈ news) (ha : (a, instObj (clsOf c) da) ∈ news) (hda : (da, opDict w.params v t1 t2) ∈ news) (hv : IsVal c v)
   (hd : d ≤ 370) (hu : u ≤ 70) (B : Below A₀ base outer h₀) (F : Fr h₀ L s.heap m) (N : News h₀ L s.heap news)
   (X : (Mine.hd.heap_39 w.params).In h₀) (T : Top p loose mean mg mb h₀)
   (h : ∀ r h' tk, DepthIs cs c r → Fr h₀ L h' m → News h₀ L h' news → Q r { s with heap := h', toks := tk }) :
   wpAny (model PR w) (Ar d u (EV cn nms b1 b2 more L fa cd cl :: outer)) (call (.ref 180) [.ref x, .ref a]) Q E s := by
  refine wpAny_call ?_
  k_enter
  repeat' ((fail_if_success (first | (with_reducible show wpAny _ _ (exec (PySem.Stmt.For _ _ _ _ _) _) _ _ _))); (first | (k_unfold; (try dsimp only)) | (k_end; wrow_close) | walk1 | (dsimp only; walk1) | (leave1; walk_say "STEP leave1"; try dsimp only) | fail "no step"))
  refine wpAny_For ?_ (by intro _; rfl)
  k_steps
  refine' forRevK_c ?hh ?hE ?h1 ?h2 ?h3 ?F ?N ?lt hl (fun i => ∀ k, k < i → cs[cs.length - 1 - k]? ≠ some c) ?z ?step ?done
  case hh => rfl
  case hE => passes_own
  case h1 => rfl
  case h2 => rfl
  case h3 => rfl
  case F => assumption
  case N => assumption
  case lt => assumption
  case z => exact fun k hk => absurd hk (Nat.not_lt_zero _)
  case step =>
    intro i v' t nw h₂ tk hi hv' hJ hsub F₂ N₂
    have hci : cs[cs.length - 1 - i]? = some (cs[cs.length - 1 - i]'(by have := hops.1; omega)) := List.getElem?_eq_getElem _
    obtain ⟨ai, dxi, t1i, t2i, vi, rfl, hc8i, hai, hdi, hvi⟩ := hops.2 _ _ _ hv' (by rw [hops.1]; exact hci)
    replace hai := hsub _ hai
    replace hdi := hsub _ hdi
    replace ha := hsub _ ha
    replace hda := hsub _ hda
    have hL := hops.1
    k_steps
    · dsimp only [StepR]
      k_steps
      have he : cs[cs.length - 1 - i] = c := by assumption
      exact h _ _ _ (.inl ⟨i, _, by omega, by rw [hci, he], hJ, rfl⟩) (by assumption) (News.sub (by assumption) hsub)
    · refine ⟨_, _, _, rfl, F₂, N₂, fun y h1 h2 => by simp only [if_neg h1, if_neg h2], fun k hk => ?_⟩
      rcases Nat.lt_succ_iff_lt_or_eq.mp hk with hk | rfl
      · exact hJ k hk
      · rw [hci]; intro q; exact absurd (Option.some.inj q) (by assumption)
  case done =>
    intro h₂ tk m' F₂ N₂ hm' hJ
    k_steps
    exact h _ _ _ (.inr ⟨fun k hk => hJ k (by rw [hops.1]; exact hk), rfl⟩) (by assumption) (by assumption)
end
end Mine
namespace Mine
section
local macro_rules | `(tactic| k_room) => `(tactic| ((try simp only [depth_mark, depth_under_make, depth_under_kw, depth_in1, depth_deeper, depth_Ar, recursionLimit]); omega))
local macro_rules | `(tactic| walk_at "wpAt") => `(tactic| dsimp only)
local macro_rules | `(tactic| walk_at "wpAt") => `(tactic| (ks_step "exec Expr"; k_dflt (refine ks_wpAt_Expr_any ?_)))
local macro_rules | `(tactic| walk_at "wpAt") => `(tactic| (ks_step "eval Call"; k_dflt (refine ks_wpAt_MethodCall ?_)))
local macro_rules | `(tactic| k_units) => `(tactic| ((simp only [units_Ar, units_in1, units_deeper, cLine_is]); omega))
local macro_rules | `(tactic| k_mem) => `(tactic| assumption)
local macro_rules | `(tactic| k_all) => `(tactic| first | assumption | exact allLt_ne (by assumption))
variable {w : World} {s : Shared} {base : Heap} {outer : List Env} {p : Program} {loose : List Str} {mean : ExcName → Option Value} {mg mb : Str → Option Value}
variable {h₀ : Heap} {m : Str → Option Value} {news : List (Addr × Obj)} {Q : Value → Shared → Prop} {E : Value → Shared → Prop} {A₀ : Around}
variable {cn : Str} {nms : List (Str × NameKind)} {b1 b2 : Bool} {more : List (Str × Const)} {L fa : Addr} {cd : Value} {cl : List (Str × Addr)} {d u : Nat}
theorem allLt_3 {d : Addr} {l : List (Addr × Obj)} (h : AllLt d l) : ∀ p ∈ l, p.1 ≠ d + 1 + 1 + 1 := allLt_ne (allLt_trans h (Nat.lt_add_of_pos_right (n := d) (k := 3) (by decide)))
theorem allLt_2 {d : Addr} {l : List (Addr × Obj)} (h : AllLt d l) : ∀ p ∈ l, p.1 ≠ d + 1 + 1 := allLt_ne (allLt_trans h (Nat.lt_add_of_pos_right (n := d) (k := 2) (by decide)))
theorem allLt_1 {d : Addr} {l : List (Addr × Obj)} (h : AllLt d l) : ∀ p ∈ l, p.1 ≠ d + 1 := allLt_ne (allLt_trans h (Nat.lt_add_of_pos_right (n := d) (k := 1) (by decide)))
end
end Mine
namespace Mine
section
local macro_rules | `(tactic| k_room) => `(tactic| ((try simp only [depth_mark, depth_under_make, depth_under_kw, depth_in1, depth_deeper, depth_Ar, recursionLimit]); omega))
local macro_rules | `(tactic| walk_at "wpAt") => `(tactic| dsimp only)
local macro_rules | `(tactic| walk_at "wpAt") => `(tactic| (ks_step "exec Expr"; k_dflt (refine ks_wpAt_Expr_any ?_)))
local macro_rules | `(tactic| walk_at "wpAt") => `(tactic| (ks_step "eval Call"; k_dflt (refine ks_wpAt_MethodCall ?_)))
local macro_rules | `(tactic| k_units) => `(tactic| ((simp only [units_Ar, units_in1, units_deeper, cLine_is]); omega))
local macro_rules | `(tactic| k_mem) => `(tactic| assumption)
local macro_rules | `(tactic| k_all) => `(tactic| first | assumption | exact allLt_ne (by assumption))
local macro_rules | `(tactic| walk_at "compareOp IsNot int ref") => `(tactic| refine wpAny_isNot_other (by rfl) (by intro x; cases x) ?_)
local macro_rules | `(tactic| walk_at "subscriptTail") => `(tactic| (k_here; (with_reducible show wpAny _ _ (subscriptTail _ _ (Value.ref _) (Value.int _ _)) _ _ _); k_dflt (refine' back_c ?N ?m ?a ?b ?c ?_ ; (case N => k_asm); (case m => k_mem); (case a => omega); (case b => omega); (case c => omega)); k_whole; intro v' hv'))

local macro_rules | `(tactic| walk_at "setItem ref int") => `(tactic| (k_here; (with_reducible show wpAny _ _ (setItem (Value.ref _) (Value.int _ _) _) _ _ _); k_dflt (refine' setBack_c ?F ?N ?U ?a ?b ?c ?_ ; (case F => k_asm); (case N => k_asm); (case U => k_upd); (case a => omega); (case b => (try simp only [List.length_set]); omega); (case c => omega)); k_whole; intro h' F' N'; (try k_sweep)))
local macro_rules | `(tactic| k_lt $h) => `(tactic| (replace $h := allLt_of $h; (try simp only [AllLt, and_true] at $h:ident); try (first | (have lR' : AllLt _ _ := $h) | (have lR' : AllLt _ _ := And.right $h) | (have lR' : AllLt _ _ := And.right (And.right $h)) | (have lR' : AllLt _ _ := And.right (And.right (And.right $h))) | (have lR' : AllLt _ _ := And.right (And.right (And.right (And.right $h)))) | (have lR' : AllLt _ _ := And.right (And.right (And.right (And.right (And.right $h))))) | (have lR' : AllLt _ _ := And.right (And.right (And.right (And.right (And.right (And.right $h)))))) | (have lR' : AllLt _ _ := And.right (And.right (And.right (And.right (And.right (And.right (And.right $h))))))) | (have lR' : AllLt _ _ := And.right (And.right (And.right (And.right (And.right (And.right (And.right (And.right $h)))))))) | (have lR' : AllLt _ _ := And.right (And.right (And.right (And.right (And.right (And.right (And.right (And.right (And.right $h)))))))))  | (have lR' : AllLt _ _ := And.right (And.right (And.right (And.right (And.right (And.right (And.right (And.right (And.right (And.right $h))))))))))  | (have lR' : AllLt _ _ := And.right (And.right (And.right (And.right (And.right (And.right (And.right (And.right (And.right (And.right (And.right $h)))))))))))  | (have lR' : AllLt _ _ := And.right (And.right (And.right (And.right (And.right (And.right (And.right (And.right (And.right (And.right (And.right (And.right $h))))))))))))  | (have lR' : AllLt _ _ := And.right (And.right (And.right (And.right (And.right (And.right (And.right (And.right (And.right (And.right (And.right (And.right (And.right $h))))))))))))))))
local macro_rules | `(tactic| walk_at "call builtin:len") => `(tactic| (k_here; (with_reducible show wpAny _ _ (call (Value.builtin "len") [Value.ref _]) _ _ _); k_dflt (refine' len_c ?N ?m ?z ?_; (case N => k_asm); (case m => k_mem); (case z => omega)); k_whole; intro t' tk'))
local macro_rules | `(tactic| walk_at "call builtin:list.copy") => `(tactic| (k_here; k_dflt (refine' copyList_c ?F ?N ?m ?z ?_; (case F => k_asm); (case N => k_asm); (case m => k_mem); (case z => omega)); k_whole; intro D' h' F' N' l1; (try k_lt l1); (try k_sweep)))
local macro_rules | `(tactic| walk_at "delItem ref ref") => `(tactic| (k_here; k_dflt (refine' delSlice_c ?F ?N ?U ?a ?b ?z ?_; (case F => k_asm); (case N => k_asm); (case U => k_upd); (case a => omega); (case b => omega); (case z => omega)); k_whole; intro h' F' N'; (try k_sweep)))
local macro_rules | `(tactic| walk_at "subscriptTail Name Slice ref ref") => `(tactic| (k_here; (with_reducible show wpAny _ _ (subscriptTail _ (PySem.Expr.Slice _ _ none _) (Value.ref _) (Value.ref _)) _ _ _); k_dflt (first | (refine' sliceAll_c ?F ?N ?m ?z ?_ ?s ?t; (case F => k_asm); (case N => k_asm); (case m => k_mem); (case z => omega); (case s => with_unfolding_all rfl); (case t => kmk_pure)) | (refine' sliceUpto_c ?F ?N ?m ?a ?z ?_ ?s ?t; (case F => k_asm); (case N => k_asm); (case m => k_mem); (case a => omega); (case z => omega); (case s => with_unfolding_all rfl); (case t => kmk_pure))); intro D' h' F' N' l1; (try k_lt l1); (try k_sweep)))
local macro_rules | `(tactic| walk_at "call type:reversed") => `(tactic| (k_here; (with_reducible show wpAny _ _ (call (Value.type _) [Value.ref _]) _ _ _); k_dflt (refine' reversed_c ?F ?N ?m ?_; (case F => k_asm); (case N => k_asm); (case m => k_mem)); k_whole; intro D' h' F' N' l1; have l1' := l1; (try k_lt l1); (try k_sweep)))
local macro_rules | `(tactic| walk_at "getAttr ref") => `(tactic| (k_here; (with_reducible show wpAny _ _ (getAttr (Value.ref _) (PySem.Str.ofString "value") _) _ _ _); k_dflt (refine' getValue_c ?F ?N ?X ?a ?b ?c ?_; (case F => k_asm); (case N => k_asm); (case X => k_asm); (case a => k_mem); (case b => k_mem); (case c => assumption)); k_whole))
local macro_rules | `(tactic| walk_at "call builtin:isinstance") => `(tactic| (k_here; (with_reducible show wpAny _ _ (call _ [Value.ref _, Value.ref 67]) _ _ _); k_dflt (refine' isOp_c ?F ?N ?X ?a ?b ?_; (case F => k_asm); (case N => k_asm); (case X => k_asm); (case a => k_mem); (case b => k_mem)); k_whole))
local macro_rules | `(tactic| walk_at "compareOp Eq") => `(tactic| (k_dflt (refine' eqVal_c ?a ?b ?c ?d ?_; (case a => assumption); (case b => assumption); (case c => assumption); (case d => assumption)); k_whole))
local macro_rules | `(tactic| walk_at "subscriptTail") => `(tactic| (k_here; (with_reducible show wpAny _ _ (subscriptTail _ _ (Value.ref _) (Value.int _ _)) _ _ _); k_dflt (refine' backK_c ?N ?m ?x ?j ?a ?b ?c ?_ ; (case N => k_asm); (case m => k_mem); (case x => assumption); (case j => omega); (case a => omega); (case b => omega); (case c => omega)); k_whole))
local macro_rules | `(tactic| walk_at "call ref") => `(tactic| (k_here; (with_reducible show wpAny _ _ (call (Value.ref 241) [Value.int _ _]) _ _ _); k_dflt (refine' thing_c ?k3 ?k4 ?k5 ?k6 ?k7 ?k8 ?k9 ?_; (case k3 => ((try simp only [depth_mark, depth_under_make, depth_under_kw, depth_in1, depth_deeper, depth_Ar]); omega)); (case k4 => ((try simp only [units_Ar, units_in1, units_deeper]); omega)); (case k5 => k_asm); (case k6 => k_asm); (case k7 => k_asm); (case k8 => k_asm); (case k9 => k_asm)); k_whole; intro tp' a' dx' t1' t2' vv' vt' h' tk' F' N' hv' hvt' l1 l2 l3; (try k_lt l1); (try k_lt2 l2); (try k_lt2 l3); (try k_sweep)))
local macro_rules | `(tactic| walk_at "getAttr ref") => `(tactic| (k_here; (with_reducible show wpAny _ _ (getAttr (Value.ref _) (PySem.Str.ofString "height") _) _ _ _); k_dflt (refine' height_c ?z ?a ?b ?c ?k3 ?k4 ?k5 ?k6 ?k7 ?k8 ?k9 ?_; (case k6 => k_asm); (case k7 => k_asm); (case z => omega); (case a => k_mem); (case b => k_mem); (case c => k_mem); (case k3 => ((try simp only [depth_mark, depth_under_make, depth_under_kw, depth_in1, depth_deeper, depth_Ar]); omega)); (case k4 => ((try simp only [units_Ar, units_in1, units_deeper]); omega)); (case k5 => k_asm); (case k8 => k_asm); (case k9 => k_asm)); k_whole; intro t' h' tk' F' N'; (try k_sweep)))
local macro_rules | `(tactic| k_all) => `(tactic| exact allLt_ne (allLt_trans (by assumption) (by omega)))
local macro_rules | `(tactic| k_all) => `(tactic| exact allNe_to (by assumption))
local macro_rules | `(tactic| walk_at "call ref") => `(tactic| (k_here; (with_reducible show wpAny _ _ (call (Value.ref 180) [Value.ref _, Value.ref _]) _ _ _); k_dflt (refine' getDepth_c ?c8 ?ops ?z ?a ?b ?c ?e ?f ?g ?k3 ?k4 ?k5 ?k6 ?k7 ?k8 ?k9 ?_; (case k6 => k_asm); (case k7 => k_asm); (case a => k_mem); (case b => k_mem); (case c => k_mem); (case e => k_mem); (case f => k_mem); (case g => assumption); (case ops => exact Ops.mono (by assumption) (by intro p hp; repeat (first | assumption | apply List.Mem.tail))); (case c8 => omega); (case z => omega); (case k3 => ((try simp only [depth_mark, depth_under_make, depth_under_kw, depth_in1, depth_deeper, depth_Ar]); omega)); (case k4 => ((try simp only [units_Ar, units_in1, units_deeper]); omega)); (case k5 => k_asm); (case k8 => k_asm); (case k9 => k_asm)); k_whole; intro r' h' tk' hr' F' N'; (try k_sweep)))
variable {w : World} {s : Shared} {base : Heap} {outer : List Env} {p : Program} {loose : List Str} {mean : ExcName → Option Value} {mg mb : Str → Option Value}
variable {h₀ : Heap} {m : Str → Option Value} {news : List (Addr × Obj)} {Q : Value → Shared → Prop} {E : Value → Shared → Prop} {A₀ : Around}
variable {cn : Str} {nms : List (Str × NameKind)} {b1 b2 : Bool} {more : List (Str × Const)} {L fa : Addr} {cd : Value} {cl : List (Str × Addr)} {d u : Nat}
variable {v : Value} {t1 t2 : Tok}
variable {x dx lst a da : Addr} {ts : Tok} {vs : List Value} {n : Nat} {j : Int} {t : Tok} {k c : Nat} {rest : List (Addr × Obj)}
variable {rw' : Addr} {rv : List Value} {nr : Nat}
theorem seen_c {cs : List Nat} (hops : Ops w.params news vs cs) (hrow : Row rv cs) (hlen : vs.length ≤ 100) (hx : (x, instObj 225 dx) ∈ news) (hdx : (dx, stDict w.params lst ts) ∈ news) (hl : (lst, W.listOf vs.toArray n) ∈ news) (hr : (rw', W.listOf rv.toArray nr) ∈ news)
   (hd : d ≤ 350) (hu : u ≤ 50) (B : Below A₀ base outer h₀) (F : Fr h₀ L s.heap m) (N : News h₀ L s.heap news)
   (X : (Mine.hd.heap_39 w.params).In h₀) (T : Top p loose mean mg mb h₀)
   (h : ∀ h' tk, Fr h₀ L h' m → News h₀ L h' news → Q (.bool true) { s with heap := h', toks := tk }) :
   wpAny (model PR w) (Ar d u (EV cn nms b1 b2 more L fa cd cl :: outer)) (call (.ref 246) [.ref x, .ref rw']) Q E s := by
  have e1 := hrow.1
  have e2 := hops.1
  refine wpAny_call ?_
  k_enter
  (rename AllLt _ news => hAL)
  have hA3 := allLt_3 hAL
  clear hAL
  repeat' ((fail_if_success (first | (with_reducible show wpAny _ _ (eval (PySem.Expr.ListComp _ _ _ _) _) _ _ _))); (first | (k_unfold; (try dsimp only)) | (k_end; wrow_close) | walk1 | (dsimp only; walk1) | (leave1; walk_say "STEP leave1"; try dsimp only) | fail "no step"))
  · exfalso; omega
  k_dflt (refine' compRange_c rv.length (fun _ => true) (fun k y => ∃ c, cs[cs.length - 1 - k]? = some c ∧ IsVal c y) ?F ?hh ?hclos ?hcell ?hkind ?hnames ?hx ?hs ?hn ?h)
  case F => k_asm
  case hh => rfl
  case hclos => with_unfolding_all rfl
  case hcell => decide
  case hkind => with_unfolding_all rfl
  case hnames => decide
  case hx => with_unfolding_all rfl
  case hs => intro _; with_unfolding_all rfl
  case hn => omega
  repeat' ((fail_if_success (first | (with_reducible show Exists _))); (first | (k_unfold; (try dsimp only)) | (k_end; wrow_close) | walk1 | (dsimp only; walk1) | (leave1; walk_say "STEP leave1"; try dsimp only) | fail "no step"))
  refine ⟨_, _, _, _, _, rfl, by assumption, by assumption, by assumption, ?_, ?_, ?_⟩
  · intro k t C s₂ m₂ E' hk F₂ N₂ cE' hns hm
    exact wpAny_tests_nil ⟨rfl, _, _, rfl, fun _ _ e => e⟩
  · intro k t C s₂ m₂ E' hk _ F₂ N₂ cE' hns hm
    have hvk : vs[vs.length - 1 - k]? = some (vs[vs.length - 1 - k]'(by omega)) := List.getElem?_eq_getElem _
    have hck : cs[cs.length - 1 - k]? = some (cs[cs.length - 1 - k]'(by omega)) := List.getElem?_eq_getElem _
    obtain ⟨ai, dxi, t1i, t2i, vi, hai, hc8i, ham, hdm, hvi⟩ := hops.2 (vs.length - 1 - k) _ _ hvk (by rw [e2]; exact hck)
    rw [hai] at hvk
    repeat' ((fail_if_success (first | (with_reducible show And (Exists _) _))); (first | (k_unfold; (try dsimp only)) | (k_end; wrow_close) | walk1 | (dsimp only; walk1) | (leave1; walk_say "STEP leave1"; try dsimp only) | fail "no step"))
    refine ⟨⟨_, hck, hvi⟩, _, _, rfl, by assumption⟩
  intro D1 ys1 ep1 h1 tk1 F1 N1 ne1 _ P1
  replace ne1 := allNe_of ne1
  simp only [AllNe] at ne1
  have P1' := carriedAll_of (g := fun k => cs.getD (cs.length - 1 - k) 0) (Paired.mono (fun k y ⟨c, hc, hv⟩ => by rw [List.getD_eq_getElem?_getD, hc]; exact hv) P1)
  repeat' ((fail_if_success (first | (with_reducible show wpAny _ _ (eval (PySem.Expr.ListComp _ _ _ _) _) _ _ _))); (first | (k_unfold; (try dsimp only)) | (k_end; wrow_close) | walk1 | (dsimp only; walk1) | (leave1; walk_say "STEP leave1"; try dsimp only) | fail "no step"))
  k_dflt (refine' compRange_c rv.length (fun _ => true) (fun k y => ∃ c, cs[cs.length - 1 - k]? = some c ∧ IsVal c y) ?F ?hh ?hclos ?hcell ?hkind ?hnames ?hx ?hs ?hn ?h)
  case F => k_asm
  case hh => rfl
  case hclos => with_unfolding_all rfl
  case hcell => decide
  case hkind => with_unfolding_all rfl
  case hnames => decide
  case hx => with_unfolding_all rfl
  case hs => intro _; with_unfolding_all rfl
  case hn => omega
  repeat' ((fail_if_success (first | (with_reducible show Exists _))); (first | (k_unfold; (try dsimp only)) | (k_end; wrow_close) | walk1 | (dsimp only; walk1) | (leave1; walk_say "STEP leave1"; try dsimp only) | fail "no step"))
  refine ⟨_, _, _, _, _, rfl, by assumption, by assumption, by assumption, ?_, ?_, ?_⟩
  · intro k t C s₂ m₂ E' hk F₂ N₂ cE' hns hm
    exact wpAny_tests_nil ⟨rfl, _, _, rfl, fun _ _ e => e⟩
  · intro k t C s₂ m₂ E' hk _ F₂ N₂ cE' hns hm
    have hvk : rv[rv.length - 1 - k]? = some (rv[rv.length - 1 - k]'(by omega)) := List.getElem?_eq_getElem _
    have hck : cs[cs.length - 1 - k]? = some (cs[cs.length - 1 - k]'(by omega)) := List.getElem?_eq_getElem _
    obtain ⟨hc8i, hvi⟩ := hrow.2 (rv.length - 1 - k) _ _ hvk (by rw [e1]; exact hck)
    repeat' ((fail_if_success (first | (with_reducible show And (Exists _) _))); (first | (k_unfold; (try dsimp only)) | (k_end; wrow_close) | walk1 | (dsimp only; walk1) | (leave1; walk_say "STEP leave1"; try dsimp only) | fail "no step"))
    refine ⟨⟨_, hck, hvi⟩, _, _, rfl, fun _ _ e => e⟩
  intro D2 ys2 ep2 h2 tk2 F2 N2 ne2 _ P2
  replace ne2 := allNe_of ne2
  simp only [AllNe] at ne2
  have P2' := carriedAll_of (g := fun k => cs.getD (cs.length - 1 - k) 0) (Paired.mono (fun k y ⟨c, hc, hv⟩ => by rw [List.getD_eq_getElem?_getD, hc]; exact hv) P2)
  repeat' ((fail_if_success (first | (with_reducible show wpAny _ _ (compareOp CmpOp.NotEq _ _) _ _ _))); (first | (k_unfold; (try dsimp only)) | (k_end; wrow_close) | walk1 | (dsimp only; walk1) | (leave1; walk_say "STEP leave1"; try dsimp only) | fail "no step"))
  k_dflt (refine' neLists_c ?N ?h1 ?h2 P1' P2' ?hu ?_)
  case N => k_asm
  case h1 => k_mem
  case h2 => k_mem
  case hu => k_units
  repeat' ((fail_if_success (first | (with_reducible show wpAny _ _ (exec (PySem.Stmt.For _ _ _ _ _) _) _ _ _))); (first | (k_unfold; (try dsimp only)) | (k_end; wrow_close) | walk1 | (dsimp only; walk1) | (leave1; walk_say "STEP leave1"; try dsimp only) | fail "no step"))
  k_dflt (refine' forRange_c 8 ?F ?hh ?hx ?hp ?hs ?hE ?hn ?h)
  case F => k_asm
  case hh => rfl
  case hx => rfl
  case hp => rfl
  case hs => intro _; with_unfolding_all rfl
  case hE => passes_own
  case hn => omega
  case h =>
    repeat' ((fail_if_success (first | (with_reducible show Exists _))); (first | (k_unfold; (try dsimp only)) | (k_end; wrow_close) | walk1 | (dsimp only; walk1) | (leave1; walk_say "STEP leave1"; try dsimp only) | fail "no step"))
    refine ⟨_, _, _, _, _, _, cellJ _ _, rfl, by assumption, by assumption, News.sub (by assumption) (fun p hp => .tail _ (.tail _ hp)), ⟨_, _, by assumption, rfl⟩, ?_, ?_⟩
    · rintro i t m₁ news₁ I oi h₃ tk₃ hi ⟨o₃, v₃, ho₃, rfl⟩ hoff F₃ N₃
      replace hoff := allNe_of hoff
      simp only [AllNe] at hoff
      repeat' ((fail_if_success (first | (with_reducible show wpAny _ _ (exec (PySem.Stmt.Assign _ (PySem.Expr.ListComp _ _ _ _) _) _) _ _ _))); (first | (k_unfold; (try dsimp only)) | (k_end; wrow_close) | walk1 | (dsimp only; walk1) | (leave1; walk_say "STEP leave1"; try dsimp only) | fail "no step"))
      have hc8 : ((i : Int).fmod 8).toNat = i := by rw [Int.fmod_eq_emod_of_nonneg _ (by decide)]; omega
      k_dflt (refine' assignCompRange_c rv.length (fun k => decide (cs[cs.length - 1 - k]? = some ((i : Int).fmod 8).toNat)) (fun (k : Nat) y => ∃ t, y = .int (k : Int) t) ?F ?hsw ?hh ?hclos ?hcell ?hkind ?hnames ?hx ?hy ?hp ?hs ?hn ?h)
      case F => k_asm
      case hsw => with_unfolding_all rfl
      case hh => rfl
      case hclos => with_unfolding_all rfl
      case hcell => decide
      case hkind => with_unfolding_all rfl
      case hnames => decide
      case hx => with_unfolding_all rfl
      case hy => with_unfolding_all rfl
      case hp => with_unfolding_all rfl
      case hs => intro _; with_unfolding_all rfl
      case hn => omega
      case h =>
        repeat' ((fail_if_success (first | (with_reducible show Exists _))); (first | (k_unfold; (try dsimp only)) | (k_end; wrow_close) | walk1 | (dsimp only; walk1) | (leave1; walk_say "STEP leave1"; try dsimp only) | fail "no step"))
        refine ⟨_, _, _, _, _, rfl, by assumption, by assumption, by assumption, ?_, ?_, ?_⟩
        · intro k t C s₂ m₂ E' hk F₂ N₂ cE' hns hm
          have hvk : rv[rv.length - 1 - k]? = some (rv[rv.length - 1 - k]'(by omega)) := List.getElem?_eq_getElem _
          have hck : cs[cs.length - 1 - k]? = some (cs[cs.length - 1 - k]'(by omega)) := List.getElem?_eq_getElem _
          obtain ⟨hc8i, hvi⟩ := hrow.2 (rv.length - 1 - k) _ _ hvk (by rw [e1]; exact hck)
          have hi8 : ((i : Int).fmod 8).toNat < 8 := by rw [hc8]; exact hi
          refine wpAny_tests_one ?_
          repeat' ((fail_if_success (first | (with_reducible show And (_ = _) _))); (first | (k_unfold; (try dsimp only)) | (k_end; wrow_close) | walk1 | (dsimp only; walk1) | (leave1; walk_say "STEP leave1"; try dsimp only) | fail "no step"))
          refine ⟨?_, _, _, rfl, fun _ _ e => e⟩
          rw [hck]; simp
        · intro k t C s₂ m₂ E' hk _ F₂ N₂ cE' hns hm
          repeat' ((fail_if_success (first | (with_reducible show And (Exists _) _))); (first | (k_unfold; (try dsimp only)) | (k_end; wrow_close) | walk1 | (dsimp only; walk1) | (leave1; walk_say "STEP leave1"; try dsimp only) | fail "no step"))
          exact ⟨⟨_, rfl⟩, _, _, rfl, fun _ _ e => e⟩
        intro D ys ep h4 tk4 F4 N4 ne4 P4
        replace ne4 := allNe_of ne4
        simp only [AllNe] at ne4
        have hI := intsAre_of P4
        have hi8 : ((i : Int).fmod 8).toNat < 8 := by rw [hc8]; exact hi
        repeat' ((fail_if_success (first | (with_reducible show wpAny _ _ (exec (PySem.Stmt.If _ _ _ _) _) _ _ _))); (first | (k_unfold; (try dsimp only)) | (k_end; wrow_close) | walk1 | (dsimp only; walk1) | (leave1; walk_say "STEP leave1"; try dsimp only) | fail "no step"))
        (rename DepthIs _ _ _ => hD)
        rw [e1] at hI
        rcases depth_places hD with ⟨hf, rfl⟩ | ⟨j, l, t, hf, rfl⟩
        · rw [hf] at hI
          cases hI
          k_steps
          refine ⟨_, _, _, _, rfl, by assumption, ?N, ?off, ⟨?o, ?v0, ?d, rfl⟩⟩
          case N =>
            refine News.sub (by assumption) (List.forall_mem_cons.mpr ⟨by k_mem, List.forall_mem_cons.mpr ⟨by k_mem, fun p hp => ?_⟩⟩)
            repeat (first | assumption | apply List.Mem.tail)
          case d => assumption
          case off => exact allNe_to (l := _ :: _ :: _ :: _) hoff
        · rw [hf] at hI
          cases hI with
          | cons _ tj hI =>
            k_steps
            · exfalso; rename decide _ = true => q; simp at q
            · exfalso; rename _ ≠ _ => q; exact q (by simp)
            · refine ⟨_, _, _, _, rfl, by assumption, ?N, ?off, ⟨?o, ?v0, ?d, rfl⟩⟩
              case N =>
                refine News.sub (by assumption) (List.forall_mem_cons.mpr ⟨by k_mem, List.forall_mem_cons.mpr ⟨by k_mem, fun p hp => ?_⟩⟩)
                repeat (first | assumption | apply List.Mem.tail)
              case d => assumption
              case off => exact allNe_to (l := _ :: _ :: _ :: _) hoff
    · rintro h₃ tk₃ m₃ news₃ F₃ N₃ ⟨o₃, v₃, ho₃, rfl⟩
      k_steps
      exact h _ _ (by assumption) (News.sub (by assumption) fun p hp => .tail _ (.tail _ (.tail _ hp)))
end
end Mine
namespace Mine
section
local macro_rules | `(tactic| k_room) => `(tactic| ((try simp only [depth_mark, depth_under_make, depth_under_kw, depth_in1, depth_deeper, depth_Ar, recursionLimit]); omega))
local macro_rules | `(tactic| walk_at "wpAt") => `(tactic| dsimp only)
local macro_rules | `(tactic| walk_at "wpAt") => `(tactic| (ks_step "exec Expr"; k_dflt (refine ks_wpAt_Expr_any ?_)))
local macro_rules | `(tactic| walk_at "wpAt") => `(tactic| (ks_step "eval Call"; k_dflt (refine ks_wpAt_MethodCall ?_)))
local macro_rules | `(tactic| k_units) => `(tactic| ((simp only [units_Ar, units_in1, units_deeper, cLine_is]); omega))
local macro_rules | `(tactic| k_mem) => `(tactic| assumption)
local macro_rules | `(tactic| k_all) => `(tactic| first | assumption | exact allLt_ne (by assumption))
variable {w : World} {s : Shared} {base : Heap} {outer : List Env} {p : Program} {loose : List Str} {mean : ExcName → Option Value} {mg mb : Str → Option Value}
variable {h₀ : Heap} {m : Str → Option Value} {news : List (Addr × Obj)} {Q : Value → Shared → Prop} {E : Value → Shared → Prop} {A₀ : Around}
variable {cn : Str} {nms : List (Str × NameKind)} {b1 b2 : Bool} {more : List (Str × Const)} {L fa : Addr} {cd : Value} {cl : List (Str × Addr)} {d u : Nat}
section
variable {prog : Program} {A : Around} {env : Env} {lst : Addr} {vs : List Value} {n : Nat}
theorem map_turnX {m m₁ : Str → Option Value} {xi xc xr : Str} {v0 v1 r : Value} (hr : m₁ xr = some r) (h : ∀ y : Str, y ≠ xi → y ≠ xc → y ≠ xr → m₁ y = m y) :
    (fun y => if y = xc then some v1 else if y = xi then some v0 else m₁ y) = fun y => if y = xc then some v1 else if y = xi then some v0 else if y = xr then some r else m y := by
  funext y
  by_cases h1 : y = xc
  · simp only [if_pos h1]
  · by_cases h2 : y = xi
    · simp only [if_neg h1, if_pos h2]
    · simp only [if_neg h1, if_neg h2]
      by_cases h3 : y = xr
      · subst h3; simp only [if_true, hr]
      · simp only [if_neg h3]; exact h y h2 h1 h3
theorem map_endX {m' : Str → Option Value} {xr : Str} {r : Value} (hr : m' xr = some r) : m' = fun y => if y = xr then some r else m' y := by
  funext y
  by_cases h1 : y = xr
  · subst h1; simp only [if_true, hr]
  · simp only [if_neg h1]
theorem forRevX_c {Q : Flow → Shared → Prop} {xi xc : Str} (xr : Str) (r0 : Value) {pk pv pt : Pos} {x1 : Nat} {body : List Stmt} {it : Addr} (hh : A.handled = none) (hE : PassesOwn (model prog w) A env E) (hxi : env.kindOf xi = some .local) (hxc : env.kindOf xc = some .local)
    (hp : (env.scope.kind == .class || (env.scope.kind == .module && env.locals != env.globals)) = false)
    (F : Fr h₀ env.locals s.heap m) (N : News h₀ env.locals s.heap ((it, revObj lst ((vs.length : Int) - 1)) :: news)) (hlt : ∀ p ∈ news, p.1 < it) (hm : (lst, W.listOf vs.toArray n) ∈ news)
    (J : Nat → Value → Prop) (hr : m xr = some r0) (h0 : J 0 r0)
    (step : ∀ i v t r nw h tk, i < vs.length → vs[vs.length - 1 - i]? = some v → J i r → (∀ p ∈ news, p ∈ nw) → Fr h₀ env.locals h (fun y => if y = xc then some v else if y = xi then some (.int (i : Nat) t) else if y = xr then some r else m y) → News h₀ env.locals h nw →
      wpAny (model prog w) A (execs body env) (StepR h₀ env.locals nw (fun m₂ => (∀ y : Str, y ≠ xi → y ≠ xc → y ≠ xr → m₂ y = m y) ∧ ∃ r', m₂ xr = some r' ∧ J (i + 1) r') { s with heap := h, toks := tk } (fun v s' => Q (.ret v) s') fun s' => Q .next s') E { s with heap := h, toks := tk })
    (done : ∀ h' tk (m' : Str → Option Value) r, Fr h₀ env.locals h' (fun y => if y = xr then some r else m' y) → News h₀ env.locals h' news → J vs.length r → Q .next { s with heap := h', toks := tk }) :
    wpAny (model prog w) A (call (.type "enumerate") [.ref it]) (fun xv s₁ => wpAny (model prog w) A (pyIter xv) (fun itv s₂ => codeAny (model prog w) A (.forLoop (.Tuple [.Name xi pk, .Name xc pv] x1 pt) itv body [] env) (fun r s' => match r with | .ok f => Q f s' | .error e => cameBackBy (model prog w) A env E e s') s₂) E s₁) E s := by
  refine forRev_c hh hE hxi hxc hp F N hlt hm (fun i m₁ => (∀ y : Str, y ≠ xi → y ≠ xc → y ≠ xr → m₁ y = m y) ∧ ∃ r, m₁ xr = some r ∧ J i r) ⟨fun _ _ _ _ => rfl, r0, hr, h0⟩ ?_ ?_
  · rintro i v t m₁ nw h tk hi hv ⟨hm₁, r, hr₁, hJ⟩ hsub F₂ N₂
    rw [map_turnX hr₁ hm₁] at F₂
    exact step i v t r nw h tk hi hv hJ hsub F₂ N₂
  · rintro h' tk m' F' N' ⟨hm₁, r, hr₁, hJ⟩
    rw [map_endX hr₁] at F'
    exact done h' tk m' r F' N' hJ
end
def hit (cs pcs : List Nat) (k : Nat) : Bool := match cs[cs.length - 1 - k]? with | some c => pcs.contains c | none => false
def PhiIs (cs pcs : List Nat) (i : Nat) (r : Value) : Prop :=
  ((List.range i).filter (hit cs pcs) = [] ∧ r = .ref 136) ∨ ∃ j t, (List.range i).filter (hit cs pcs) = [j] ∧ r = .int (-(j : Int)) t
def OneIs (cs pcs : List Nat) (v : Value) : Prop := PhiIs cs pcs cs.length v ∨ (2 ≤ ((List.range cs.length).filter (hit cs pcs)).length ∧ ∃ t, v = .str (Str.ofString "refused") t)
end
end Mine
namespace Mine
section
local macro_rules | `(tactic| k_room) => `(tactic| ((try simp only [depth_mark, depth_under_make, depth_under_kw, depth_in1, depth_deeper, depth_Ar, recursionLimit]); omega))
local macro_rules | `(tactic| walk_at "wpAt") => `(tactic| dsimp only)
local macro_rules | `(tactic| walk_at "wpAt") => `(tactic| (ks_step "exec Expr"; k_dflt (refine ks_wpAt_Expr_any ?_)))
local macro_rules | `(tactic| walk_at "wpAt") => `(tactic| (ks_step "eval Call"; k_dflt (refine ks_wpAt_MethodCall ?_)))
local macro_rules | `(tactic| k_units) => `(tactic| ((simp only [units_Ar, units_in1, units_deeper, cLine_is]); omega))
local macro_rules | `(tactic| k_mem) => `(tactic| assumption)
local macro_rules | `(tactic| k_all) => `(tactic| first | assumption | exact allLt_ne (by assumption))
local macro_rules | `(tactic| walk_at "compareOp IsNot int ref") => `(tactic| refine wpAny_isNot_other (by rfl) (by intro x; cases x) ?_)
local macro_rules | `(tactic| walk_at "subscriptTail") => `(tactic| (k_here; (with_reducible show wpAny _ _ (subscriptTail _ _ (Value.ref _) (Value.int _ _)) _ _ _); k_dflt (refine' back_c ?N ?m ?a ?b ?c ?_ ; (case N => k_asm); (case m => k_mem); (case a => omega); (case b => omega); (case c => omega)); k_whole; intro v' hv'))

local macro_rules | `(tactic| walk_at "setItem ref int") => `(tactic| (k_here; (with_reducible show wpAny _ _ (setItem (Value.ref _) (Value.int _ _) _) _ _ _); k_dflt (refine' setBack_c ?F ?N ?U ?a ?b ?c ?_ ; (case F => k_asm); (case N => k_asm); (case U => k_upd); (case a => omega); (case b => (try simp only [List.length_set]); omega); (case c => omega)); k_whole; intro h' F' N'; (try k_sweep)))
local macro_rules | `(tactic| k_lt $h) => `(tactic| (replace $h := allLt_of $h; (try simp only [AllLt, and_true] at $h:ident); try (first | (have lR' : AllLt _ _ := $h) | (have lR' : AllLt _ _ := And.right $h) | (have lR' : AllLt _ _ := And.right (And.right $h)) | (have lR' : AllLt _ _ := And.right (And.right (And.right $h))) | (have lR' : AllLt _ _ := And.right (And.right (And.right (And.right $h)))) | (have lR' : AllLt _ _ := And.right (And.right (And.right (And.right (And.right $h))))) | (have lR' : AllLt _ _ := And.right (And.right (And.right (And.right (And.right (And.right $h)))))) | (have lR' : AllLt _ _ := And.right (And.right (And.right (And.right (And.right (And.right (And.right $h))))))) | (have lR' : AllLt _ _ := And.right (And.right (And.right (And.right (And.right (And.right (And.right (And.right $h)))))))) | (have lR' : AllLt _ _ := And.right (And.right (And.right (And.right (And.right (And.right (And.right (And.right (And.right $h)))))))))  | (have lR' : AllLt _ _ := And.right (And.right (And.right (And.right (And.right (And.right (And.right (And.right (And.right (And.right $h))))))))))  | (have lR' : AllLt _ _ := And.right (And.right (And.right (And.right (And.right (And.right (And.right (And.right (And.right (And.right (And.right $h)))))))))))  | (have lR' : AllLt _ _ := And.right (And.right (And.right (And.right (And.right (And.right (And.right (And.right (And.right (And.right (And.right (And.right $h))))))))))))  | (have lR' : AllLt _ _ := And.right (And.right (And.right (And.right (And.right (And.right (And.right (And.right (And.right (And.right (And.right (And.right (And.right $h))))))))))))))))
local macro_rules | `(tactic| walk_at "call builtin:len") => `(tactic| (k_here; (with_reducible show wpAny _ _ (call (Value.builtin "len") [Value.ref _]) _ _ _); k_dflt (refine' len_c ?N ?m ?z ?_; (case N => k_asm); (case m => k_mem); (case z => omega)); k_whole; intro t' tk'))
local macro_rules | `(tactic| walk_at "call builtin:list.copy") => `(tactic| (k_here; k_dflt (refine' copyList_c ?F ?N ?m ?z ?_; (case F => k_asm); (case N => k_asm); (case m => k_mem); (case z => omega)); k_whole; intro D' h' F' N' l1; (try k_lt l1); (try k_sweep)))
local macro_rules | `(tactic| walk_at "delItem ref ref") => `(tactic| (k_here; k_dflt (refine' delSlice_c ?F ?N ?U ?a ?b ?z ?_; (case F => k_asm); (case N => k_asm); (case U => k_upd); (case a => omega); (case b => omega); (case z => omega)); k_whole; intro h' F' N'; (try k_sweep)))
local macro_rules | `(tactic| walk_at "subscriptTail Name Slice ref ref") => `(tactic| (k_here; (with_reducible show wpAny _ _ (subscriptTail _ (PySem.Expr.Slice _ _ none _) (Value.ref _) (Value.ref _)) _ _ _); k_dflt (first | (refine' sliceAll_c ?F ?N ?m ?z ?_ ?s ?t; (case F => k_asm); (case N => k_asm); (case m => k_mem); (case z => omega); (case s => with_unfolding_all rfl); (case t => kmk_pure)) | (refine' sliceUpto_c ?F ?N ?m ?a ?z ?_ ?s ?t; (case F => k_asm); (case N => k_asm); (case m => k_mem); (case a => omega); (case z => omega); (case s => with_unfolding_all rfl); (case t => kmk_pure))); intro D' h' F' N' l1; (try k_lt l1); (try k_sweep)))
local macro_rules | `(tactic| walk_at "call type:reversed") => `(tactic| (k_here; (with_reducible show wpAny _ _ (call (Value.type _) [Value.ref _]) _ _ _); k_dflt (refine' reversed_c ?F ?N ?m ?_; (case F => k_asm); (case N => k_asm); (case m => k_mem)); k_whole; intro D' h' F' N' l1; have l1' := l1; (try k_lt l1); (try k_sweep)))
local macro_rules | `(tactic| walk_at "getAttr ref") => `(tactic| (k_here; (with_reducible show wpAny _ _ (getAttr (Value.ref _) (PySem.Str.ofString "value") _) _ _ _); k_dflt (refine' getValue_c ?F ?N ?X ?a ?b ?c ?_; (case F => k_asm); (case N => k_asm); (case X => k_asm); (case a => k_mem); (case b => k_mem); (case c => assumption)); k_whole))
local macro_rules | `(tactic| walk_at "call builtin:isinstance") => `(tactic| (k_here; (with_reducible show wpAny _ _ (call _ [Value.ref _, Value.ref 67]) _ _ _); k_dflt (refine' isOp_c ?F ?N ?X ?a ?b ?_; (case F => k_asm); (case N => k_asm); (case X => k_asm); (case a => k_mem); (case b => k_mem)); k_whole))
local macro_rules | `(tactic| walk_at "compareOp Eq") => `(tactic| (k_dflt (refine' eqVal_c ?a ?b ?c ?d ?_; (case a => assumption); (case b => assumption); (case c => assumption); (case d => assumption)); k_whole))
local macro_rules | `(tactic| walk_at "subscriptTail") => `(tactic| (k_here; (with_reducible show wpAny _ _ (subscriptTail _ _ (Value.ref _) (Value.int _ _)) _ _ _); k_dflt (refine' backK_c ?N ?m ?x ?j ?a ?b ?c ?_ ; (case N => k_asm); (case m => k_mem); (case x => assumption); (case j => omega); (case a => omega); (case b => omega); (case c => omega)); k_whole))
variable {w : World} {s : Shared} {base : Heap} {outer : List Env} {p : Program} {loose : List Str} {mean : ExcName → Option Value} {mg mb : Str → Option Value}
variable {h₀ : Heap} {m : Str → Option Value} {news : List (Addr × Obj)} {Q : Value → Shared → Prop} {E : Value → Shared → Prop} {A₀ : Around}
variable {cn : Str} {nms : List (Str × NameKind)} {b1 b2 : Bool} {more : List (Str × Const)} {L fa : Addr} {cd : Value} {cl : List (Str × Addr)} {d u : Nat}
variable {v : Value} {t1 t2 : Tok}
variable {x dx lst a da : Addr} {ts : Tok} {vs : List Value} {n : Nat} {j : Int} {t : Tok} {k c : Nat} {rest : List (Addr × Obj)}
theorem isVal_inj {c1 c2 : Nat} {v : Value} (h1 : IsVal c1 v) (h2 : IsVal c2 v) (hc1 : c1 < 8) (hc2 : c2 < 8) : c1 = c2 := by
  unfold IsVal at h1 h2
  split at h1 <;> split at h2 <;> obtain ⟨t, e⟩ := h1 <;> obtain ⟨t', e'⟩ := h2 <;> rw [e] at e'
  · have e1 := (Value.str.inj e').1
    have := nameOf_inj (i := c1 / 2) (j := c2 / 2) (by omega) (by omega)
    rw [e1] at this
    simp at this
    omega
  · cases e'
  · cases e'
  · have e1 := (Value.int.inj e').1
    omega
theorem eqCall_c {p' a' dp da' : Addr} {c1 c2 : Nat} {v1 v2 : Value} {t1 t2 t3 t4 : Tok} (h8 : c1 < 8) (h8' : c2 < 8) (hp1 : (p', instObj (clsOf c1) dp) ∈ news) (hp2 : (dp, opDict w.params v1 t1 t2) ∈ news) (ha1 : (a', instObj (clsOf c2) da') ∈ news) (ha2 : (da', opDict w.params v2 t3 t4) ∈ news)
   (hv1 : IsVal c1 v1) (hv2 : IsVal c2 v2)
   (hd : d ≤ 400) (hu : u ≤ 100) (B : Below A₀ base outer h₀) (F : Fr h₀ L s.heap m) (N : News h₀ L s.heap news)
   (X : (Mine.hd.heap_39 w.params).In h₀) (T : Top p loose mean mg mb h₀)
   (h : ∀ h' tk, Fr h₀ L h' m → News h₀ L h' news → Q (.bool (decide (c1 = c2))) { s with heap := h', toks := tk }) :
   wpAny (model PR w) (Ar d u (EV cn nms b1 b2 more L fa cd cl :: outer)) (call (.ref 57) [.ref p', .ref a']) Q E s := by
  by_cases q1 : c1 % 2 = 0 <;> by_cases q2 : c2 % 2 = 0
  all_goals have hp0 := hp1
  all_goals have ha0 := ha1
  all_goals first | rw [show clsOf c1 = 126 from if_pos q1] at hp0 | rw [show clsOf c1 = 97 from if_neg q1] at hp0
  all_goals first | rw [show clsOf c2 = 126 from if_pos q2] at ha0 | rw [show clsOf c2 = 97 from if_neg q2] at ha0
  all_goals refine wpAny_call ?_
  all_goals k_enter
  all_goals k_steps
  · exact h _ _ (by assumption) (by assumption)
  · have e : decide (c1 = c2) = false := decide_eq_false (fun e => q2 (e ▸ q1))
    rw [e] at h
    exact h _ _ (by assumption) (by assumption)
  · have e : decide (c1 = c2) = false := decide_eq_false (fun e => q1 (e ▸ q2))
    rw [e] at h
    exact h _ _ (by assumption) (by assumption)
  · exact h _ _ (by assumption) (by assumption)
theorem eqOp_c {x' y' : Value} {c1 c2 : Nat} (o1 : OpIn w.params news x' c1) (o2 : OpIn w.params news y' c2)
   (hd : d ≤ 400) (hu : u ≤ 100) (B : Below A₀ base outer h₀) (F : Fr h₀ L s.heap m) (N : News h₀ L s.heap news)
   (X : (Mine.hd.heap_39 w.params).In h₀) (T : Top p loose mean mg mb h₀) {Q : Bool → Shared → Prop}
   (h : ∀ h' tk, Fr h₀ L h' m → News h₀ L h' news → Q (decide (c1 = c2)) { s with heap := h', toks := tk }) :
   wpAny (model PR w) (Ar d u (EV cn nms b1 b2 more L fa cd cl :: outer)) (eqBool x' y') Q E s := by
  obtain ⟨p', dp, t1, t2, v1, rfl, h8, hp1, hp2, hv1⟩ := o1
  obtain ⟨a', da', t3, t4, v2, rfl, h8', ha1, ha2, hv2⟩ := o2
  unfold eqBool
  refine wpAny_holding ?_
  refine wpAny_ite_split (fun hab => ?_) (fun _ => ?_)
  · have e : p' = a' := by have := eq_of_beq hab; injection this
    subst e
    have e1 := (N _ hp1).1.symm.trans (N _ ha1).1
    have e2 : dp = da' := by injection (Option.some.inj e1) with _ e; exact Option.some.inj e
    subst e2
    have e3 := Option.some.inj ((N _ hp2).1.symm.trans (N _ ha2).1)
    have e4 : v1 = v2 := by
      simp only [opDict, dictOf, Obj.mk.injEq, Data.dict.injEq] at e3
      simp at e3
      exact e3.1.2
    subst e4
    have e5 := isVal_inj hv1 hv2 h8 h8'
    refine wpAny_bind (wpAny_rule (wpAny_pure ?_))
    have e6 : decide (c1 = c2) = true := decide_eq_true e5
    rw [e6] at h
    exact h s.heap s.toks F N
  · refine wpAny_bind ?_
    by_cases q1 : c1 % 2 = 0 <;> by_cases q2 : c2 % 2 = 0
    all_goals have hp0 := hp1
    all_goals have ha0 := ha1
    all_goals first | rw [show clsOf c1 = 126 from if_pos q1] at hp0 | rw [show clsOf c1 = 97 from if_neg q1] at hp0
    all_goals first | rw [show clsOf c2 = 126 from if_pos q2] at ha0 | rw [show clsOf c2 = 97 from if_neg q2] at ha0
    all_goals (k_dflt (refine' cmp_K ?k1 ?k2 ?k3 ?k4 ?k5 ?k6 ?k7 ?k8 ?_; (case k1 => k_units); (case k2 => k_asm); (case k3 => k_asm); (case k4 => exact InstAt.of_news N hp0 hp2); (case k5 => k_typeOf); (case k6 => k_is); (case k7 => k_is); (case k8 => k_is)))
    all_goals refine eqCall_c h8 h8' hp1 hp2 ha1 ha2 hv1 hv2 hd hu B F N X T fun h' tk F' N' => ?_
    all_goals exact wpAny_truthy_bool (h h' tk F' N')
def EqI (w : World) (Inv : Heap → Prop) (A : Around) (s : Shared) (y x : Value) (b : Bool) : Prop :=
  ∀ h tk, Inv h → ∀ (E : Value → Shared → Prop) (Q : Bool → Shared → Prop), (∀ h' tk', Inv h' → Q b { s with heap := h', toks := tk' }) → wpAny (model PR w) A (eqBool y x) Q E { s with heap := h, toks := tk }
end
end Mine
namespace Mine
section
local macro_rules | `(tactic| k_room) => `(tactic| ((try simp only [depth_mark, depth_under_make, depth_under_kw, depth_in1, depth_deeper, depth_Ar, recursionLimit]); omega))
local macro_rules | `(tactic| walk_at "wpAt") => `(tactic| dsimp only)
local macro_rules | `(tactic| walk_at "wpAt") => `(tactic| (ks_step "exec Expr"; k_dflt (refine ks_wpAt_Expr_any ?_)))
local macro_rules | `(tactic| walk_at "wpAt") => `(tactic| (ks_step "eval Call"; k_dflt (refine ks_wpAt_MethodCall ?_)))
local macro_rules | `(tactic| k_units) => `(tactic| ((simp only [units_Ar, units_in1, units_deeper, cLine_is]); omega))
local macro_rules | `(tactic| k_mem) => `(tactic| assumption)
local macro_rules | `(tactic| k_all) => `(tactic| first | assumption | exact allLt_ne (by assumption))
variable {w : World} {s : Shared} {base : Heap} {outer : List Env} {p : Program} {loose : List Str} {mean : ExcName → Option Value} {mg mb : Str → Option Value}
variable {h₀ : Heap} {m : Str → Option Value} {news : List (Addr × Obj)} {Q : Value → Shared → Prop} {E : Value → Shared → Prop} {A₀ : Around}
variable {cn : Str} {nms : List (Str × NameKind)} {b1 b2 : Bool} {more : List (Str × Const)} {L fa : Addr} {cd : Value} {cl : List (Str × Addr)} {d u : Nat}
variable {v : Value} {t1 t2 : Tok}
variable {x dx lst a da : Addr} {ts : Tok} {vs : List Value} {n : Nat} {j : Int} {t : Tok} {k c : Nat} {rest : List (Addr × Obj)}
section
open Builtin MeetsSeq MeetsSeq2 MeetsSeq3 SeqRoads2 PySem.SeqAt
theorem contains_loopI {Inv : Heap → Prop} {A : Around} {s : Shared} {R : Result → Shared → Prop} (l : Addr) (items : Array Value) (n : Nat) (dd : Option Addr) (sl : Array (Option Value)) (x : Value) (e : Value → Bool)
    (hget : ∀ h, Inv h → h.get? l = some { cls := .type "list", dict := dd, data := .seq items n, slots := sl })
    (he : ∀ y, y ∈ items → EqI w Inv A.in1 s y x (e y)) (k : Nat) :
    ∀ (i : Nat) (h : Heap) (tk : Tok), items.size - i = k → Inv h → (∀ h' tk', Inv h' → R (.ok (.ret (.bool ((items.toList.drop i).any e)))) { s with heap := h', toks := tk' }) →
      wpAny (model PR w) A.in1 (Builtin.«list.__contains__.loop» ⟨[.ref l, x, rawInt i], []⟩) (fun fin s' => match fin with | .done f => R (.ok f) s' | .again c' => c'.quiet = true ∧ codeAny (model PR w) A c' R s') (fun e s' => R (.error e) s') { s with heap := h, toks := tk } := by
  induction k with
  | zero =>
    intro i hp tk hk hI h
    have hl := hget _ hI
    wp_walk using AutoSeq1.wpAny_loadPart' hl
    have hi : items[((i : Nat) : Int).toNat]? = none := by simp; omega
    have hd : items.toList.drop i = [] := by simp; omega
    rw [hd] at h
    rw [hi]
    wp_walk
    exact h _ _ hI
  | succ k ih =>
    intro i hp tk hk hI h
    have hl := hget _ hI
    wp_walk using AutoSeq1.wpAny_loadPart' hl
    have hlt : i < items.size := by omega
    have hi : items[((i : Nat) : Int).toNat]? = some items[i] := by simp [hlt]
    have hd : items.toList.drop i = items[i] :: items.toList.drop (i + 1) := by simp [List.drop_eq_getElem_cons, hlt]
    rw [hd] at h
    simp only [List.any_cons] at h
    rw [hi]
    refine wpAny_bind (he _ (Array.getElem_mem hlt) hp tk hI _ _ fun h₁ tk₁ hI₁ => ?_)
    cases hb : e items[i] with
    | true =>
      rw [hb] at h
      wp_walk
      exact h _ _ hI₁
    | false =>
      rw [hb] at h
      have hc : ((i : Int) + 1) = ((i + 1 : Nat) : Int) := by push_cast; rfl
      wp_walk
      rw [hc]
      exact ⟨plainId_quiet plain_contains_loop _, codeAny_builtin entry_contains_loop (by
        rw [Around.under_plainId plain_contains_loop _]
        exact ih (i + 1) _ _ (by omega) hI₁ (by simpa using h))⟩
theorem in_listI {Inv : Heap → Prop} {A : Around} {s : Shared} {E : Value → Shared → Prop} {Q : Value → Shared → Prop} (l : Addr) (items : Array Value) (n : Nat) (dd : Option Addr) (sl : Array (Option Value)) (x : Value) (e : Value → Bool)
    (hget : ∀ h, Inv h → h.get? l = some { cls := .type "list", dict := dd, data := .seq items n, slots := sl })
    (he : ∀ y, y ∈ items → EqI w Inv A.in1 s y x (e y)) (hI : Inv s.heap)
    (h : ∀ h' tk', Inv h' → Q (.bool (items.any e)) { s with heap := h', toks := tk' }) : wpAny (model PR w) A (compareOp .In x (.ref l)) Q E s := by
  show wpAny _ A (do return .bool (← contains (.ref l) x)) Q E s
  have hT : s.TypeIs (.ref l) "list" := ⟨_, hget _ hI, rfl⟩
  refine wpAny_bind (wpAny_contains_slot hT F.slot_list_contains ?_)
  refine wpAny_call (codeAny_call_builtin F.slot_list_contains.plain F.entry_list_contains (F.slot_list_contains.check _ _ _ _ _ _ _ _ hT (F.args_list_contains_2 _ _) ?_))
  have hl := hget _ hI
  wp_walk using AutoSeq1.wpAny_loadPart' hl
  refine ⟨plainId_quiet plain_contains_loop _, codeAny_builtin entry_contains_loop ?_⟩
  rw [Around.under_plainId plain_contains_loop _]
  exact contains_loopI (s := s) (R := callEnd (fun v s' => wpAny (model PR w) A (truthy v) (fun a s' => wpAny (model PR w) A (pure (Value.bool a)) Q E s') E s') E) l items n dd sl x e hget he _ 0 s.heap s.toks rfl hI fun h' tk' hI' => wpAny_truthy_bool (wpAny_pure (by simpa using h h' tk' hI'))
end
theorem opIn_inj {P : Params} {x' : Value} {c1 c2 : Nat} {h : Heap} (N : News h₀ L h news) (o1 : OpIn P news x' c1) (o2 : OpIn P news x' c2) : c1 = c2 := by
  obtain ⟨p', dp, t1, t2, v1, rfl, h8, hp1, hp2, hv1⟩ := o1
  obtain ⟨a', da', t3, t4, v2, e, h8', ha1, ha2, hv2⟩ := o2
  have e : p' = a' := by injection e
  subst e
  have e1 := (N _ hp1).1.symm.trans (N _ ha1).1
  have e2 : dp = da' := by injection (Option.some.inj e1) with _ e; exact Option.some.inj e
  subst e2
  have e3 := Option.some.inj ((N _ hp2).1.symm.trans (N _ ha2).1)
  have e4 : v1 = v2 := by
    simp only [opDict, dictOf, Obj.mk.injEq, Data.dict.injEq] at e3
    simp at e3
    exact e3.1.2
  subst e4
  exact isVal_inj hv1 hv2 h8 h8'
theorem any_codes {e : Value → Bool} {c : Nat} : ∀ {ps : List Value} {pcs : List Nat}, ps.length = pcs.length → (∀ (i : Nat) v c', ps[i]? = some v → pcs[i]? = some c' → e v = decide (c' = c)) → ps.any e = pcs.contains c
  | [], [], _, _ => rfl
  | v :: ps, c' :: pcs, hl, h => by
    have ih := any_codes (ps := ps) (pcs := pcs) (e := e) (c := c) (by simpa using hl) fun i v c' h1 h2 => h (i + 1) v c' (by simpa using h1) (by simpa using h2)
    have h0 := h 0 v c' rfl rfl
    rw [List.any_cons, ih, h0, List.contains_cons]
    congr 1
    by_cases q : c' = c
    · subst q; simp
    · rw [decide_eq_false q, beq_eq_false_iff_ne.mpr (fun q' => q q'.symm)]
  | [], _ :: _, hl, _ => nomatch hl
  | _ :: _, [], hl, _ => nomatch hl
open Classical in
theorem inOps_c {x' : Value} {c : Nat} {ps : List Value} {pcs : List Nat} {pl : Addr} {pn : Nat} (o1 : OpIn w.params news x' c) (hps : Ops w.params news ps pcs) (hpl : (pl, W.listOf ps.toArray pn) ∈ news)
   (hd : d ≤ 400) (hu : u ≤ 99) (B : Below A₀ base outer h₀) (F : Fr h₀ L s.heap m) (N : News h₀ L s.heap news)
   (X : (Mine.hd.heap_39 w.params).In h₀) (T : Top p loose mean mg mb h₀)
   (h : ∀ h' tk, Fr h₀ L h' m → News h₀ L h' news → Q (.bool (pcs.contains c)) { s with heap := h', toks := tk }) :
   wpAny (model PR w) (Ar d u (EV cn nms b1 b2 more L fa cd cl :: outer)) (compareOp .In x' (.ref pl)) Q E s := by
  have he : ∀ (i : Nat) v c', ps[i]? = some v → pcs[i]? = some c' → decide (OpIn w.params news v c) = decide (c' = c) := fun i v c' h1 h2 => by
    have o := hps.2 i v c' h1 h2
    by_cases q : c' = c
    · subst q; rw [decide_eq_true o, decide_eq_true rfl]
    · rw [decide_eq_false q, decide_eq_false fun o' => q (opIn_inj N o o')]
  refine in_listI (Inv := fun H => Fr h₀ L H m ∧ News h₀ L H news) pl ps.toArray pn none #[] x' (fun v => decide (OpIn w.params news v c)) (fun H I => (I.2 _ hpl).1) ?_ ⟨F, N⟩ ?_
  · intro y hy H tk I E' Q' k
    obtain ⟨i, hi, e⟩ := List.mem_iff_getElem.mp (show y ∈ ps by simpa using hy)
    have h1 : ps[i]? = some y := by rw [← e]; exact List.getElem?_eq_getElem hi
    have h2 : pcs[i]? = some (pcs[i]'(hps.1 ▸ hi)) := List.getElem?_eq_getElem _
    have o2 := hps.2 i y _ h1 h2
    refine eqOp_c (u := u + 1) o2 o1 hd (by omega) B I.1 I.2 X T fun h' tk' F' N' => ?_
    have e1 := he i y _ h1 h2
    rw [← e1]
    exact k h' tk' ⟨F', N'⟩
  · intro h' tk' I
    have e2 : ps.toArray.any (fun v => decide (OpIn w.params news v c)) = pcs.contains c := by rw [List.any_toArray]; exact any_codes hps.1 he
    rw [e2]
    exact h h' tk' I.1 I.2
end
end Mine
namespace Mine
section
local macro_rules | `(tactic| k_room) => `(tactic| ((try simp only [depth_mark, depth_under_make, depth_under_kw, depth_in1, depth_deeper, depth_Ar, recursionLimit]); omega))
local macro_rules | `(tactic| walk_at "wpAt") => `(tactic| dsimp only)
local macro_rules | `(tactic| walk_at "wpAt") => `(tactic| (ks_step "exec Expr"; k_dflt (refine ks_wpAt_Expr_any ?_)))
local macro_rules | `(tactic| walk_at "wpAt") => `(tactic| (ks_step "eval Call"; k_dflt (refine ks_wpAt_MethodCall ?_)))
local macro_rules | `(tactic| k_units) => `(tactic| ((simp only [units_Ar, units_in1, units_deeper, cLine_is]); omega))
local macro_rules | `(tactic| k_mem) => `(tactic| assumption)
local macro_rules | `(tactic| k_all) => `(tactic| first | assumption | exact allLt_ne (by assumption))
variable {w : World} {s : Shared} {base : Heap} {outer : List Env} {p : Program} {loose : List Str} {mean : ExcName → Option Value} {mg mb : Str → Option Value}
variable {h₀ : Heap} {m : Str → Option Value} {news : List (Addr × Obj)} {Q : Value → Shared → Prop} {E : Value → Shared → Prop} {A₀ : Around}
variable {cn : Str} {nms : List (Str × NameKind)} {b1 b2 : Bool} {more : List (Str × Const)} {L fa : Addr} {cd : Value} {cl : List (Str × Addr)} {d u : Nat}
abbrev ArG (d u : Nat) (g : List Code) (outer : List Env) : Around := ⟨none, d, some outer, some g, u⟩
theorem depth_ArG (d u : Nat) (g : List Code) (outer : List Env) : (ArG d u g outer).depth = d := rfl
theorem units_ArG (d u : Nat) (g : List Code) (outer : List Env) : (ArG d u g outer).units = u := rfl
end
end Mine
namespace Mine
section
local macro_rules | `(tactic| k_room) => `(tactic| ((try simp only [depth_mark, depth_under_make, depth_under_kw, depth_in1, depth_deeper, depth_Ar, recursionLimit]); omega))
local macro_rules | `(tactic| walk_at "wpAt") => `(tactic| dsimp only)
local macro_rules | `(tactic| walk_at "wpAt") => `(tactic| (ks_step "exec Expr"; k_dflt (refine ks_wpAt_Expr_any ?_)))
local macro_rules | `(tactic| walk_at "wpAt") => `(tactic| (ks_step "eval Call"; k_dflt (refine ks_wpAt_MethodCall ?_)))
local macro_rules | `(tactic| k_units) => `(tactic| ((simp only [units_Ar, units_in1, units_deeper, cLine_is]); omega))
local macro_rules | `(tactic| k_mem) => `(tactic| assumption)
local macro_rules | `(tactic| k_all) => `(tactic| first | assumption | exact allLt_ne (by assumption))
local macro_rules | `(tactic| walk_at "call type:reversed") => `(tactic| (k_here; (with_reducible show wpAny _ _ (call (Value.type _) [Value.ref _]) _ _ _); k_dflt (refine' reversed_c ?F ?N ?m ?_; (case F => k_asm); (case N => k_asm); (case m => k_mem)); k_whole; intro D' h' F' N' l1; have l1' := l1; (try k_lt l1); (try k_sweep)))
local macro_rules | `(tactic| walk_at "getAttr ref") => `(tactic| (k_here; (with_reducible show wpAny _ _ (getAttr (Value.ref _) (PySem.Str.ofString "value") _) _ _ _); k_dflt (refine' getValue_c ?F ?N ?X ?a ?b ?c ?_; (case F => k_asm); (case N => k_asm); (case X => k_asm); (case a => k_mem); (case b => k_mem); (case c => assumption)); k_whole))
local macro_rules | `(tactic| walk_at "call builtin:isinstance") => `(tactic| (k_here; (with_reducible show wpAny _ _ (call _ [Value.ref _, Value.ref 67]) _ _ _); k_dflt (refine' isOp_c ?F ?N ?X ?a ?b ?_; (case F => k_asm); (case N => k_asm); (case X => k_asm); (case a => k_mem); (case b => k_mem)); k_whole))
local macro_rules | `(tactic| walk_at "compareOp Eq") => `(tactic| (k_dflt (refine' eqVal_c ?a ?b ?c ?d ?_; (case a => assumption); (case b => assumption); (case c => assumption); (case d => assumption)); k_whole))
local macro_rules | `(tactic| walk_at "subscriptTail") => `(tactic| (k_here; (with_reducible show wpAny _ _ (subscriptTail _ _ (Value.ref _) (Value.int _ _)) _ _ _); k_dflt (refine' backK_c ?N ?m ?x ?j ?a ?b ?c ?_ ; (case N => k_asm); (case m => k_mem); (case x => assumption); (case j => omega); (case a => omega); (case b => omega); (case c => omega)); k_whole))
local macro_rules | `(tactic| k_room) => `(tactic| ((try simp only [depth_mark, depth_under_make, depth_under_kw, depth_in1, depth_deeper, depth_Ar, depth_ArG, recursionLimit]); omega))
local macro_rules | `(tactic| k_units) => `(tactic| ((simp only [units_Ar, units_ArG, units_in1, units_deeper, cLine_is]); omega))
variable {w : World} {s : Shared} {base : Heap} {outer : List Env} {p : Program} {loose : List Str} {mean : ExcName → Option Value} {mg mb : Str → Option Value}
variable {h₀ : Heap} {m : Str → Option Value} {news : List (Addr × Obj)} {Q : Value → Shared → Prop} {E : Value → Shared → Prop} {A₀ : Around}
variable {cn : Str} {nms : List (Str × NameKind)} {b1 b2 : Bool} {more : List (Str × Const)} {L fa : Addr} {cd : Value} {cl : List (Str × Addr)} {d u : Nat}
variable {v : Value} {t1 t2 : Tok}
variable {x dx lst a da : Addr} {ts : Tok} {vs : List Value} {n : Nat} {j : Int} {t : Tok} {k c : Nat} {rest : List (Addr × Obj)}
theorem reprVar_c {a' da' : Addr} {c : Nat} {v : Value} {t1 t2 : Tok} {g : List Code} (q : c % 2 = 0) (ha1 : (a', instObj (clsOf c) da') ∈ news) (ha2 : (da', opDict w.params v t1 t2) ∈ news) (hv : IsVal c v)
   (hd : d ≤ 400) (hu : u ≤ 100) (B : Below A₀ base outer h₀) (F : Fr h₀ L s.heap m) (N : News h₀ L s.heap news)
   (X : (Mine.hd.heap_39 w.params).In h₀) (T : Top p loose mean mg mb h₀)
   (h : ∀ h' tk t, Fr h₀ L h' m → News h₀ L h' news → Q (.str (nameOf (c / 2)) t) { s with heap := h', toks := tk }) :
   wpAny (model PR w) (ArG d u g (EV cn nms b1 b2 more L fa cd cl :: outer)) (call (.ref 64) [.ref a']) Q E s := by
  obtain ⟨t, rfl⟩ : ∃ t, v = .str (nameOf (c / 2)) t := by unfold IsVal at hv; rw [if_pos q] at hv; exact hv
  have ha0 := ha1
  rw [show clsOf c = 126 from if_pos q] at ha0
  refine wpAny_call ?_
  k_enter
  k_steps
  exact h _ _ _ (by assumption) (by assumption)
theorem reprLit_c {a' da' : Addr} {c : Nat} {v : Value} {t1 t2 : Tok} {g : List Code} (hc8 : c < 8) (q : ¬ c % 2 = 0) (ha1 : (a', instObj (clsOf c) da') ∈ news) (ha2 : (da', opDict w.params v t1 t2) ∈ news) (hv : IsVal c v)
   (hd : d ≤ 400) (hu : u ≤ 100) (B : Below A₀ base outer h₀) (F : Fr h₀ L s.heap m) (N : News h₀ L s.heap news)
   (X : (Mine.hd.heap_39 w.params).In h₀) (T : Top p loose mean mg mb h₀)
   (h : ∀ h' tk t, Fr h₀ L h' m → News h₀ L h' news → Q (.str (Str.ofString (toString ((c / 2 : Nat) : Int))) t) { s with heap := h', toks := tk }) :
   wpAny (model PR w) (ArG d u g (EV cn nms b1 b2 more L fa cd cl :: outer)) (call (.ref 94) [.ref a']) Q E s := by
  obtain ⟨t, rfl⟩ : ∃ t, v = .int ((c / 2 : Nat) : Int) t := by unfold IsVal at hv; rw [if_neg q] at hv; exact hv
  have ha0 := ha1
  rw [show clsOf c = 97 from if_neg q] at ha0
  refine wpAny_call ?_
  k_enter
  k_steps
  exact h _ _ _ (by assumption) (by assumption)
end
end Mine
namespace Mine
section
local macro_rules | `(tactic| k_room) => `(tactic| ((try simp only [depth_mark, depth_under_make, depth_under_kw, depth_in1, depth_deeper, depth_Ar, recursionLimit]); omega))
local macro_rules | `(tactic| walk_at "wpAt") => `(tactic| dsimp only)
local macro_rules | `(tactic| walk_at "wpAt") => `(tactic| (ks_step "exec Expr"; k_dflt (refine ks_wpAt_Expr_any ?_)))
local macro_rules | `(tactic| walk_at "wpAt") => `(tactic| (ks_step "eval Call"; k_dflt (refine ks_wpAt_MethodCall ?_)))
local macro_rules | `(tactic| k_units) => `(tactic| ((simp only [units_Ar, units_in1, units_deeper, cLine_is]); omega))
local macro_rules | `(tactic| k_mem) => `(tactic| assumption)
local macro_rules | `(tactic| k_all) => `(tactic| first | assumption | exact allLt_ne (by assumption))
local macro_rules | `(tactic| walk_at "call type:reversed") => `(tactic| (k_here; (with_reducible show wpAny _ _ (call (Value.type _) [Value.ref _]) _ _ _); k_dflt (refine' reversed_c ?F ?N ?m ?_; (case F => k_asm); (case N => k_asm); (case m => k_mem)); k_whole; intro D' h' F' N' l1; have l1' := l1; (try k_lt l1); (try k_sweep)))
local macro_rules | `(tactic| walk_at "getAttr ref") => `(tactic| (k_here; (with_reducible show wpAny _ _ (getAttr (Value.ref _) (PySem.Str.ofString "value") _) _ _ _); k_dflt (refine' getValue_c ?F ?N ?X ?a ?b ?c ?_; (case F => k_asm); (case N => k_asm); (case X => k_asm); (case a => k_mem); (case b => k_mem); (case c => assumption)); k_whole))
local macro_rules | `(tactic| walk_at "call builtin:isinstance") => `(tactic| (k_here; (with_reducible show wpAny _ _ (call _ [Value.ref _, Value.ref 67]) _ _ _); k_dflt (refine' isOp_c ?F ?N ?X ?a ?b ?_; (case F => k_asm); (case N => k_asm); (case X => k_asm); (case a => k_mem); (case b => k_mem)); k_whole))
local macro_rules | `(tactic| walk_at "compareOp Eq") => `(tactic| (k_dflt (refine' eqVal_c ?a ?b ?c ?d ?_; (case a => assumption); (case b => assumption); (case c => assumption); (case d => assumption)); k_whole))
local macro_rules | `(tactic| walk_at "subscriptTail") => `(tactic| (k_here; (with_reducible show wpAny _ _ (subscriptTail _ _ (Value.ref _) (Value.int _ _)) _ _ _); k_dflt (refine' backK_c ?N ?m ?x ?j ?a ?b ?c ?_ ; (case N => k_asm); (case m => k_mem); (case x => assumption); (case j => omega); (case a => omega); (case b => omega); (case c => omega)); k_whole))
local macro_rules | `(tactic| k_room) => `(tactic| ((try simp only [depth_mark, depth_under_make, depth_under_kw, depth_in1, depth_deeper, depth_Ar, depth_ArG, recursionLimit]); omega))
local macro_rules | `(tactic| k_units) => `(tactic| ((simp only [units_Ar, units_ArG, units_in1, units_deeper, cLine_is]); omega))
variable {w : World} {s : Shared} {base : Heap} {outer : List Env} {p : Program} {loose : List Str} {mean : ExcName → Option Value} {mg mb : Str → Option Value}
variable {h₀ : Heap} {m : Str → Option Value} {news : List (Addr × Obj)} {Q : Value → Shared → Prop} {E : Value → Shared → Prop} {A₀ : Around}
variable {cn : Str} {nms : List (Str × NameKind)} {b1 b2 : Bool} {more : List (Str × Const)} {L fa : Addr} {cd : Value} {cl : List (Str × Addr)} {d u : Nat}
variable {v : Value} {t1 t2 : Tok}
variable {x dx lst a da : Addr} {ts : Tok} {vs : List Value} {n : Nat} {j : Int} {t : Tok} {k c : Nat} {rest : List (Addr × Obj)}
section
variable {prog : Program} {A : Around}
theorem reprObj_K {K : Frag} {x C f b : Nat} {ox od : Obj} {Q : Str → Shared → Prop} (hu : A.units < cLine) (X : K.In s.heap) (I : W.InstAt s.heap x ox C od) (hs : findIn K (.ref C) (Str.ofString "__repr__") = some (some (.ref f))) (hf : isFn K (.ref f) = true) (hb : b ≤ sizeLine)
    (h : wpAny (model prog w) A (call (.ref f) [.ref x]) (fun v s' => ∃ y u, v = .str y u ∧ Q y s') E s) : wpAny (model prog w) A (pyReprUnder b (.ref x)) Q E s := by
  refine wpAny_pyReprUnder_ref hb ?_
  unfold pyReprObjUnder pyReprObjBy
  refine wpAny_bind (wpAny_cRoomFor hu ?_)
  refine wpAny_bind (m := specialOf (.ref x) (Str.ofString "__repr__")) (wpAny_bind (I.type.here ((looks_findIn X hs).here ?_)))
  simp only [Option.isNone, Bool.false_eq_true, if_false]
  have fin : wpAny (model prog w) A (call (.ref f) ([.ref x] ++ []) >>= fun v => pure (some v)) (fun r s' => ∃ y u, r = some (.str y u) ∧ Q y s') E s :=
    wpAny_bind (wpAny_mono h (fun v s' ⟨y, u, e, hq⟩ => wpAny_pure ⟨y, u, by rw [e], hq⟩) fun _ _ h' => h')
  have big : wpAny (model prog w) A (callSpecialIfBoundBy? (fun g first => match reprUnder? g, first with
    | some twin, [self] => call twin [self, rawInt b]
    | _, _ => call g (first ++ [])) (.ref x) (Str.ofString "__repr__")) (fun r s' => ∃ y u, r = some (.str y u) ∧ Q y s') E s := by
    simp only [callSpecialIfBoundBy?, bindSpecialIfBound?]
    refine wpAny_holding (wpAny_bind (wpAny_bind (m := specialOf (.ref x) (Str.ofString "__repr__")) (wpAny_bind (I.type.here ((looks_findIn X hs).here ?_)))))
    refine wpAny_bind (wpAny_askSetting (wpAny_ite ?_))
    split
    · exact wpAny_bind ((bind_fn X _ (beq_iff_eq.mp hf)).here (wpAny_pure (by exact fin)))
    · exact wpAny_tryCatch (wpAny_bind ((bind_fn X _ (beq_iff_eq.mp hf)).here (wpAny_pure (by exact fin))))
  refine wpAny_bind (wpAny_mono big (fun r s' hr => ?_) fun _ _ e => e)
  obtain ⟨y, u, rfl, hq⟩ := hr
  exact wpAny_bind (wpAny_isInstance (T := "str") (b := true) rfl isSubtype_str_str (wpAny_pure ⟨y, u, rfl, hq⟩))
end
def textOf (c : Nat) : Str := if c % 2 = 0 then nameOf (c / 2) else Str.ofString (toString ((c / 2 : Nat) : Int))
def ElRepr (w : World) (s : Shared) (A : Around) (h₀ : Heap) (L : Addr) (m : Str → Option Value) (news : List (Addr × Obj)) (x : Value) (t : Str) : Prop :=
  ∀ (b : Nat) (nw : List (Addr × Obj)) (h : Heap) (tk : Tok) (E : Value → Shared → Prop) (Q : Str → Shared → Prop), b ≤ sizeLine → (∀ p ∈ news, p ∈ nw) → Fr h₀ L h m → News h₀ L h nw →
    (∀ h' tk', Fr h₀ L h' m → News h₀ L h' nw → Q t { s with heap := h', toks := tk' }) → wpAny (model PR w) A (pyReprUnder b x) Q E { s with heap := h, toks := tk }
theorem elRepr_c {x' : Value} {c : Nat} {g : List Code} (o : OpIn w.params news x' c) (hd : d ≤ 400) (hu : u ≤ 100) (B : Below A₀ base outer h₀) (X : (Mine.hd.heap_39 w.params).In h₀) (T : Top p loose mean mg mb h₀) :
   ElRepr w s (ArG d u g (EV cn nms b1 b2 more L fa cd cl :: outer)) h₀ L m news x' (textOf c) := by
  intro b nw H tk E' Q' hb hsub F N k
  obtain ⟨a, da, t1, t2, v, rfl, h8, ha1, ha2, hv⟩ := o
  replace ha1 := hsub _ ha1
  replace ha2 := hsub _ ha2
  by_cases q : c % 2 = 0
  · have ha0 := ha1
    rw [show clsOf c = 126 from if_pos q] at ha0
    rw [show textOf c = nameOf (c / 2) from if_pos q] at k
    refine reprObj_K (K := Mine.hd.heap_39 w.params) (f := 64) ?_ (X.keeps F.keep) (InstAt.of_news N ha0 ha2) ?_ ?_ hb ?_
    · k_units
    · k_is
    · k_is
    · exact reprVar_c q ha1 ha2 hv hd hu B F N X T fun h' tk t F' N' => ⟨_, _, rfl, k h' tk F' N'⟩
  · have ha0 := ha1
    rw [show clsOf c = 97 from if_neg q] at ha0
    rw [show textOf c = Str.ofString (toString ((c / 2 : Nat) : Int)) from if_neg q] at k
    refine reprObj_K (K := Mine.hd.heap_39 w.params) (f := 94) ?_ (X.keeps F.keep) (InstAt.of_news N ha0 ha2) ?_ ?_ hb ?_
    · k_units
    · k_is
    · k_is
    · exact reprLit_c h8 q ha1 ha2 hv hd hu B F N X T fun h' tk t F' N' => ⟨_, _, rfl, k h' tk F' N'⟩
end
end Mine
namespace Mine
section
local macro_rules | `(tactic| k_room) => `(tactic| ((try simp only [depth_mark, depth_under_make, depth_under_kw, depth_in1, depth_deeper, depth_Ar, recursionLimit]); omega))
local macro_rules | `(tactic| walk_at "wpAt") => `(tactic| dsimp only)
local macro_rules | `(tactic| walk_at "wpAt") => `(tactic| (ks_step "exec Expr"; k_dflt (refine ks_wpAt_Expr_any ?_)))
local macro_rules | `(tactic| walk_at "wpAt") => `(tactic| (ks_step "eval Call"; k_dflt (refine ks_wpAt_MethodCall ?_)))
local macro_rules | `(tactic| k_units) => `(tactic| ((simp only [units_Ar, units_in1, units_deeper, cLine_is]); omega))
local macro_rules | `(tactic| k_mem) => `(tactic| assumption)
local macro_rules | `(tactic| k_all) => `(tactic| first | assumption | exact allLt_ne (by assumption))
local macro_rules | `(tactic| walk_at "call type:reversed") => `(tactic| (k_here; (with_reducible show wpAny _ _ (call (Value.type _) [Value.ref _]) _ _ _); k_dflt (refine' reversed_c ?F ?N ?m ?_; (case F => k_asm); (case N => k_asm); (case m => k_mem)); k_whole; intro D' h' F' N' l1; have l1' := l1; (try k_lt l1); (try k_sweep)))
local macro_rules | `(tactic| walk_at "getAttr ref") => `(tactic| (k_here; (with_reducible show wpAny _ _ (getAttr (Value.ref _) (PySem.Str.ofString "value") _) _ _ _); k_dflt (refine' getValue_c ?F ?N ?X ?a ?b ?c ?_; (case F => k_asm); (case N => k_asm); (case X => k_asm); (case a => k_mem); (case b => k_mem); (case c => assumption)); k_whole))
local macro_rules | `(tactic| walk_at "call builtin:isinstance") => `(tactic| (k_here; (with_reducible show wpAny _ _ (call _ [Value.ref _, Value.ref 67]) _ _ _); k_dflt (refine' isOp_c ?F ?N ?X ?a ?b ?_; (case F => k_asm); (case N => k_asm); (case X => k_asm); (case a => k_mem); (case b => k_mem)); k_whole))
local macro_rules | `(tactic| walk_at "compareOp Eq") => `(tactic| (k_dflt (refine' eqVal_c ?a ?b ?c ?d ?_; (case a => assumption); (case b => assumption); (case c => assumption); (case d => assumption)); k_whole))
local macro_rules | `(tactic| walk_at "subscriptTail") => `(tactic| (k_here; (with_reducible show wpAny _ _ (subscriptTail _ _ (Value.ref _) (Value.int _ _)) _ _ _); k_dflt (refine' backK_c ?N ?m ?x ?j ?a ?b ?c ?_ ; (case N => k_asm); (case m => k_mem); (case x => assumption); (case j => omega); (case a => omega); (case b => omega); (case c => omega)); k_whole))
local macro_rules | `(tactic| k_room) => `(tactic| ((try simp only [depth_mark, depth_under_make, depth_under_kw, depth_in1, depth_deeper, depth_Ar, depth_ArG, recursionLimit]); omega))
local macro_rules | `(tactic| k_units) => `(tactic| ((simp only [units_Ar, units_ArG, units_in1, units_deeper, cLine_is]); omega))
variable {w : World} {s : Shared} {base : Heap} {outer : List Env} {p : Program} {loose : List Str} {mean : ExcName → Option Value} {mg mb : Str → Option Value}
variable {h₀ : Heap} {m : Str → Option Value} {news : List (Addr × Obj)} {Q : Value → Shared → Prop} {E : Value → Shared → Prop} {A₀ : Around}
variable {cn : Str} {nms : List (Str × NameKind)} {b1 b2 : Bool} {more : List (Str × Const)} {L fa : Addr} {cd : Value} {cl : List (Str × Addr)} {d u : Nat}
variable {v : Value} {t1 t2 : Tok}
variable {x dx lst a da : Addr} {ts : Tok} {vs : List Value} {n : Nat} {j : Int} {t : Tok} {k c : Nat} {rest : List (Addr × Obj)}
theorem under_loop {g : List Code} (args : Args) : (ArG d u g outer).under (.builtin "list.__repr__.loop" args) = ArG (d + 1) (u + 1) (.builtin "list.__repr__.loop" args :: g) outer := by
  have e1 : (Code.builtin "list.__repr__.loop" args).weight = 1 := by
    unfold Code.weight
    rw [isGuard_list_loop]
    rfl
  have e2 : (Code.builtin "list.__repr__.loop" args).cUnits = 1 := by
    first | rfl | simp [Code.cUnits, Code.frames, Code.isFrame]
  unfold Around.under
  rw [e1, e2, show pushGuards (Code.builtin "list.__repr__.loop" args).guards (ArG d u g outer).guards = some (.builtin "list.__repr__.loop" args :: g) by simp [Code.guards, isGuard_list_loop, pushGuards]]
  rfl
section
open Builtin Builtin.List
theorem reprLoop_c {A : Around} {a P : Addr} {items : Array Value} {na : Nat} {ts : List Str} {b : Nat} {R : Result → Shared → Prop} (hlen : ts.length = items.size)
    (hT : ∀ (args : Args) (i : Nat) (x : Value), items[i]? = some x → ∃ t, ts[i]? = some t ∧ ElRepr w s (A.under (.builtin "list.__repr__.loop" args)) h₀ L m news x t)
    (ha : (a, W.listOf items na) ∈ news) (hP : ∀ p ∈ news, p.1 ≠ P)
    (hsz : b + (listText ts).length ≤ sizeLine)
    (hR : ∀ h' u tk, Fr h₀ L h' m → News h₀ L h' news → R (.ok (.ret (.str (listText ts) u))) { s with heap := h', toks := tk }) :
    ∀ (k i : Nat) (h : Heap) (tk : Tok) (acc : Array Value) (c : Nat) (done : List (Str × Tok)), items.size - i = k → i ≤ items.size →
    Fr h₀ L h m → News h₀ L h ((P, W.listOf acc c) :: news) → acc.toList = strValues done → done.map (·.1) = ts.take i →
    codeAny (model PR w) A (.builtin "list.__repr__.loop" ⟨[.ref a, rawInt i, .ref P, rawInt ((b + piled (ts.take i) : Nat) : Int)], []⟩) R { s with heap := h, toks := tk } := by
  have hX : (listText ts).length = (textFrom 0 "[" ts).length + 1 := by
    show (textFrom 0 "[" ts ++ "]").length = _
    rw [strLen_append]; rfl
  have hL := textFrom_len ts 0 "["
  have hsz1 : items.size ≤ sizeLine := by
    have h1 := hL.1
    rw [if_neg (Nat.lt_irrefl 0)] at h1
    omega
  have hsz2 : ∀ t ∈ ts, t.length ≤ sizeLine := fun t ht => by
    have h2 := hL.2.1 t ht
    omega
  have hsz3 : (listText ts).length ≤ sizeLine := by omega
  have hp3 := piled_le_listText ts
  intro k
  induction k with
  | zero =>
    intro i h tk acc c done hk hi F N hacc hdone
    have hin : i = items.size := by omega
    have N' : News h₀ L h news := fun p hp => N p (.tail _ hp)
    refine codeAny_builtin PySem.F.entry_list_repr_loop ?_
    show wpAny _ _ («list.__repr__.loop» ⟨[.ref a, .int i 0, .ref P, .int ((b + piled (ts.take i) : Nat) : Int) 0], []⟩) _ _ _
    rw [repr_loop_tree]
    refine wpAny_bind (wpAny_listItems (N' _ ha).1 rfl ?_)
    have hnone : items[(i : Int).toNat]? = none := by simp [hin]
    simp only [hnone]
    unfold reprEnd
    refine wpAny_bind (wpAny_listItems (N _ (.head _)).1 rfl ?_)
    rw [hacc, repr_fold]
    refine wpAny_bind (wpAny_pure ?_)
    have hall : done.map (·.1) = ts := by rw [hdone, hin, ← hlen, List.take_length]
    rw [hall]
    refine wpAny_bind (wpAny_mkStr (wpAny_pure ?_) hsz3)
    exact hR h _ _ F N'
  | succ k ih =>
    intro i h tk acc c done hk hi F N hacc hdone
    have hlt : i < items.size := by omega
    obtain ⟨t, ht, hrep⟩ := hT _ i items[i] (by simp [hlt])
    have hp1 := piled_take_succ ht
    have hp2 := piled_take_le ts (i + 1)
    refine codeAny_builtin PySem.F.entry_list_repr_loop ?_
    show wpAny _ _ («list.__repr__.loop» ⟨[.ref a, .int i 0, .ref P, .int ((b + piled (ts.take i) : Nat) : Int) 0], []⟩) _ _ _
    rw [repr_loop_tree]
    refine wpAny_bind (wpAny_listItems (N _ (.tail _ ha)).1 rfl ?_)
    have hsome : items[(i : Int).toNat]? = some items[i] := by simp [hlt]
    simp only [hsome]
    rw [Int.toNat_natCast]
    refine wpAny_bind (wpAny_holding (hrep (b + piled (ts.take i) + 1) _ h tk _ _ (by omega) (fun p hp => .tail _ hp) F N fun h₁ tk₁ F₁ N₁ => ?_))
    refine wpAny_bind (wpAny_mkStr ?_ (hsz2 t (List.mem_of_getElem? ht)))
    refine wpAny_bind ?_
    show wpAny _ _ (updateSeq P _) _ _ _
    have hasz : acc.size ≤ sizeLine := by
      have e1 : acc.toList.length = acc.size := by simp
      have e2 : (strValues done).length = done.length := by simp [strValues]
      have e3 : done.length = (ts.take i).length := by rw [← hdone, List.length_map]
      have e4 : (ts.take i).length ≤ i := by rw [List.length_take]; omega
      rw [hacc] at e1; omega
    have z := N₁ _ (.head _)
    refine wpAny_updateSeq z.1 rfl (wpAny_pure ⟨PySem.F.quiet_list_repr_loop _, ?_⟩) hasz
    have e1 : ((i : Int) + 1) = ((i + 1 : Nat) : Int) := by omega
    have e2 : b + piled (ts.take i) + (t.length + 2) = b + piled (ts.take (i + 1)) := by omega
    rw [e1, e2]
    refine ih (i + 1) _ _ (acc.push (.str t tk₁)) (c + 1) (done ++ [(t, tk₁)]) (by omega) hlt (F₁.change (Heap.SameBut.update ..) z.2.1 z.2.2) ?_ (by simp [hacc, strValues]) (by simp [List.take_add_one, ht, hdone])
    intro p hp
    rcases List.mem_cons.mp hp with rfl | hp
    · refine ⟨(Heap.get?_update_self (Obj.mapSeq fun x => x.push (Value.str t tk₁)) z.1 rfl).trans ?_, z.2⟩
      simp [Obj.mapSeq, W.listOf]
    · exact ⟨(Heap.get?_update_ne _ _ _ _ (hP p hp)).trans (N₁ _ (.tail _ hp)).1, (N₁ _ (.tail _ hp)).2⟩
theorem reprList_c {a : Addr} {x : Value} {l : List Value} {na : Nat} {ts : List Str} {Q : Value → Shared → Prop} (hlen : ts.length = (x :: l).length)
    (hT : ∀ (args : Args) (i : Nat) (y : Value), (x :: l)[i]? = some y → ∃ t, ts[i]? = some t ∧ ElRepr w s (ArG (d + 1) (u + 1) [.builtin "list.__repr__.loop" args] outer) h₀ L m news y t)
    (ha : (a, W.listOf (x :: l).toArray na) ∈ news) (hsz : (listText ts).length ≤ sizeLine) (F : Fr h₀ L s.heap m) (N : News h₀ L s.heap news)
    (hR : ∀ h' u tk, Fr h₀ L h' m → News h₀ L h' news → Q (.str (listText ts) u) { s with heap := h', toks := tk }) :
    wpAny (model PR w) (ArG d u [] outer) (call (.builtin "list.__repr__") [.ref a]) Q E s := by
  refine wpAny_call (codeAny_call_builtin PySem.F.slot_list_repr.plain PySem.F.entry_list_repr (PySem.F.slot_list_repr.check _ _ _ _ _ _ _ _ ⟨_, (N _ ha).1, rfl⟩ (PySem.F.args_list_repr_1 _) ?_))
  show wpAny _ _ (listReprAt 0 ⟨[.ref a], []⟩) _ _ _
  refine wpAny_list_repr_head (A := (ArG d u [] outer).in1) (g := []) rfl (fun v rest kw hm => nomatch hm) (N _ ha).1 rfl ?_
  refine wpAny_bind (m := newList []) (wpAny_newObj_type ?_)
  refine wpAny_pure ⟨PySem.F.quiet_list_repr_loop _, ?_⟩
  have old : ∀ p ∈ news, p.1 ≠ s.heap.objs.size := fun p hp => Nat.ne_of_lt (Heap.lt_size (N p hp).1)
  have e0 : h₀.get? s.heap.objs.size = none := by
    cases q : h₀.get? s.heap.objs.size with
    | none => rfl
    | some o => exact absurd (Heap.lt_size (F.keep _ _ q)) (Nat.lt_irrefl _)
  refine reprLoop_c (s := s) (P := s.heap.objs.size) (b := 0) (R := callEnd Q E) (by simpa using hlen) (fun args i y hy => by rw [under_loop]; exact hT args i y (by simpa using hy)) ha old (by omega) hR _ 0 _ s.toks #[] 0 [] rfl (Nat.zero_le _) (F.push _) ?_ rfl (by simp)
  intro p hp
  rcases List.mem_cons.mp hp with rfl | hp
  · exact ⟨Heap.get?_push_size _ rfl, fun q => Nat.lt_irrefl _ (q ▸ F.ns.lt), e0⟩
  · exact ⟨Heap.get?_push_of_some _ (N p hp).1, (N p hp).2⟩
end
end
end Mine
namespace Mine
section
local macro_rules | `(tactic| k_room) => `(tactic| ((try simp only [depth_mark, depth_under_make, depth_under_kw, depth_in1, depth_deeper, depth_Ar, recursionLimit]); omega))
local macro_rules | `(tactic| walk_at "wpAt") => `(tactic| dsimp only)
local macro_rules | `(tactic| walk_at "wpAt") => `(tactic| (ks_step "exec Expr"; k_dflt (refine ks_wpAt_Expr_any ?_)))
local macro_rules | `(tactic| walk_at "wpAt") => `(tactic| (ks_step "eval Call"; k_dflt (refine ks_wpAt_MethodCall ?_)))
local macro_rules | `(tactic| k_units) => `(tactic| ((simp only [units_Ar, units_in1, units_deeper, cLine_is]); omega))
local macro_rules | `(tactic| k_mem) => `(tactic| assumption)
local macro_rules | `(tactic| k_all) => `(tactic| first | assumption | exact allLt_ne (by assumption))
local macro_rules | `(tactic| walk_at "call type:reversed") => `(tactic| (k_here; (with_reducible show wpAny _ _ (call (Value.type _) [Value.ref _]) _ _ _); k_dflt (refine' reversed_c ?F ?N ?m ?_; (case F => k_asm); (case N => k_asm); (case m => k_mem)); k_whole; intro D' h' F' N' l1; have l1' := l1; (try k_lt l1); (try k_sweep)))
local macro_rules | `(tactic| walk_at "getAttr ref") => `(tactic| (k_here; (with_reducible show wpAny _ _ (getAttr (Value.ref _) (PySem.Str.ofString "value") _) _ _ _); k_dflt (refine' getValue_c ?F ?N ?X ?a ?b ?c ?_; (case F => k_asm); (case N => k_asm); (case X => k_asm); (case a => k_mem); (case b => k_mem); (case c => assumption)); k_whole))
local macro_rules | `(tactic| walk_at "call builtin:isinstance") => `(tactic| (k_here; (with_reducible show wpAny _ _ (call _ [Value.ref _, Value.ref 67]) _ _ _); k_dflt (refine' isOp_c ?F ?N ?X ?a ?b ?_; (case F => k_asm); (case N => k_asm); (case X => k_asm); (case a => k_mem); (case b => k_mem)); k_whole))
local macro_rules | `(tactic| walk_at "compareOp Eq") => `(tactic| (k_dflt (refine' eqVal_c ?a ?b ?c ?d ?_; (case a => assumption); (case b => assumption); (case c => assumption); (case d => assumption)); k_whole))
local macro_rules | `(tactic| walk_at "subscriptTail") => `(tactic| (k_here; (with_reducible show wpAny _ _ (subscriptTail _ _ (Value.ref _) (Value.int _ _)) _ _ _); k_dflt (refine' backK_c ?N ?m ?x ?j ?a ?b ?c ?_ ; (case N => k_asm); (case m => k_mem); (case x => assumption); (case j => omega); (case a => omega); (case b => omega); (case c => omega)); k_whole))
local macro_rules | `(tactic| k_room) => `(tactic| ((try simp only [depth_mark, depth_under_make, depth_under_kw, depth_in1, depth_deeper, depth_Ar, depth_ArG, recursionLimit]); omega))
local macro_rules | `(tactic| k_units) => `(tactic| ((simp only [units_Ar, units_ArG, units_in1, units_deeper, cLine_is]); omega))
variable {w : World} {s : Shared} {base : Heap} {outer : List Env} {p : Program} {loose : List Str} {mean : ExcName → Option Value} {mg mb : Str → Option Value}
variable {h₀ : Heap} {m : Str → Option Value} {news : List (Addr × Obj)} {Q : Value → Shared → Prop} {E : Value → Shared → Prop} {A₀ : Around}
variable {cn : Str} {nms : List (Str × NameKind)} {b1 b2 : Bool} {more : List (Str × Const)} {L fa : Addr} {cd : Value} {cl : List (Str × Addr)} {d u : Nat}
variable {v : Value} {t1 t2 : Tok}
variable {x dx lst a da : Addr} {ts : Tok} {vs : List Value} {n : Nat} {j : Int} {t : Tok} {k c : Nat} {rest : List (Addr × Obj)}
theorem textOf_len {c : Nat} (h : c < 8) : (textOf c).length ≤ 2 := by
  have : c = 0 ∨ c = 1 ∨ c = 2 ∨ c = 3 ∨ c = 4 ∨ c = 5 ∨ c = 6 ∨ c = 7 := by omega
  rcases this with rfl | rfl | rfl | rfl | rfl | rfl | rfl | rfl <;> decide +kernel
theorem piled_codes : ∀ {cs : List Nat}, (∀ c ∈ cs, c < 8) → piled (cs.map textOf) ≤ 4 * cs.length
  | [], _ => Nat.zero_le _
  | c :: r, h => by
    have ih := piled_codes (cs := r) fun c hc => h c (.tail _ hc)
    have h1 := textOf_len (h c (.head _))
    rw [List.map_cons, piled_cons, List.length_cons]
    omega
theorem listText_le (ts : List Str) : (listText ts).length ≤ 2 + piled ts := by
  cases ts with
  | nil => exact Nat.le_refl 2
  | cons t r =>
    have h := textFrom_length_pos r 1 (("[" : Str) ++ (if (0 : Nat) > 0 then ", " else "" : String) ++ t) (Nat.succ_pos 0)
    have e : ((("[" : Str) ++ (if (0 : Nat) > 0 then ", " else "" : String) ++ t)).length = 1 + t.length := by
      rw [strLen_append, strLen_append]; rfl
    have hX : (listText (t :: r)).length = (textFrom 0 "[" (t :: r)).length + 1 := by
      show (textFrom 0 "[" (t :: r) ++ "]").length = _
      rw [strLen_append]; rfl
    have hY : (textFrom 0 "[" (t :: r)).length = (textFrom 1 (("[" : Str) ++ (if (0 : Nat) > 0 then ", " else "" : String) ++ t) r).length := rfl
    rw [hX, hY, h, e, piled_cons]; omega
theorem Ops.small {P : Params} {vs : List Value} {cs : List Nat} (h : Ops P news vs cs) : ∀ c ∈ cs, c < 8 := by
  intro c hc
  obtain ⟨i, hi, e⟩ := List.mem_iff_getElem.mp hc
  obtain ⟨_, _, _, _, _, _, h8, _⟩ := h.2 i _ c (List.getElem?_eq_getElem (h.1 ▸ hi)) (by rw [← e]; exact List.getElem?_eq_getElem hi)
  exact h8
theorem fmtOps_c {cs : List Nat} {ps : List Value} {pl : Addr} {pn : Nat} (hps : Ops w.params news ps cs) (hlen : ps.length ≤ 100) (hpl : (pl, W.listOf ps.toArray pn) ∈ news)
   (hd : d ≤ 399) (hu : u ≤ 90) (B : Below A₀ base outer h₀) (F : Fr h₀ L s.heap m) (N : News h₀ L s.heap news)
   (X : (Mine.hd.heap_39 w.params).In h₀) (T : Top p loose mean mg mb h₀)
   (h : ∀ y h' tk t, y.length ≤ 500 → Fr h₀ L h' m → News h₀ L h' news → Q (.str y t) { s with heap := h', toks := tk }) :
   wpAny (model PR w) (Ar d u (EV cn nms b1 b2 more L fa cd cl :: outer)) (formatField (.ref pl) Str.empty) Q E s := by
  refine wpAny_formatField_slot (T := "list") (idr := "list.__repr__") (fun _ _ => nofun) ?_ ⟨_, (N _ hpl).1, rfl⟩ PySem.F.slot_list_format PySem.F.slot_list_str PySem.F.slot_list_repr.toG ?_
  · show u + 2 < cLine
    rw [cLine_is]; omega
  cases ps with
  | nil =>
    refine call_list_repr_empty ⟨_, (N _ hpl).1, rfl⟩ (N _ hpl).1 rfl ⟨_, _, rfl, h _ _ _ _ (by decide) F N⟩
  | cons x l =>
    have hl1 := listText_le (cs.map textOf)
    have hl2 := piled_codes hps.small
    have hl3 := hps.1
    refine reprList_c (s := { s with toks := s.toks + 1 }) (d := d) (u := u + 2) (ts := cs.map textOf) (by rw [List.length_map]; exact hl3.symm) ?_ hpl ?_ F N fun h' t tk F' N' => ⟨_, _, rfl, h _ h' tk t (by omega) F' N'⟩
    · intro args i y hy
      have hi : i < (x :: l).length := (List.getElem?_eq_some_iff.mp hy).1
      have hc : cs[i]? = some (cs[i]'(by omega)) := List.getElem?_eq_getElem _
      refine ⟨textOf (cs[i]'(by omega)), by rw [List.getElem?_map, hc]; rfl, ?_⟩
      exact elRepr_c (s := { s with toks := s.toks + 1 }) (hps.2 i y _ hy hc) (by omega) (by omega) B X T
    · have : 500 ≤ sizeLine := by first | decide | (unfold sizeLine; omega)
      omega
end
end Mine
namespace Mine
section
local macro_rules | `(tactic| k_room) => `(tactic| ((try simp only [depth_mark, depth_under_make, depth_under_kw, depth_in1, depth_deeper, depth_Ar, recursionLimit]); omega))
local macro_rules | `(tactic| walk_at "wpAt") => `(tactic| dsimp only)
local macro_rules | `(tactic| walk_at "wpAt") => `(tactic| (ks_step "exec Expr"; k_dflt (refine ks_wpAt_Expr_any ?_)))
local macro_rules | `(tactic| walk_at "wpAt") => `(tactic| (ks_step "eval Call"; k_dflt (refine ks_wpAt_MethodCall ?_)))
local macro_rules | `(tactic| k_units) => `(tactic| ((simp only [units_Ar, units_in1, units_deeper, cLine_is]); omega))
local macro_rules | `(tactic| k_mem) => `(tactic| assumption)
local macro_rules | `(tactic| k_all) => `(tactic| first | assumption | exact allLt_ne (by assumption))
local macro_rules | `(tactic| walk_at "compareOp IsNot int ref") => `(tactic| refine wpAny_isNot_other (by rfl) (by intro x; cases x) ?_)
local macro_rules | `(tactic| walk_at "subscriptTail") => `(tactic| (k_here; (with_reducible show wpAny _ _ (subscriptTail _ _ (Value.ref _) (Value.int _ _)) _ _ _); k_dflt (refine' back_c ?N ?m ?a ?b ?c ?_ ; (case N => k_asm); (case m => k_mem); (case a => omega); (case b => omega); (case c => omega)); k_whole; intro v' hv'))

local macro_rules | `(tactic| walk_at "setItem ref int") => `(tactic| (k_here; (with_reducible show wpAny _ _ (setItem (Value.ref _) (Value.int _ _) _) _ _ _); k_dflt (refine' setBack_c ?F ?N ?U ?a ?b ?c ?_ ; (case F => k_asm); (case N => k_asm); (case U => k_upd); (case a => omega); (case b => (try simp only [List.length_set]); omega); (case c => omega)); k_whole; intro h' F' N'; (try k_sweep)))
local macro_rules | `(tactic| k_lt $h) => `(tactic| (replace $h := allLt_of $h; (try simp only [AllLt, and_true] at $h:ident); try (first | (have lR' : AllLt _ _ := $h) | (have lR' : AllLt _ _ := And.right $h) | (have lR' : AllLt _ _ := And.right (And.right $h)) | (have lR' : AllLt _ _ := And.right (And.right (And.right $h))) | (have lR' : AllLt _ _ := And.right (And.right (And.right (And.right $h)))) | (have lR' : AllLt _ _ := And.right (And.right (And.right (And.right (And.right $h))))) | (have lR' : AllLt _ _ := And.right (And.right (And.right (And.right (And.right (And.right $h)))))) | (have lR' : AllLt _ _ := And.right (And.right (And.right (And.right (And.right (And.right (And.right $h))))))) | (have lR' : AllLt _ _ := And.right (And.right (And.right (And.right (And.right (And.right (And.right (And.right $h)))))))) | (have lR' : AllLt _ _ := And.right (And.right (And.right (And.right (And.right (And.right (And.right (And.right (And.right $h)))))))))  | (have lR' : AllLt _ _ := And.right (And.right (And.right (And.right (And.right (And.right (And.right (And.right (And.right (And.right $h))))))))))  | (have lR' : AllLt _ _ := And.right (And.right (And.right (And.right (And.right (And.right (And.right (And.right (And.right (And.right (And.right $h)))))))))))  | (have lR' : AllLt _ _ := And.right (And.right (And.right (And.right (And.right (And.right (And.right (And.right (And.right (And.right (And.right (And.right $h))))))))))))  | (have lR' : AllLt _ _ := And.right (And.right (And.right (And.right (And.right (And.right (And.right (And.right (And.right (And.right (And.right (And.right (And.right $h))))))))))))))))
local macro_rules | `(tactic| walk_at "call builtin:len") => `(tactic| (k_here; (with_reducible show wpAny _ _ (call (Value.builtin "len") [Value.ref _]) _ _ _); k_dflt (refine' len_c ?N ?m ?z ?_; (case N => k_asm); (case m => k_mem); (case z => omega)); k_whole; intro t' tk'))
local macro_rules | `(tactic| walk_at "call builtin:list.copy") => `(tactic| (k_here; k_dflt (refine' copyList_c ?F ?N ?m ?z ?_; (case F => k_asm); (case N => k_asm); (case m => k_mem); (case z => omega)); k_whole; intro D' h' F' N' l1; (try k_lt l1); (try k_sweep)))
local macro_rules | `(tactic| walk_at "delItem ref ref") => `(tactic| (k_here; k_dflt (refine' delSlice_c ?F ?N ?U ?a ?b ?z ?_; (case F => k_asm); (case N => k_asm); (case U => k_upd); (case a => omega); (case b => omega); (case z => omega)); k_whole; intro h' F' N'; (try k_sweep)))
local macro_rules | `(tactic| walk_at "subscriptTail Name Slice ref ref") => `(tactic| (k_here; (with_reducible show wpAny _ _ (subscriptTail _ (PySem.Expr.Slice _ _ none _) (Value.ref _) (Value.ref _)) _ _ _); k_dflt (first | (refine' sliceAll_c ?F ?N ?m ?z ?_ ?s ?t; (case F => k_asm); (case N => k_asm); (case m => k_mem); (case z => omega); (case s => with_unfolding_all rfl); (case t => kmk_pure)) | (refine' sliceUpto_c ?F ?N ?m ?a ?z ?_ ?s ?t; (case F => k_asm); (case N => k_asm); (case m => k_mem); (case a => omega); (case z => omega); (case s => with_unfolding_all rfl); (case t => kmk_pure))); intro D' h' F' N' l1; (try k_lt l1); (try k_sweep)))
local macro_rules | `(tactic| walk_at "call type:reversed") => `(tactic| (k_here; (with_reducible show wpAny _ _ (call (Value.type _) [Value.ref _]) _ _ _); k_dflt (refine' reversed_c ?F ?N ?m ?_; (case F => k_asm); (case N => k_asm); (case m => k_mem)); k_whole; intro D' h' F' N' l1; have l1' := l1; (try k_lt l1); (try k_sweep)))
local macro_rules | `(tactic| walk_at "getAttr ref") => `(tactic| (k_here; (with_reducible show wpAny _ _ (getAttr (Value.ref _) (PySem.Str.ofString "value") _) _ _ _); k_dflt (refine' getValue_c ?F ?N ?X ?a ?b ?c ?_; (case F => k_asm); (case N => k_asm); (case X => k_asm); (case a => k_mem); (case b => k_mem); (case c => assumption)); k_whole))
local macro_rules | `(tactic| walk_at "call builtin:isinstance") => `(tactic| (k_here; (with_reducible show wpAny _ _ (call _ [Value.ref _, Value.ref 67]) _ _ _); k_dflt (refine' isOp_c ?F ?N ?X ?a ?b ?_; (case F => k_asm); (case N => k_asm); (case X => k_asm); (case a => k_mem); (case b => k_mem)); k_whole))
local macro_rules | `(tactic| walk_at "compareOp Eq") => `(tactic| (k_dflt (refine' eqVal_c ?a ?b ?c ?d ?_; (case a => assumption); (case b => assumption); (case c => assumption); (case d => assumption)); k_whole))
local macro_rules | `(tactic| walk_at "subscriptTail") => `(tactic| (k_here; (with_reducible show wpAny _ _ (subscriptTail _ _ (Value.ref _) (Value.int _ _)) _ _ _); k_dflt (refine' backK_c ?N ?m ?x ?j ?a ?b ?c ?_ ; (case N => k_asm); (case m => k_mem); (case x => assumption); (case j => omega); (case a => omega); (case b => omega); (case c => omega)); k_whole))
local macro_rules | `(tactic| walk_at "call ref") => `(tactic| (k_here; (with_reducible show wpAny _ _ (call (Value.ref 241) [Value.int _ _]) _ _ _); k_dflt (refine' thing_c ?k3 ?k4 ?k5 ?k6 ?k7 ?k8 ?k9 ?_; (case k3 => ((try simp only [depth_mark, depth_under_make, depth_under_kw, depth_in1, depth_deeper, depth_Ar]); omega)); (case k4 => ((try simp only [units_Ar, units_in1, units_deeper]); omega)); (case k5 => k_asm); (case k6 => k_asm); (case k7 => k_asm); (case k8 => k_asm); (case k9 => k_asm)); k_whole; intro tp' a' dx' t1' t2' vv' vt' h' tk' F' N' hv' hvt' l1 l2 l3; (try k_lt l1); (try k_lt2 l2); (try k_lt2 l3); (try k_sweep)))
local macro_rules | `(tactic| walk_at "getAttr ref") => `(tactic| (k_here; (with_reducible show wpAny _ _ (getAttr (Value.ref _) (PySem.Str.ofString "height") _) _ _ _); k_dflt (refine' height_c ?z ?a ?b ?c ?k3 ?k4 ?k5 ?k6 ?k7 ?k8 ?k9 ?_; (case k6 => k_asm); (case k7 => k_asm); (case z => omega); (case a => k_mem); (case b => k_mem); (case c => k_mem); (case k3 => ((try simp only [depth_mark, depth_under_make, depth_under_kw, depth_in1, depth_deeper, depth_Ar]); omega)); (case k4 => ((try simp only [units_Ar, units_in1, units_deeper]); omega)); (case k5 => k_asm); (case k8 => k_asm); (case k9 => k_asm)); k_whole; intro t' h' tk' F' N'; (try k_sweep)))
local macro_rules | `(tactic| k_all) => `(tactic| exact allLt_ne (allLt_trans (by assumption) (by omega)))
local macro_rules | `(tactic| k_all) => `(tactic| exact allNe_to (by assumption))
local macro_rules | `(tactic| walk_at "call ref") => `(tactic| (k_here; (with_reducible show wpAny _ _ (call (Value.ref 180) [Value.ref _, Value.ref _]) _ _ _); k_dflt (refine' getDepth_c ?c8 ?ops ?z ?a ?b ?c ?e ?f ?g ?k3 ?k4 ?k5 ?k6 ?k7 ?k8 ?k9 ?_; (case k6 => k_asm); (case k7 => k_asm); (case a => k_mem); (case b => k_mem); (case c => k_mem); (case e => k_mem); (case f => k_mem); (case g => assumption); (case ops => exact Ops.mono (by assumption) (by intro p hp; repeat (first | assumption | apply List.Mem.tail))); (case c8 => omega); (case z => omega); (case k3 => ((try simp only [depth_mark, depth_under_make, depth_under_kw, depth_in1, depth_deeper, depth_Ar]); omega)); (case k4 => ((try simp only [units_Ar, units_in1, units_deeper]); omega)); (case k5 => k_asm); (case k8 => k_asm); (case k9 => k_asm)); k_whole; intro r' h' tk' hr' F' N'; (try k_sweep)))
local macro_rules | `(tactic| walk_at "compareOp In") => `(tactic| (k_here; (with_reducible show wpAny _ _ (compareOp CmpOp.In (Value.ref _) (Value.ref _)) _ _ _); k_dflt (refine' inOps_c ?o ?ps ?m ?k3 ?k4 ?k5 ?k6 ?k7 ?k8 ?k9 ?_; (case k6 => k_asm); (case k7 => k_asm); (case m => k_mem); (case o => assumption); (case ps => assumption); (case k3 => ((try simp only [depth_mark, depth_under_make, depth_under_kw, depth_in1, depth_deeper, depth_Ar]); omega)); (case k4 => ((try simp only [units_Ar, units_in1, units_deeper]); omega)); (case k5 => k_asm); (case k8 => k_asm); (case k9 => k_asm)); k_whole; intro h' tk' F' N'; (try k_sweep)))
local macro_rules | `(tactic| walk_at "compareOp Is int ref") => `(tactic| refine wpAny_is_other (by rfl) (by intro x; cases x) ?_)
local macro_rules | `(tactic| walk_at "formatField ref") => `(tactic| (k_here; (with_reducible show wpAny _ _ (formatField (Value.ref _) _) _ _ _); k_dflt (refine' fmtOps_c ?ps ?l ?m ?k3 ?k4 ?k5 ?k6 ?k7 ?k8 ?k9 ?_; (case k6 => k_asm); (case k7 => k_asm); (case m => k_mem); (case ps => assumption); (case l => first | assumption | omega); (case k3 => ((try simp only [depth_mark, depth_under_make, depth_under_kw, depth_in1, depth_deeper, depth_Ar]); omega)); (case k4 => ((try simp only [units_Ar, units_in1, units_deeper]); omega)); (case k5 => k_asm); (case k8 => k_asm); (case k9 => k_asm)); k_whole; intro y' h' tk' t' hy' F' N'; (try k_sweep)))
variable {w : World} {s : Shared} {base : Heap} {outer : List Env} {p : Program} {loose : List Str} {mean : ExcName → Option Value} {mg mb : Str → Option Value}
variable {h₀ : Heap} {m : Str → Option Value} {news : List (Addr × Obj)} {Q : Value → Shared → Prop} {E : Value → Shared → Prop} {A₀ : Around}
variable {cn : Str} {nms : List (Str × NameKind)} {b1 b2 : Bool} {more : List (Str × Const)} {L fa : Addr} {cd : Value} {cl : List (Str × Addr)} {d u : Nat}
variable {v : Value} {t1 t2 : Tok}
variable {x dx lst a da : Addr} {ts : Tok} {vs : List Value} {n : Nat} {j : Int} {t : Tok} {k c : Nat} {rest : List (Addr × Obj)}
theorem hit_eq {cs pcs : List Nat} {i c : Nat} (h : cs[cs.length - 1 - i]? = some c) : hit cs pcs i = pcs.contains c := by
  unfold hit; rw [h]
theorem phi_step {cs pcs : List Nat} {i : Nat} (b : Bool) (h : hit cs pcs i = b) : (List.range (i + 1)).filter (hit cs pcs) = (List.range i).filter (hit cs pcs) ++ (if b then [i] else []) := by
  rw [List.range_succ, List.filter_append]
  congr 1
  cases b <;> simp [h]
theorem filt_len {P : Nat → Bool} {a b : Nat} (h : a ≤ b) : ((List.range a).filter P).length ≤ ((List.range b).filter P).length := by
  obtain ⟨k, rfl⟩ := Nat.exists_eq_add_of_le h
  rw [List.range_add, List.filter_append, List.length_append]
  omega
theorem phi_c {cs pcs : List Nat} {ps : List Value} {pl : Addr} {pn : Nat} {fs : List Addr} {gk : Heap} (hD : KtsDicts fs gk) (hops : Ops w.params news vs cs) (hps : Ops w.params news ps pcs) (hpl100 : ps.length ≤ 100) (hlen : vs.length ≤ 100) (hx : (x, instObj 225 dx) ∈ news) (hdx : (dx, stDict w.params lst ts) ∈ news) (hl : (lst, W.listOf vs.toArray n) ∈ news)
   (hpl : (pl, W.listOf ps.toArray pn) ∈ news)
   (hd : d ≤ 355) (hu : u ≤ 55) (B : Below A₀ base outer h₀) (F : Fr h₀ L s.heap m) (N : News h₀ L s.heap news)
   (X : (Mine.hd.heap_39 w.params).In h₀) (T : Top p loose mean mg mb h₀)
   (h : ∀ r h' tk, PhiIs cs pcs cs.length r → Fr h₀ L h' m → News h₀ L h' news → Q r { s with heap := h', toks := tk })
   (hE : ∀ e h' tk g' nw, 2 ≤ ((List.range cs.length).filter (hit cs pcs)).length → Fr h₀ L g' m → (∀ p ∈ news, p ∈ nw) → RaisedSN base g' (EV cn nms b1 b2 more L fa cd cl :: outer) e (.type "AssertionError") nw h' → g'.UpToSlots h' → E (.ref e) { s with heap := h', toks := tk }) :
   wpAny (model PR w) (Ar d u (EV cn nms b1 b2 more L fa cd cl :: outer)) (call (.ref 187) [.ref x, .ref pl]) Q E s := by
  refine wpAny_call ?_
  k_enter
  rename Fr h₀ L _ m => FG2
  repeat' ((fail_if_success (first | (with_reducible show wpAny _ _ (exec (PySem.Stmt.For _ _ _ _ _) _) _ _ _))); (first | (k_unfold; (try dsimp only)) | (k_end; wrow_close) | walk1 | (dsimp only; walk1) | (leave1; walk_say "STEP leave1"; try dsimp only) | fail "no step"))
  refine wpAny_For ?_ (by intro _; rfl)
  k_steps
  refine' forRevX_c "ret" (.ref 136) ?hh ?hE ?h1 ?h2 ?h3 ?F ?N ?lt hl (fun i r => PhiIs cs pcs i r) ?r ?z ?step ?done
  case hh => rfl
  case hE => passes_own
  case h1 => rfl
  case h2 => rfl
  case h3 => rfl
  case F => assumption
  case N => assumption
  case lt => assumption
  case r => rfl
  case z => exact .inl ⟨rfl, rfl⟩
  case step =>
    intro i v' t r nw h₂ tk hi hv' hJ hsub F₂ N₂
    have hL := hops.1
    obtain ⟨c, hci⟩ : ∃ c, cs[cs.length - 1 - i]? = some c := ⟨_, List.getElem?_eq_getElem (by omega)⟩
    obtain ⟨ai, dxi, t1i, t2i, vi, rfl, hc8i, hai, hdi, hvi⟩ := hops.2 _ _ _ hv' (by rw [hL]; exact hci)
    have ho : OpIn w.params nw (.ref ai) _ := ⟨_, _, _, _, _, rfl, hc8i, hsub _ hai, hsub _ hdi, hvi⟩
    have hps' := hps.mono hsub
    have hops' := hops.mono hsub
    replace hx := hsub _ hx
    replace hdx := hsub _ hdx
    replace hl := hsub _ hl
    clear hps hops hai hdi
    replace hpl := hsub _ hpl
    have hh := hit_eq (pcs := pcs) hci
    rcases hJ with ⟨hf, rfl⟩ | ⟨j, tj, hf, rfl⟩
    · k_steps
      · dsimp only [StepR]
        have q : hit cs pcs i = true := hh.trans (by assumption)
        have e1 : List.filter (hit cs pcs) (List.range (i + 1)) = [i] := by rw [phi_step true q, hf]; rfl
        refine' ⟨_, _, _, rfl, ?zf0, ?zn0, ?zm0, _, ?zp0, ?zj0⟩
        case zf0 => assumption
        case zn0 => assumption
        case zm0 => intro y h1 h2 h3; simp only [if_neg h1, if_neg h2, if_neg h3]
        case zp0 => exact if_pos rfl
        case zj0 => exact .inr ⟨i, _, e1, rfl⟩
      · dsimp only [StepR]
        have q : hit cs pcs i = false := hh.trans (by first | assumption | (simp only [Bool.not_eq_true] at *; assumption))
        have e1 : List.filter (hit cs pcs) (List.range (i + 1)) = [] := by rw [phi_step false q, hf]; rfl
        refine' ⟨_, _, _, rfl, ?zf1, ?zn1, ?zm1, _, ?zp1, ?zj1⟩
        case zf1 => assumption
        case zn1 => assumption
        case zm1 => intro y h1 h2 h3; simp only [if_neg h1, if_neg h2, if_neg h3]
        case zp1 => rfl
        case zj1 => exact .inl ⟨e1, rfl⟩
    · k_steps
      · have q : hit cs pcs i = true := hh.trans (by assumption)
        refine hE _ _ _ _ _ ?_ FG2 hsub (by assumption) (by assumption)
        have e1 := phi_step true q
        rw [hf] at e1
        have e2 := filt_len (P := hit cs pcs) (a := i + 1) (b := cs.length) (by omega)
        rw [e1] at e2
        exact e2
      · dsimp only [StepR]
        have q : hit cs pcs i = false := hh.trans (by first | assumption | (simp only [Bool.not_eq_true] at *; assumption))
        have e1 : List.filter (hit cs pcs) (List.range (i + 1)) = [j] := by rw [phi_step false q, hf]; rfl
        refine' ⟨_, _, _, rfl, ?zf2, ?zn2, ?zm2, _, ?zp2, ?zj2⟩
        case zf2 => assumption
        case zn2 => assumption
        case zm2 => intro y h1 h2 h3; simp only [if_neg h1, if_neg h2, if_neg h3]
        case zp2 => rfl
        case zj2 => exact .inr ⟨j, _, e1, rfl⟩
  case done =>
    intro h₂ tk m' r F₂ N₂ hJ
    k_steps
    exact h _ _ _ (by rw [← hops.1]; exact hJ) (by assumption) (by assumption)
end
end Mine
namespace Mine
section
local macro_rules | `(tactic| k_room) => `(tactic| ((try simp only [depth_mark, depth_under_make, depth_under_kw, depth_in1, depth_deeper, depth_Ar, recursionLimit]); omega))
local macro_rules | `(tactic| walk_at "wpAt") => `(tactic| dsimp only)
local macro_rules | `(tactic| walk_at "wpAt") => `(tactic| (ks_step "exec Expr"; k_dflt (refine ks_wpAt_Expr_any ?_)))
local macro_rules | `(tactic| walk_at "wpAt") => `(tactic| (ks_step "eval Call"; k_dflt (refine ks_wpAt_MethodCall ?_)))
local macro_rules | `(tactic| k_units) => `(tactic| ((simp only [units_Ar, units_in1, units_deeper, cLine_is]); omega))
local macro_rules | `(tactic| k_mem) => `(tactic| assumption)
local macro_rules | `(tactic| k_all) => `(tactic| first | assumption | exact allLt_ne (by assumption))
variable {w : World} {s : Shared} {base : Heap} {outer : List Env} {p : Program} {loose : List Str} {mean : ExcName → Option Value} {mg mb : Str → Option Value}
variable {h₀ : Heap} {m : Str → Option Value} {news : List (Addr × Obj)} {Q : Value → Shared → Prop} {E : Value → Shared → Prop} {A₀ : Around}
variable {cn : Str} {nms : List (Str × NameKind)} {b1 b2 : Bool} {more : List (Str × Const)} {L fa : Addr} {cd : Value} {cl : List (Str × Addr)} {d u : Nat}
section
variable {prog : Program} {A : Around} {env : Env}
theorem enterX (B : Below A₀ base outer h₀) (F : Fr h₀ L s.heap m) (N : News h₀ L s.heap news) (hA : A.frames = some (env :: outer)) (hf : env.frame = some L) (hke : env.scope.kind = .function) :
    ∃ oL es ep, (hideAll s.heap (news.map (·.1))).get? L = some oL ∧ oL.data = .dict es ep ∧ (∀ h', h'.get? L = some oL → Heap.Ns h' L m) ∧ (∀ (sl : Array (Option Value)) h', h'.get? L = some { oL with slots := sl } → Heap.Ns h' L m) ∧
      h₀.StaysIn (hideAll s.heap (news.map (·.1))) ∧ Below A base (env :: outer) (hideAll s.heap (news.map (·.1))) := by
  have nm : ∀ b o, h₀.get? b = some o → b ∉ news.map (·.1) := fun b o e q => by
    obtain ⟨p, hp, rfl⟩ := List.mem_map.mp q
    rw [(N p hp).2.2] at e; cases e
  obtain ⟨_, BG, st, _⟩ := groundX (R := fun _ _ => True) B F N hA hf hke
  obtain ⟨oL, es, ep, hL, hLd, hLk, hLf⟩ := F.ns
  have nL : L ∉ news.map (·.1) := fun q => by
    obtain ⟨p, hp, e⟩ := List.mem_map.mp q
    exact (N p hp).2.1 e
  have hLg := hideAll_get (news.map (·.1)) hL nL
  exact ⟨oL, es, ep, hLg, hLd, fun h' e => ⟨oL, es, ep, e, hLd, hLk, hLf⟩, fun sl h' e => ⟨_, es, ep, e, hLd, hLk, hLf⟩, st, BG⟩
theorem codeS0X {K : Frag} {R : Result → Shared → Prop} {name qual : Str} {params : Arguments} {body : List Stmt} {scope : Scope} {dV kV doc pm cdv ct oc : Value} {an od : Option Addr} {osl : Array (Option Value)} {f : Addr} {args : Args} {binds : List (Str × Value)}
    (B : Below A₀ base [] h₀) (F : Fr h₀ L s.heap m) (X₀ : K.In h₀) (N : News h₀ L s.heap news) (T : Top p loose mean mg mb h₀) (hA : A.frames = some [env]) (hf : env.frame = some L) (hke : env.scope.kind = .function)
    (ho : K.lookup f = some ⟨oc, od, .func (fnOf name qual params body scope dV kV doc pm an cdv ct), osl⟩) (hcd : codeIn K cdv qual = true) (hroom : A.depth < recursionLimit)
    (hbind : BindsTo s (fnOf name qual params body scope dV kV doc pm an cdv ct) args binds) (hloc : ∀ y ∈ binds, scope.names.lookup y.1 = some .local)
    (h : ∀ g L' h₁, Fr h₀ L g m → Fr g L' h₁ (fun y => binds.reverse.lookup y) → News g L' h₁ news → Below A base [env] g → K.In g → Top p loose mean mg mb g → KtsDicts ([env].filterMap (·.frame)) g →
      wpAny (model prog w) (A.deeper (envOf qual scope L' f cdv)) (execs body (envOf qual scope L' f cdv))
        (fun fl s' => LeaveS0 ([env].filterMap (·.frame)) h₀ L m g R (match fl with | .ret v => v | _ => .none) s')
        (fun e s' => wpAny (model prog w) (A.deeper (envOf qual scope L' f cdv)) (leaving (envOf qual scope L' f cdv) e) (fun _ s'' => R (.error e) s'') (fun e' s'' => R (.error e') s'') s')
        { s with heap := h₁, toks := s.toks + binds.length })
    (hco : scope.isCoroutine = false) (hgen : scope.isGenerator = false) (hk : scope.kind = .function)
    (hcell : ∀ x ∈ scope.names, x.2 ≠ .cell) : codeAny (model prog w) A (.call (.ref f) args) R s := by
  have X := X₀.keeps F.keep
  have hfm : ∀ b, b ∈ [env].filterMap (·.frame) → b = L := fun b hb => by
    simpa [hf] using hb
  refine codeAny_call_def (fd := fnOf name qual params body scope dV kV doc pm an cdv ct) (body := body) (binds := binds) hroom (X _ _ ho) rfl (T.nolimit.keeps F.keep) (codeRec_of X hcd) rfl hbind hcell hloc (fun h₁ hns hk₁ => ?_) hco hgen hk
  obtain ⟨oL, es, ep, hLg, hLd, hN, hNs, st, B₂⟩ := enterX B F N hA hf hke
  refine wpAny_mono (h _ s.heap.objs.size h₁ ⟨hN _ hLg, st, F.above⟩ ⟨hns, fun b o e => hk₁ b o (of_hideAll _ e), Nat.le_of_eq (hideAll_size _ _)⟩
    (fun p hp => ⟨hk₁ _ _ (N p hp).1, Nat.ne_of_lt (Heap.lt_size (N p hp).1), hideAll_none _ (List.mem_map_of_mem hp)⟩) B₂ (X₀.keeps st) (T.keeps st) (fun b hb => by
      rw [hfm b hb]
      exact ⟨oL, es, ep, hLg, hLd⟩)) (fun fl s' hl => ?_) fun _ _ y => y
  obtain ⟨g', L', m', news', T', F', N', k⟩ := hl
  have nL₀ : h₀.get? L = none := kts_self F
  obtain ⟨sl, hs⟩ := T'.up hLg
  refine k ⟨hNs sl _ (F'.keep _ _ hs), fun b o e => F'.keep b o (T'.other b o (st b o e) (fun q => by
    rw [hfm _ q, nL₀] at e
    cases e)), F.above⟩ fun p hp => ⟨(N' p hp).1, fun q => ?_, ?_⟩
  · have := (N' p hp).2.2; rw [q, hs] at this; cases this
  · cases q : h₀.get? p.1 with
    | none => rfl
    | some o =>
      obtain ⟨sl', hs'⟩ := T'.up (st _ _ q)
      have := (N' p hp).2.2
      rw [hs'] at this
      cases this
end
end
end Mine
namespace Mine
section
local macro_rules | `(tactic| k_room) => `(tactic| ((try simp only [depth_mark, depth_under_make, depth_under_kw, depth_in1, depth_deeper, depth_Ar, recursionLimit]); omega))
local macro_rules | `(tactic| walk_at "wpAt") => `(tactic| dsimp only)
local macro_rules | `(tactic| walk_at "wpAt") => `(tactic| (ks_step "exec Expr"; k_dflt (refine ks_wpAt_Expr_any ?_)))
local macro_rules | `(tactic| walk_at "wpAt") => `(tactic| (ks_step "eval Call"; k_dflt (refine ks_wpAt_MethodCall ?_)))
local macro_rules | `(tactic| k_units) => `(tactic| ((simp only [units_Ar, units_in1, units_deeper, cLine_is]); omega))
local macro_rules | `(tactic| k_mem) => `(tactic| assumption)
local macro_rules | `(tactic| k_all) => `(tactic| first | assumption | exact allLt_ne (by assumption))
variable {w : World} {s : Shared} {base : Heap} {outer : List Env} {p : Program} {loose : List Str} {mean : ExcName → Option Value} {mg mb : Str → Option Value}
variable {h₀ : Heap} {m : Str → Option Value} {news : List (Addr × Obj)} {Q : Value → Shared → Prop} {E : Value → Shared → Prop} {A₀ : Around}
variable {cn : Str} {nms : List (Str × NameKind)} {b1 b2 : Bool} {more : List (Str × Const)} {L fa : Addr} {cd : Value} {cl : List (Str × Addr)} {d u : Nat}
section
open LCg
variable {prog : Program} {A : Around} {env : Env}
theorem compRest_ind {elt : PySem.Expr} {x : Str} {scope : Scope} {cl : List (Str × Addr)} {S : List (Addr × Obj) → Prop} {P : Nat → Value → Prop} {Fin : List Value → List (Addr × Obj) → Prop}
    (Inv : Nat → List Value → List (Addr × Obj) → Prop) (M : Nat) (h0 : Inv 0 [] news)
    (step : ∀ i ys nw v I oI C oC D m₂ h tk (E' : Value → Shared → Prop), i < M → Inv i ys nw → P i v → NsObj oC m₂ → m₂ x = some v → Fr h₀ L h m → News h₀ L h ((I, oI) :: (C, oC) :: (D, lst ys) :: nw) → Off3 I C D nw → ((@Ne Nat I C) ∧ (@Ne Nat I D) ∧ (@Ne Nat C D)) →
      wpAny (model prog w) A (eval elt (compEnvC scope cl C env)) (CompEnd h₀ L m { s with heap := h, toks := tk } I oI C oC D (lst ys) S (fun y news' => Inv (i + 1) (ys ++ [y]) news')) E' { s with heap := h, toks := tk })
    (fin : ∀ ys nw, Inv M ys nw → Fin ys nw) : CompRest prog w A h₀ L m env elt x scope cl s S P Fin M 0 [] news := by
  have main : ∀ k i ys nw, i + k = M → Inv i ys nw → CompRest prog w A h₀ L m env elt x scope cl s S P Fin k i ys nw := by
    intro k
    induction k with
    | zero => intro i ys nw e hI; obtain rfl : i = M := by omega
              exact CompRest.zero (fin ys nw hI)
    | succ k ih =>
      intro i ys nw e hI
      refine CompRest.succ fun v I oI C oC D m₂ h tk E' hP hC hx F N off ne => ?_
      refine wpAny_mono (step i ys nw v I oI C oC D m₂ h tk E' (by omega) hI hP hC hx F N off ne) (fun y s₄ h₄ => ?_) fun _ _ e => e
      obtain ⟨h₄, tk₄, news₄, e₄, F₄, N₄, off₄, hS₄, R₄⟩ := h₄
      exact ⟨h₄, tk₄, news₄, e₄, F₄, N₄, off₄, hS₄, ih (i + 1) _ _ (by omega) R₄⟩
  exact main M 0 [] news (by omega) h0
end
theorem nm_ok {j : Nat} (h : j < 4) : (nm j).length = 1 ∧ Txt.startswith (nm j) (Str.ofString "%") = false := by
  have : j = 0 ∨ j = 1 ∨ j = 2 ∨ j = 3 := by omega
  rcases this with rfl | rfl | rfl | rfl <;> decide +kernel
theorem nm_name {j : Nat} (h : j < 4) : Str.ofString "%" ++ nm j = nameOf j := by
  have : j = 0 ∨ j = 1 ∨ j = 2 ∨ j = 3 := by omega
  rcases this with rfl | rfl | rfl | rfl <;> decide +kernel
def Nms (ns : List Value) (pcs : List Nat) : Prop := ns.length = pcs.length ∧ ∀ (i : Nat) v c, ns[i]? = some v → pcs[i]? = some c → c < 8 ∧ c % 2 = 0 ∧ ∃ t, v = .str (nm (c / 2)) t
theorem Ops.snoc {P : Params} {vs : List Value} {cs : List Nat} {v : Value} {c : Nat} (h : Ops P news vs cs) (o : OpIn P news v c) : Ops P news (vs ++ [v]) (cs ++ [c]) := by
  refine ⟨by simp [h.1], fun i v' c' h1 h2 => ?_⟩
  rcases Nat.lt_trichotomy i vs.length with q | q | q
  · rw [List.getElem?_append_left q] at h1
    rw [List.getElem?_append_left (by rw [← h.1]; exact q)] at h2
    exact h.2 i v' c' h1 h2
  · subst q
    rw [List.getElem?_append_right (Nat.le_refl _)] at h1
    rw [h.1, List.getElem?_append_right (Nat.le_refl _)] at h2
    simp at h1 h2
    subst h1 h2
    exact o
  · rw [List.getElem?_eq_none (by simp; omega)] at h1
    cases h1
theorem Ops.nil {P : Params} : Ops P news [] [] := ⟨rfl, fun _ _ _ h => by simp at h⟩
theorem compEnd_2 {I C D : Addr} {s₁ : Shared} {oI oC oD : Obj} {S : List (Addr × Obj) → Prop} {rest : Value → List (Addr × Obj) → Prop} {y : Value} {h' : Heap} {tk : Nat} {p1 p2 : Addr × Obj} {nw : List (Addr × Obj)}
    (F : Fr h₀ L h' m) (N : News h₀ L h' (p1 :: p2 :: (I, oI) :: (C, oC) :: (D, oD) :: nw)) (off : LCg.Off3 I C D nw) (q1 : I < p2.1) (q2 : C < p2.1) (q3 : D < p2.1) (q4 : p2.1 < p1.1) (hS : S (p1 :: p2 :: nw)) (r : rest y (p1 :: p2 :: nw)) :
    LCg.CompEnd h₀ L m s₁ I oI C oC D oD S rest y { s₁ with heap := h', toks := tk } := by
  refine LCg.CompEnd.intro F N (p1 :: p2 :: nw) ?_ ⟨⟨?_, ?_, ?_⟩, ⟨?_, ?_, ?_⟩, off⟩ hS r
  · exact List.forall_mem_cons.mpr ⟨.tail _ (.tail _ (.head _)), List.forall_mem_cons.mpr ⟨.tail _ (.tail _ (.tail _ (.head _))), List.forall_mem_cons.mpr ⟨.tail _ (.tail _ (.tail _ (.tail _ (.head _)))), List.forall_mem_cons.mpr ⟨.head _, List.forall_mem_cons.mpr ⟨.tail _ (.head _), fun p hp => .tail _ (.tail _ (.tail _ (.tail _ (.tail _ hp))))⟩⟩⟩⟩⟩
  · exact (Nat.ne_of_lt (Nat.lt_trans q1 q4)).symm
  · exact (Nat.ne_of_lt (Nat.lt_trans q2 q4)).symm
  · exact (Nat.ne_of_lt (Nat.lt_trans q3 q4)).symm
  · exact (Nat.ne_of_lt q1).symm
  · exact (Nat.ne_of_lt q2).symm
  · exact (Nat.ne_of_lt q3).symm
end
end Mine
namespace Mine
section
local macro_rules | `(tactic| k_room) => `(tactic| ((try simp only [depth_mark, depth_under_make, depth_under_kw, depth_in1, depth_deeper, depth_Ar, recursionLimit]); omega))
local macro_rules | `(tactic| walk_at "wpAt") => `(tactic| dsimp only)
local macro_rules | `(tactic| walk_at "wpAt") => `(tactic| (ks_step "exec Expr"; k_dflt (refine ks_wpAt_Expr_any ?_)))
local macro_rules | `(tactic| walk_at "wpAt") => `(tactic| (ks_step "eval Call"; k_dflt (refine ks_wpAt_MethodCall ?_)))
local macro_rules | `(tactic| k_units) => `(tactic| ((simp only [units_Ar, units_in1, units_deeper, cLine_is]); omega))
local macro_rules | `(tactic| k_mem) => `(tactic| assumption)
local macro_rules | `(tactic| k_all) => `(tactic| first | assumption | exact allLt_ne (by assumption))
local macro_rules | `(tactic| walk_at "compareOp IsNot int ref") => `(tactic| refine wpAny_isNot_other (by rfl) (by intro x; cases x) ?_)
local macro_rules | `(tactic| walk_at "subscriptTail") => `(tactic| (k_here; (with_reducible show wpAny _ _ (subscriptTail _ _ (Value.ref _) (Value.int _ _)) _ _ _); k_dflt (refine' back_c ?N ?m ?a ?b ?c ?_ ; (case N => k_asm); (case m => k_mem); (case a => omega); (case b => omega); (case c => omega)); k_whole; intro v' hv'))

local macro_rules | `(tactic| walk_at "setItem ref int") => `(tactic| (k_here; (with_reducible show wpAny _ _ (setItem (Value.ref _) (Value.int _ _) _) _ _ _); k_dflt (refine' setBack_c ?F ?N ?U ?a ?b ?c ?_ ; (case F => k_asm); (case N => k_asm); (case U => k_upd); (case a => omega); (case b => (try simp only [List.length_set]); omega); (case c => omega)); k_whole; intro h' F' N'; (try k_sweep)))
local macro_rules | `(tactic| k_lt $h) => `(tactic| (replace $h := allLt_of $h; (try simp only [AllLt, and_true] at $h:ident); try (first | (have lR' : AllLt _ _ := $h) | (have lR' : AllLt _ _ := And.right $h) | (have lR' : AllLt _ _ := And.right (And.right $h)) | (have lR' : AllLt _ _ := And.right (And.right (And.right $h))) | (have lR' : AllLt _ _ := And.right (And.right (And.right (And.right $h)))) | (have lR' : AllLt _ _ := And.right (And.right (And.right (And.right (And.right $h))))) | (have lR' : AllLt _ _ := And.right (And.right (And.right (And.right (And.right (And.right $h)))))) | (have lR' : AllLt _ _ := And.right (And.right (And.right (And.right (And.right (And.right (And.right $h))))))) | (have lR' : AllLt _ _ := And.right (And.right (And.right (And.right (And.right (And.right (And.right (And.right $h)))))))) | (have lR' : AllLt _ _ := And.right (And.right (And.right (And.right (And.right (And.right (And.right (And.right (And.right $h)))))))))  | (have lR' : AllLt _ _ := And.right (And.right (And.right (And.right (And.right (And.right (And.right (And.right (And.right (And.right $h))))))))))  | (have lR' : AllLt _ _ := And.right (And.right (And.right (And.right (And.right (And.right (And.right (And.right (And.right (And.right (And.right $h)))))))))))  | (have lR' : AllLt _ _ := And.right (And.right (And.right (And.right (And.right (And.right (And.right (And.right (And.right (And.right (And.right (And.right $h))))))))))))  | (have lR' : AllLt _ _ := And.right (And.right (And.right (And.right (And.right (And.right (And.right (And.right (And.right (And.right (And.right (And.right (And.right $h))))))))))))))))
local macro_rules | `(tactic| walk_at "call builtin:len") => `(tactic| (k_here; (with_reducible show wpAny _ _ (call (Value.builtin "len") [Value.ref _]) _ _ _); k_dflt (refine' len_c ?N ?m ?z ?_; (case N => k_asm); (case m => k_mem); (case z => omega)); k_whole; intro t' tk'))
local macro_rules | `(tactic| walk_at "call builtin:list.copy") => `(tactic| (k_here; k_dflt (refine' copyList_c ?F ?N ?m ?z ?_; (case F => k_asm); (case N => k_asm); (case m => k_mem); (case z => omega)); k_whole; intro D' h' F' N' l1; (try k_lt l1); (try k_sweep)))
local macro_rules | `(tactic| walk_at "delItem ref ref") => `(tactic| (k_here; k_dflt (refine' delSlice_c ?F ?N ?U ?a ?b ?z ?_; (case F => k_asm); (case N => k_asm); (case U => k_upd); (case a => omega); (case b => omega); (case z => omega)); k_whole; intro h' F' N'; (try k_sweep)))
local macro_rules | `(tactic| walk_at "subscriptTail Name Slice ref ref") => `(tactic| (k_here; (with_reducible show wpAny _ _ (subscriptTail _ (PySem.Expr.Slice _ _ none _) (Value.ref _) (Value.ref _)) _ _ _); k_dflt (first | (refine' sliceAll_c ?F ?N ?m ?z ?_ ?s ?t; (case F => k_asm); (case N => k_asm); (case m => k_mem); (case z => omega); (case s => with_unfolding_all rfl); (case t => kmk_pure)) | (refine' sliceUpto_c ?F ?N ?m ?a ?z ?_ ?s ?t; (case F => k_asm); (case N => k_asm); (case m => k_mem); (case a => omega); (case z => omega); (case s => with_unfolding_all rfl); (case t => kmk_pure))); intro D' h' F' N' l1; (try k_lt l1); (try k_sweep)))
local macro_rules | `(tactic| walk_at "call type:reversed") => `(tactic| (k_here; (with_reducible show wpAny _ _ (call (Value.type _) [Value.ref _]) _ _ _); k_dflt (refine' reversed_c ?F ?N ?m ?_; (case F => k_asm); (case N => k_asm); (case m => k_mem)); k_whole; intro D' h' F' N' l1; have l1' := l1; (try k_lt l1); (try k_sweep)))
local macro_rules | `(tactic| walk_at "getAttr ref") => `(tactic| (k_here; (with_reducible show wpAny _ _ (getAttr (Value.ref _) (PySem.Str.ofString "value") _) _ _ _); k_dflt (refine' getValue_c ?F ?N ?X ?a ?b ?c ?_; (case F => k_asm); (case N => k_asm); (case X => k_asm); (case a => k_mem); (case b => k_mem); (case c => assumption)); k_whole))
local macro_rules | `(tactic| walk_at "call builtin:isinstance") => `(tactic| (k_here; (with_reducible show wpAny _ _ (call _ [Value.ref _, Value.ref 67]) _ _ _); k_dflt (refine' isOp_c ?F ?N ?X ?a ?b ?_; (case F => k_asm); (case N => k_asm); (case X => k_asm); (case a => k_mem); (case b => k_mem)); k_whole))
local macro_rules | `(tactic| walk_at "compareOp Eq") => `(tactic| (k_dflt (refine' eqVal_c ?a ?b ?c ?d ?_; (case a => assumption); (case b => assumption); (case c => assumption); (case d => assumption)); k_whole))
local macro_rules | `(tactic| walk_at "subscriptTail") => `(tactic| (k_here; (with_reducible show wpAny _ _ (subscriptTail _ _ (Value.ref _) (Value.int _ _)) _ _ _); k_dflt (refine' backK_c ?N ?m ?x ?j ?a ?b ?c ?_ ; (case N => k_asm); (case m => k_mem); (case x => assumption); (case j => omega); (case a => omega); (case b => omega); (case c => omega)); k_whole))
local macro_rules | `(tactic| walk_at "call ref") => `(tactic| (k_here; (with_reducible show wpAny _ _ (call (Value.ref 241) [Value.int _ _]) _ _ _); k_dflt (refine' thing_c ?k3 ?k4 ?k5 ?k6 ?k7 ?k8 ?k9 ?_; (case k3 => ((try simp only [depth_mark, depth_under_make, depth_under_kw, depth_in1, depth_deeper, depth_Ar]); omega)); (case k4 => ((try simp only [units_Ar, units_in1, units_deeper]); omega)); (case k5 => k_asm); (case k6 => k_asm); (case k7 => k_asm); (case k8 => k_asm); (case k9 => k_asm)); k_whole; intro tp' a' dx' t1' t2' vv' vt' h' tk' F' N' hv' hvt' l1 l2 l3; (try k_lt l1); (try k_lt2 l2); (try k_lt2 l3); (try k_sweep)))
local macro_rules | `(tactic| walk_at "getAttr ref") => `(tactic| (k_here; (with_reducible show wpAny _ _ (getAttr (Value.ref _) (PySem.Str.ofString "height") _) _ _ _); k_dflt (refine' height_c ?z ?a ?b ?c ?k3 ?k4 ?k5 ?k6 ?k7 ?k8 ?k9 ?_; (case k6 => k_asm); (case k7 => k_asm); (case z => omega); (case a => k_mem); (case b => k_mem); (case c => k_mem); (case k3 => ((try simp only [depth_mark, depth_under_make, depth_under_kw, depth_in1, depth_deeper, depth_Ar]); omega)); (case k4 => ((try simp only [units_Ar, units_in1, units_deeper]); omega)); (case k5 => k_asm); (case k8 => k_asm); (case k9 => k_asm)); k_whole; intro t' h' tk' F' N'; (try k_sweep)))
local macro_rules | `(tactic| k_all) => `(tactic| exact allLt_ne (allLt_trans (by assumption) (by omega)))
local macro_rules | `(tactic| k_all) => `(tactic| exact allNe_to (by assumption))
local macro_rules | `(tactic| walk_at "call ref") => `(tactic| (k_here; (with_reducible show wpAny _ _ (call (Value.ref 180) [Value.ref _, Value.ref _]) _ _ _); k_dflt (refine' getDepth_c ?c8 ?ops ?z ?a ?b ?c ?e ?f ?g ?k3 ?k4 ?k5 ?k6 ?k7 ?k8 ?k9 ?_; (case k6 => k_asm); (case k7 => k_asm); (case a => k_mem); (case b => k_mem); (case c => k_mem); (case e => k_mem); (case f => k_mem); (case g => assumption); (case ops => exact Ops.mono (by assumption) (by intro p hp; repeat (first | assumption | apply List.Mem.tail))); (case c8 => omega); (case z => omega); (case k3 => ((try simp only [depth_mark, depth_under_make, depth_under_kw, depth_in1, depth_deeper, depth_Ar]); omega)); (case k4 => ((try simp only [units_Ar, units_in1, units_deeper]); omega)); (case k5 => k_asm); (case k8 => k_asm); (case k9 => k_asm)); k_whole; intro r' h' tk' hr' F' N'; (try k_sweep)))
local macro_rules | `(tactic| walk_at "compareOp In") => `(tactic| (k_here; (with_reducible show wpAny _ _ (compareOp CmpOp.In (Value.ref _) (Value.ref _)) _ _ _); k_dflt (refine' inOps_c ?o ?ps ?m ?k3 ?k4 ?k5 ?k6 ?k7 ?k8 ?k9 ?_; (case k6 => k_asm); (case k7 => k_asm); (case m => k_mem); (case o => assumption); (case ps => assumption); (case k3 => ((try simp only [depth_mark, depth_under_make, depth_under_kw, depth_in1, depth_deeper, depth_Ar]); omega)); (case k4 => ((try simp only [units_Ar, units_in1, units_deeper]); omega)); (case k5 => k_asm); (case k8 => k_asm); (case k9 => k_asm)); k_whole; intro h' tk' F' N'; (try k_sweep)))
local macro_rules | `(tactic| walk_at "compareOp Is int ref") => `(tactic| refine wpAny_is_other (by rfl) (by intro x; cases x) ?_)
local macro_rules | `(tactic| walk_at "formatField ref") => `(tactic| (k_here; (with_reducible show wpAny _ _ (formatField (Value.ref _) _) _ _ _); k_dflt (refine' fmtOps_c ?ps ?l ?m ?k3 ?k4 ?k5 ?k6 ?k7 ?k8 ?k9 ?_; (case k6 => k_asm); (case k7 => k_asm); (case m => k_mem); (case ps => assumption); (case l => first | assumption | omega); (case k3 => ((try simp only [depth_mark, depth_under_make, depth_under_kw, depth_in1, depth_deeper, depth_Ar]); omega)); (case k4 => ((try simp only [units_Ar, units_in1, units_deeper]); omega)); (case k5 => k_asm); (case k8 => k_asm); (case k9 => k_asm)); k_whole; intro y' h' tk' t' hy' F' N'; (try k_sweep)))
local macro_rules | `(tactic| walk_at "call ref") => `(tactic| (k_here; (with_reducible show wpAny _ _ (call (Value.ref 126) [Value.str (nm _) _]) _ _ _); k_dflt (refine' mkVar_c (nm_ok ?kj).1 (nm_ok ?kj).2 ?k3 ?k4 ?k5 ?k6 ?k7 ?k8 ?k9 ?_; (case kj => omega); (case k3 => ((try simp only [depth_mark, depth_under_make, depth_under_kw, depth_in1, depth_deeper, depth_Ar]); omega)); (case k4 => ((try simp only [units_Ar, units_in1, units_deeper]); omega)); (case k5 => k_asm); (case k6 => k_asm); (case k7 => k_asm); (case k8 => k_asm); (case k9 => k_asm)); k_whole; intro a' dx' t1' t2' tv' h' tk' F' N' l1 l2; (try k_lt l1); (try k_lt2 l2); (try k_sweep)))
local macro_rules | `(tactic| walk_at "call ref") => `(tactic| (k_here; (with_reducible show wpAny _ _ (call (Value.ref 187) [Value.ref _, Value.ref _]) _ _ _); k_dflt (refine' phi_c ?hD ?ops ?ps ?pl ?z ?a ?b ?c ?e ?k3 ?k4 ?k5 ?k6 ?k7 ?k8 ?k9 ?_ ?_; (case k6 => k_asm); (case k7 => k_asm); (case hD => assumption); (case a => k_mem); (case b => k_mem); (case c => k_mem); (case e => k_mem); (case ops => assumption); (case ps => assumption); (case pl => omega); (case z => omega);  (case k3 => ((try simp only [depth_mark, depth_under_make, depth_under_kw, depth_in1, depth_deeper, depth_Ar]); omega)); (case k4 => ((try simp only [units_Ar, units_in1, units_deeper]); omega)); (case k5 => k_asm); (case k8 => k_asm); (case k9 => k_asm)); (focus (k_whole; intro r' h' tk' hr' F' N'; (try k_sweep))); (focus (k_whole; intro e' h' tk' g' nw' h2' FG' hs' R' U'))))
variable {w : World} {s : Shared} {base : Heap} {outer : List Env} {p : Program} {loose : List Str} {mean : ExcName → Option Value} {mg mb : Str → Option Value}
variable {h₀ : Heap} {m : Str → Option Value} {news : List (Addr × Obj)} {Q : Value → Shared → Prop} {E : Value → Shared → Prop} {A₀ : Around}
variable {cn : Str} {nms : List (Str × NameKind)} {b1 b2 : Bool} {more : List (Str × Const)} {L fa : Addr} {cd : Value} {cl : List (Str × Addr)} {d u : Nat}
variable {v : Value} {t1 t2 : Tok}
variable {x dx lst a da : Addr} {ts : Tok} {vs : List Value} {n : Nat} {j : Int} {t : Tok} {k c : Nat} {rest : List (Addr × Obj)}
theorem lawOne_c {cs pcs : List Nat} {ns : List Value} {nl : Addr} {nn : Nat} (hnms : Nms ns pcs) (hns : ns.length ≤ 50) (hops : Ops w.params news vs cs) (hlen : vs.length ≤ 100) (hx : (x, instObj 225 dx) ∈ news) (hdx : (dx, stDict w.params lst ts) ∈ news) (hl : (lst, W.listOf vs.toArray n) ∈ news)
   (hnl : (nl, W.listOf ns.toArray nn) ∈ news)
   (hd : d ≤ 350) (hu : u ≤ 50) (B : Below A₀ base [] h₀) (F : Fr h₀ L s.heap m) (N : News h₀ L s.heap news) (XB : (Mine.hd.heap_39 w.params).In base) (TB : Top p loose mean mg mb base)
   (X : (Mine.hd.heap_39 w.params).In h₀) (T : Top p loose mean mg mb h₀)
   (h : ∀ v h' tk, OneIs cs pcs v → Fr h₀ L h' m → News h₀ L h' news → Q v { s with heap := h', toks := tk }) :
   wpAny (model PR w) (Ar d u [EV cn nms b1 b2 more L fa cd cl]) (call (.ref 251) [.ref x, .ref nl]) Q E s := by
  refine wpAny_call ?_
  refine' codeS0X ?k1 ?k2 ?k3 ?k4 ?k5 ?kA ?kF ?kK ?k6 ?k7 ?k8 ?k9 ?kB ?_ ?c2 ?c3 ?c4 ?c5
  case kA => exact rfl
  case kF => exact rfl
  case kK => exact rfl
  case k2 => k_asm
  case k1 => k_asm
  case k3 => exact X
  case k4 => k_asm
  case k5 => exact T
  case k6 => k_is
  case k7 => k_is
  case k8 => k_room
  case k9 => exact BindsTo.of_eq rfl
  case kB => exact locs rfl
  case c2 => exact rfl
  case c3 => exact rfl
  case c4 => exact rfl
  case c5 => decide
  k_whole; intro g' L' h' FG' F' N' B' X' T' D'; (try dsimp only); (try k_lift B'); (try k_fold)
  repeat' ((fail_if_success (first | (with_reducible show wpAny _ _ (eval (PySem.Expr.ListComp _ _ _ _) _) _ _ _))); (first | (k_unfold; (try dsimp only)) | (k_end; wrow_close) | walk1 | (dsimp only; walk1) | (leave1; walk_say "STEP leave1"; try dsimp only) | fail "no step"))
  k_dflt (refine LCg.ListComp_U (F₀ := by k_asm) (by rfl) (by decide) (by rfl) (by decide) (by rfl) ?_)
  repeat' ((fail_if_success (first | (with_reducible show LCg.CompSrc _ _ _ _ _ _ _ _ _ _ _ _ _ _))); (first | (k_unfold; (try dsimp only)) | (k_end; wrow_close) | walk1 | (dsimp only; walk1) | (leave1; walk_say "STEP leave1"; try dsimp only) | fail "no step"))
  k_dflt (refine LCg.CompSrc.ledger (by rfl) (by k_asm) (by k_asm) (by k_mem) ?hsz ?_)
  case hsz => rw [List.size_toArray, sizeLine_eq]; omega
  intro g''
  refine compRest_ind (fun i ys nw => Ops w.params nw ys (pcs.take i) ∧ ∀ p ∈ news, p ∈ nw) _ ⟨Ops.nil, fun _ h => h⟩ ?step ?fin
  case step =>
    intro i ys nw v I oI C oC D m₂ h₂ tk₂ E' hi ⟨hys, hsub⟩ hv hC hx2 F₂ N₂ off ne
    obtain ⟨c, hci⟩ : ∃ c, pcs[i]? = some c := ⟨_, List.getElem?_eq_getElem (by rw [List.size_toArray] at hi; rw [← hnms.1]; exact hi)⟩
    obtain ⟨h8, hev, tv, rfl⟩ := hnms.2 i v c (by simpa using hv) hci
    have hc4 : c / 2 < 4 := by omega
    repeat' ((fail_if_success (first | (with_reducible show LCg.CompEnd _ _ _ _ _ _ _ _ _ _ _ _ _ _))); (first | (k_unfold; (try dsimp only)) | (k_end; wrow_close) | walk1 | (dsimp only; walk1) | (leave1; walk_say "STEP leave1"; try dsimp only) | fail "no step"))
    (rename News _ _ _ ((_, instObj 126 _) :: _) => N9)
    (rename _ ∧ _ ∧ _ ∧ AllLt _ nw => q9)
    obtain ⟨q1, q2, q3, q4⟩ := q9
    have hname := nm_name hc4
    rw [hname] at N9
    refine compEnd_2 (by assumption) N9 off q1 q2 q3 (by assumption) ?zS ?zr
    case zS => exact Or.inr ⟨_, .tail _ (.tail _ (hsub _ hnl)), rfl, _, rfl⟩
    case zr =>
      refine ⟨?_, fun p hp => .tail _ (.tail _ (hsub p hp))⟩
      rw [List.take_add_one, hci]
      refine (hys.mono fun p hp => .tail _ (.tail _ hp)).snoc ⟨_, _, _, _, _, rfl, h8, ?_, .tail _ (.head _), ?_⟩
      · rw [show clsOf c = 126 from if_pos hev]; exact .head _
      · unfold IsVal; rw [if_pos hev]; exact ⟨_, rfl⟩
  case fin =>
    rw [List.size_toArray, hnms.1, List.take_length]
    intro ys nw ⟨hys, hsub⟩
    replace hx := hsub _ hx
    replace hdx := hsub _ hdx
    replace hl := hsub _ hl
    replace hops := hops.mono hsub
    unfold LCg.FinE
    intro D' h' tk' F' N' o1'
    (have N'' : News _ _ _ ((D', W.listOf ys.toArray ys.length) :: nw) := N')
    clear N' hnl
    replace hys : Ops w.params ((D', W.listOf ys.toArray ys.length) :: nw) ys pcs := hys.mono fun _ h => .tail _ h
    replace hops := hops.mono fun p (h : p ∈ nw) => List.Mem.tail (D', W.listOf ys.toArray ys.length) h
    have hyl : ys.length ≤ 100 := by rw [hys.1, ← hnms.1]; omega
    repeat' ((fail_if_success (with_reducible show wpAny _ _ (call (Value.ref 187) _ _) _ _ _)); (first | (k_unfold; (try dsimp only)) | (k_end; wrow_close) | walk1 | (dsimp only; walk1) | (leave1; walk_say "STEP leave1"; try dsimp only) | fail "no step"))
    k_dflt (refine' phi_c ?hD ?ops ?ps ?pl ?z ?a ?b ?c ?e ?k3 ?k4 ?k5 ?k6 ?k7 ?k8 ?k9 ?_ ?_)
    (case k6 => k_asm); (case k7 => k_asm); (case hD => assumption); (case a => k_mem); (case b => k_mem); (case c => k_mem); (case e => k_mem); (case ops => assumption); (case ps => assumption); (case pl => omega); (case z => omega);  (case k3 => ((try simp only [depth_mark, depth_under_make, depth_under_kw, depth_in1, depth_deeper, depth_Ar]); omega)); (case k4 => ((try simp only [units_Ar, units_in1, units_deeper]); omega)); (case k5 => k_asm); (case k8 => k_asm); (case k9 => k_asm)
    · k_whole; intro r' h' tk' hr' F' N'
      k_steps
      exact h _ _ _ (.inl hr') (by assumption) (News.sub (by assumption) fun p hp => .tail _ (hsub p hp))
    · k_whole; intro e' h' tk' g'' nw' h2' FG' hs' R' U'
      k_steps
      exact h _ _ _ (.inr ⟨h2', _, rfl⟩) (by assumption) (News.sub (by assumption) fun p hp => hs' _ (.tail _ (hsub p hp)))
end
end Mine
namespace Mine
section
local macro_rules | `(tactic| k_room) => `(tactic| ((try simp only [depth_mark, depth_under_make, depth_under_kw, depth_in1, depth_deeper, depth_Ar, recursionLimit]); omega))
local macro_rules | `(tactic| walk_at "wpAt") => `(tactic| dsimp only)
local macro_rules | `(tactic| walk_at "wpAt") => `(tactic| (ks_step "exec Expr"; k_dflt (refine ks_wpAt_Expr_any ?_)))
local macro_rules | `(tactic| walk_at "wpAt") => `(tactic| (ks_step "eval Call"; k_dflt (refine ks_wpAt_MethodCall ?_)))
local macro_rules | `(tactic| k_units) => `(tactic| ((simp only [units_Ar, units_in1, units_deeper, cLine_is]); omega))
local macro_rules | `(tactic| k_mem) => `(tactic| assumption)
local macro_rules | `(tactic| k_all) => `(tactic| first | assumption | exact allLt_ne (by assumption))
variable {w : World} {s : Shared} {base : Heap} {outer : List Env} {p : Program} {loose : List Str} {mean : ExcName → Option Value} {mg mb : Str → Option Value}
variable {h₀ : Heap} {m : Str → Option Value} {news : List (Addr × Obj)} {Q : Value → Shared → Prop} {E : Value → Shared → Prop} {A₀ : Around}
variable {cn : Str} {nms : List (Str × NameKind)} {b1 b2 : Bool} {more : List (Str × Const)} {L fa : Addr} {cd : Value} {cl : List (Str × Addr)} {d u : Nat}
variable {v : Value} {t1 t2 : Tok}
variable {x dx lst a da : Addr} {ts : Tok} {vs : List Value} {n : Nat} {j : Int} {t : Tok} {k c : Nat} {rest : List (Addr × Obj)}
theorem dict_ne {es : List DictEntry} {k : Nat} {its : Array Value} {q : Nat} : dictOf es k ≠ W.listOf its q := fun e => by
  have := congrArg Obj.cls e
  simp [dictOf, W.listOf] at this
theorem mem_off {pre post : List (Addr × Obj)} {q e : Addr × Obj} (h : q ∈ pre ++ e :: post) (hne : q.2 ≠ e.2) : q ∈ pre ++ post := by
  rcases List.mem_append.mp h with h | h
  · exact List.mem_append_left _ h
  · rcases List.mem_cons.mp h with h | h
    · rw [h] at hne; exact absurd rfl hne
    · exact List.mem_append_right _ h
theorem news_put {h : Heap} {pre post : List (Addr × Obj)} {e : Addr × Obj} (N : News h₀ L h (e :: (pre ++ post))) : News h₀ L h (pre ++ e :: post) :=
  News.sub N fun p hp => by
    rcases List.mem_append.mp hp with hp | hp
    · exact .tail _ (List.mem_append_left _ hp)
    · rcases List.mem_cons.mp hp with hp | hp
      · rw [hp]; exact .head _
      · exact .tail _ (List.mem_append_right _ hp)
theorem news_take {h : Heap} {pre post : List (Addr × Obj)} {e : Addr × Obj} (N : News h₀ L h (pre ++ e :: post)) : News h₀ L h (e :: (pre ++ post)) :=
  News.sub N fun p hp => by
    rcases List.mem_cons.mp hp with hp | hp
    · rw [hp]; exact List.mem_append_right _ (.head _)
    · rcases List.mem_append.mp hp with hp | hp
      · exact List.mem_append_left _ hp
      · exact List.mem_append_right _ (.tail _ hp)
theorem all_off {pre post : List (Addr × Obj)} {a : Addr} (h1 : ∀ p ∈ pre, p.1 ≠ a) (h2 : ∀ p ∈ post, p.1 ≠ a) : ∀ p ∈ pre ++ post, p.1 ≠ a := fun p hp =>
  (List.mem_append.mp hp).elim (h1 p) (h2 p)
variable {gU : Obj → List (Addr × Obj)}
theorem pushF_c (hc8 : c < 8) (hlen : vs.length ≤ 100) (U : UpdF lst (W.listOf vs.toArray n) news gU) (hx : (x, instObj 225 dx) ∈ news) (hdx : (dx, stDict w.params lst ts) ∈ news) (ha : (a, instObj (clsOf c) da) ∈ news) (hda : (da, opDict w.params v t1 t2) ∈ news)
   (hd : d ≤ 380) (hu : u ≤ 80) (B : Below A₀ base outer h₀) (F : Fr h₀ L s.heap m) (N : News h₀ L s.heap news)
   (X : (Mine.hd.heap_39 w.params).In h₀) (T : Top p loose mean mg mb h₀)
   (h : ∀ n' h' tk, Fr h₀ L h' m → News h₀ L h' (gU (W.listOf (vs ++ [Value.ref a]).toArray n')) → Q .none { s with heap := h', toks := tk }) :
   wpAny (model PR w) (Ar d u (EV cn nms b1 b2 more L fa cd cl :: outer)) (call (.ref 165) [.ref x, .ref a]) Q E s := by
  obtain ⟨pre, post, rfl, hg, h1, h2⟩ := U.split
  refine push_c (rest := pre ++ post) hc8 hlen (all_off h1 h2) (mem_off hx (by intro e; cases e)) (mem_off hdx dict_ne) (mem_off ha (by intro e; cases e)) (mem_off hda dict_ne) hd hu B F (news_take N) X T fun n' h' tk F' N' => h n' h' tk F' ?_
  rw [hg]; exact news_put N'
theorem dupF_c (hj : j = -(k : Int)) (hk : k < vs.length) (hlen : vs.length ≤ 100) (U : UpdF lst (W.listOf vs.toArray n) news gU) (hx : (x, instObj 225 dx) ∈ news) (hdx : (dx, stDict w.params lst ts) ∈ news)
   (hd : d ≤ 370) (hu : u ≤ 70) (B : Below A₀ base outer h₀) (F : Fr h₀ L s.heap m) (N : News h₀ L s.heap news)
   (X : (Mine.hd.heap_39 w.params).In h₀) (T : Top p loose mean mg mb h₀)
   (h : ∀ v n' h' tk, vs[vs.length - 1 - k]? = some v → Fr h₀ L h' m → News h₀ L h' (gU (W.listOf (vs ++ [v]).toArray n')) → Q .none { s with heap := h', toks := tk }) :
   wpAny (model PR w) (Ar d u (EV cn nms b1 b2 more L fa cd cl :: outer)) (call (.ref 208) [.ref x, .int j t]) Q E s := by
  obtain ⟨pre, post, rfl, hg, h1, h2⟩ := U.split
  refine dup_c (rest := pre ++ post) hj hk hlen (all_off h1 h2) (mem_off hx (by intro e; cases e)) (mem_off hdx dict_ne) hd hu B F (news_take N) X T fun v n' h' tk hv F' N' => h v n' h' tk hv F' ?_
  rw [hg]; exact news_put N'
theorem swapF_c (hj : j = -(k : Int)) (hk0 : 0 < k) (hk : k < vs.length) (hlen : vs.length ≤ 100) (U : UpdF lst (W.listOf vs.toArray n) news gU) (hx : (x, instObj 225 dx) ∈ news) (hdx : (dx, stDict w.params lst ts) ∈ news)
   (hd : d ≤ 370) (hu : u ≤ 70) (B : Below A₀ base outer h₀) (F : Fr h₀ L s.heap m) (N : News h₀ L s.heap news)
   (X : (Mine.hd.heap_39 w.params).In h₀) (T : Top p loose mean mg mb h₀)
   (h : ∀ v v' h' tk, vs[vs.length - 1 - k]? = some v → vs[vs.length - 1]? = some v' → Fr h₀ L h' m → News h₀ L h' (gU (W.listOf ((vs.set (vs.length - 1) v).set (vs.length - 1 - k) v').toArray n)) → Q .none { s with heap := h', toks := tk }) :
   wpAny (model PR w) (Ar d u (EV cn nms b1 b2 more L fa cd cl :: outer)) (call (.ref 215) [.ref x, .int j t]) Q E s := by
  obtain ⟨pre, post, rfl, hg, h1, h2⟩ := U.split
  refine swap_c (rest := pre ++ post) hj hk0 hk hlen (all_off h1 h2) (mem_off hx (by intro e; cases e)) (mem_off hdx dict_ne) hd hu B F (news_take N) X T fun v v' h' tk hv hv' F' N' => h v v' h' tk hv hv' F' ?_
  rw [hg]; exact news_put N'
theorem pokeF_c (hj : j = -(k : Int)) (hk : k < vs.length) (hlen : vs.length ≤ 100) (U : UpdF lst (W.listOf vs.toArray n) news gU) (hx : (x, instObj 225 dx) ∈ news) (hdx : (dx, stDict w.params lst ts) ∈ news) (ha : (a, instObj (clsOf c) da) ∈ news) (hda : (da, opDict w.params v t1 t2) ∈ news)
   (hd : d ≤ 370) (hu : u ≤ 70) (B : Below A₀ base outer h₀) (F : Fr h₀ L s.heap m) (N : News h₀ L s.heap news)
   (X : (Mine.hd.heap_39 w.params).In h₀) (T : Top p loose mean mg mb h₀)
   (h : ∀ h' tk, Fr h₀ L h' m → News h₀ L h' (gU (W.listOf (vs.set (vs.length - 1 - k) (.ref a)).toArray n)) → Q .none { s with heap := h', toks := tk }) :
   wpAny (model PR w) (Ar d u (EV cn nms b1 b2 more L fa cd cl :: outer)) (call (.ref 201) [.ref x, .int j t, .ref a]) Q E s := by
  obtain ⟨pre, post, rfl, hg, h1, h2⟩ := U.split
  refine poke_c (rest := pre ++ post) hj hk hlen (all_off h1 h2) (mem_off hx (by intro e; cases e)) (mem_off hdx dict_ne) (mem_off ha (by intro e; cases e)) (mem_off hda dict_ne) hd hu B F (news_take N) X T fun h' tk F' N' => h h' tk F' ?_
  rw [hg]; exact news_put N'
theorem popF_c {num : Int} (hn1 : 1 ≤ num) (hn2 : num ≤ vs.length) (hlen : vs.length ≤ 100) (U : UpdF lst (W.listOf vs.toArray n) news gU) (hx : (x, instObj 225 dx) ∈ news) (hdx : (dx, stDict w.params lst ts) ∈ news)
   (hd : d ≤ 370) (hu : u ≤ 70) (B : Below A₀ base outer h₀) (F : Fr h₀ L s.heap m) (N : News h₀ L s.heap news)
   (X : (Mine.hd.heap_39 w.params).In h₀) (T : Top p loose mean mg mb h₀)
   (h : ∀ n' h' tk, Fr h₀ L h' m → News h₀ L h' (gU (W.listOf (vs.take (vs.length - num.toNat)).toArray n')) → Q .none { s with heap := h', toks := tk }) :
   wpAny (model PR w) (Ar d u (EV cn nms b1 b2 more L fa cd cl :: outer)) (call (.ref 173) [.ref x, .int num t]) Q E s := by
  obtain ⟨pre, post, rfl, hg, h1, h2⟩ := U.split
  refine pop_c (rest := pre ++ post) hn1 hn2 hlen (all_off h1 h2) (mem_off hx (by intro e; cases e)) (mem_off hdx dict_ne) hd hu B F (news_take N) X T fun n' h' tk F' N' => h n' h' tk F' ?_
  rw [hg]; exact news_put N'
theorem pop1F_c (hn2 : 1 ≤ vs.length) (hlen : vs.length ≤ 100) (U : UpdF lst (W.listOf vs.toArray n) news gU) (hx : (x, instObj 225 dx) ∈ news) (hdx : (dx, stDict w.params lst ts) ∈ news)
   (hd : d ≤ 370) (hu : u ≤ 70) (B : Below A₀ base outer h₀) (F : Fr h₀ L s.heap m) (N : News h₀ L s.heap news)
   (X : (Mine.hd.heap_39 w.params).In h₀) (T : Top p loose mean mg mb h₀)
   (h : ∀ n' h' tk, Fr h₀ L h' m → News h₀ L h' (gU (W.listOf (vs.take (vs.length - 1)).toArray n')) → Q .none { s with heap := h', toks := tk }) :
   wpAny (model PR w) (Ar d u (EV cn nms b1 b2 more L fa cd cl :: outer)) (call (.ref 173) [.ref x]) Q E s := by
  obtain ⟨pre, post, rfl, hg, h1, h2⟩ := U.split
  refine pop1_c (rest := pre ++ post) hn2 hlen (all_off h1 h2) (mem_off hx (by intro e; cases e)) (mem_off hdx dict_ne) hd hu B F (news_take N) X T fun n' h' tk F' N' => h n' h' tk F' ?_
  rw [hg]; exact news_put N'
theorem copyF_c (hlen : vs.length ≤ 100) (U : UpdF lst (W.listOf vs.toArray n) news gU) (hx : (x, instObj 225 dx) ∈ news) (hdx : (dx, stDict w.params lst ts) ∈ news)
   (hd : d ≤ 370) (hu : u ≤ 70) (B : Below A₀ base outer h₀) (F : Fr h₀ L s.heap m) (N : News h₀ L s.heap news)
   (X : (Mine.hd.heap_39 w.params).In h₀) (T : Top p loose mean mg mb h₀)
   (h : ∀ y dy l' ty n' h' tk, Fr h₀ L h' m → News h₀ L h' ((y, instObj 225 dy) :: (dy, stDict w.params l' ty) :: (l', W.listOf vs.toArray n') :: news) → (∀ p ∈ news, p.1 < dy) → dy < y → y < l' → Q (.ref y) { s with heap := h', toks := tk }) :
   wpAny (model PR w) (Ar d u (EV cn nms b1 b2 more L fa cd cl :: outer)) (call (.ref 150) [.ref x]) Q E s := by
  obtain ⟨pre, post, rfl, hg, h1, h2⟩ := U.split
  have sub : ∀ p ∈ pre ++ (lst, W.listOf vs.toArray n) :: post, p ∈ (lst, W.listOf vs.toArray n) :: (pre ++ post) := fun p hp => by
    rcases List.mem_append.mp hp with hp | hp
    · exact .tail _ (List.mem_append_left _ hp)
    · rcases List.mem_cons.mp hp with hp | hp
      · rw [hp]; exact .head _
      · exact .tail _ (List.mem_append_right _ hp)
  refine copy_c (rest := pre ++ post) hlen (all_off h1 h2) (mem_off hx (by intro e; cases e)) (mem_off hdx dict_ne) hd hu B F (news_take N) X T fun y dy l' ty n' h' tk F' N' q1 q2 q3 => h y dy l' ty n' h' tk F' ?_ (fun p hp => q1 p (sub p hp)) q2 q3
  refine News.sub N' fun p hp => ?_
  rcases List.mem_cons.mp hp with rfl | hp
  · exact .head _
  · rcases List.mem_cons.mp hp with rfl | hp
    · exact .tail _ (.head _)
    · rcases List.mem_cons.mp hp with rfl | hp
      · exact .tail _ (.tail _ (.head _))
      · exact .tail _ (.tail _ (.tail _ (sub p hp)))
end
end Mine
namespace Mine
section
local macro_rules | `(tactic| k_room) => `(tactic| ((try simp only [depth_mark, depth_under_make, depth_under_kw, depth_in1, depth_deeper, depth_Ar, recursionLimit]); omega))
local macro_rules | `(tactic| walk_at "wpAt") => `(tactic| dsimp only)
local macro_rules | `(tactic| walk_at "wpAt") => `(tactic| (ks_step "exec Expr"; k_dflt (refine ks_wpAt_Expr_any ?_)))
local macro_rules | `(tactic| walk_at "wpAt") => `(tactic| (ks_step "eval Call"; k_dflt (refine ks_wpAt_MethodCall ?_)))
local macro_rules | `(tactic| k_units) => `(tactic| ((simp only [units_Ar, units_in1, units_deeper, cLine_is]); omega))
local macro_rules | `(tactic| k_mem) => `(tactic| assumption)
local macro_rules | `(tactic| k_all) => `(tactic| first | assumption | exact allLt_ne (by assumption))
variable {w : World} {s : Shared} {base : Heap} {outer : List Env} {p : Program} {loose : List Str} {mean : ExcName → Option Value} {mg mb : Str → Option Value}
variable {h₀ : Heap} {m : Str → Option Value} {news : List (Addr × Obj)} {Q : Value → Shared → Prop} {E : Value → Shared → Prop} {A₀ : Around}
variable {cn : Str} {nms : List (Str × NameKind)} {b1 b2 : Bool} {more : List (Str × Const)} {L fa : Addr} {cd : Value} {cl : List (Str × Addr)} {d u : Nat}
section
variable {prog : Program} {A : Around} {env : Env}
theorem enumLoop2 {R : Result → Shared → Prop} {xi xc : Str} {pk pv pt : Pos} {x1 : Nat} {body : List Stmt} {e it l : Addr} {lo : Obj} {n : Nat} {P : Nat → Value → Prop} {St : Nat → Heap → Prop}
    (hh : A.handled = none) (D : Draws prog w A.in1 it [it, l] n P St) (hxi : env.kindOf xi = some .local) (hxc : env.kindOf xc = some .local)
    (hp : (env.scope.kind == .class || (env.scope.kind == .module && env.locals != env.globals)) = false)
    (hei : e ≠ it) (hle : l ≠ e) (hLe : env.locals ≠ e) (hLi : env.locals ≠ it) (hLl : env.locals ≠ l)
    (he : IsEnum s.heap e it 0 .none) (hst : St 0 s.heap) (F : Fr h₀ env.locals s.heap m) (N : News h₀ env.locals s.heap news) (hoff : ∀ p ∈ news, p.1 ≠ e ∧ p.1 ≠ it) (h0e : h₀.get? e = none) (h0i : h₀.get? it = none)
    (J : Nat → (Str → Option Value) → List (Addr × Obj) → Prop) (h0 : J 0 m news) (hJl : ∀ i m nw, J i m nw → (l, lo) ∈ nw)
    (step : ∀ i v t m₁ news₁ oe oi h tk, i < n → P i v → J i m₁ news₁ → (∀ p ∈ news₁, p.1 ≠ e ∧ p.1 ≠ it) →
      Fr h₀ env.locals h (fun y => if y = xc then some v else if y = xi then some (.int i t) else m₁ y) → News h₀ env.locals h ((e, oe) :: (it, oi) :: news₁) → (∃ fs, oe.data = .fields fs) → St (i + 1) h →
      wpAny (model prog w) A (execs body env) (StepE h₀ env.locals e oe it oi (J (i + 1)) { s with heap := h, toks := tk } (fun v s' => R (.ok (.ret v)) s') fun s' => R (.ok .next) s') (notedBy (model prog w) A env fun e s' => R (.error e) s') { s with heap := h, toks := tk })
    (hR : ∀ h' tk m' news', Fr h₀ env.locals h' m' → News h₀ env.locals h' news' → J n m' news' → R (.ok .next) { s with heap := h', toks := tk }) :
    codeAny (model prog w) A (.forLoop (.Tuple [.Name xi pk, .Name xc pv] x1 pt) (.ref e) body [] env) R s := by
  have hef : e ∉ [it, l] := by simp; exact ⟨hei, hle.symm⟩
  have W := WalksT.enumerateD D e hei hef (by simp)
  have hLf : env.locals ∉ e :: [it, l] := by simp; exact ⟨hLe, hLi, hLl⟩
  have hLw : env.locals ∉ [e, it] := by simp; exact ⟨hLe, hLi⟩
  have old : ∀ b o, h₀.get? b = some o → b ∉ [e, it] := fun b o q hb => by
    rcases List.mem_cons.mp hb with rfl | hb
    · rw [h0e] at q; cases q
    · rw [List.mem_singleton.mp hb, h0i] at q; cases q
  refine codeAny_forLoop_any
    (fun k s' => ∃ (h' : Heap) (tk : Nat) (m' : Str → Option Value) (news' : List (Addr × Obj)) (i : Nat), s' = { s with heap := h', toks := tk } ∧ ((∃ old, IsEnum h' e it i old) ∧ St i h') ∧ Fr h₀ env.locals h' m' ∧ News h₀ env.locals h' news' ∧ (∀ p ∈ news', p.1 ≠ e ∧ p.1 ≠ it) ∧ J i m' news' ∧ i ≤ n ∧ k = n + 1 - i) ?_ (n + 1)
    ⟨s.heap, s.toks, m, news, 0, rfl, ⟨⟨_, by simpa using he⟩, hst⟩, F, N, hoff, h0, Nat.zero_le _, rfl⟩
  rintro k s' ⟨H, tk, m', news', i, rfl, hst', F', N', ho', hJ, hi, rfl⟩
  have notw : ∀ p ∈ news', p.1 ∉ [e, it] := fun p hp hm => by
    rcases List.mem_cons.mp hm with q | hm
    · exact (ho' p hp).1 q
    · exact (ho' p hp).2 (List.mem_singleton.mp hm)
  have next : ∀ h₁ : Heap, (∀ b o, b ∉ [e, it] → H.get? b = some o → h₁.get? b = some o) → Fr h₀ env.locals h₁ m' ∧ News h₀ env.locals h₁ news' := fun h₁ hk₁ =>
    ⟨⟨F'.ns.at' fun o e => hk₁ _ o hLw e, fun b o e => hk₁ b o (old b o e) (F'.keep b o e), F'.above⟩, fun p hp => ⟨hk₁ _ _ (notw p hp) (N' p hp).1, (N' p hp).2⟩⟩
  by_cases hlt : i < n
  · refine W.item i _ _ _ hlt hst' fun T vals h₁ tk₁ hPt _ hT hMid hk₁ => ?_
    obtain ⟨t, x, hPx, rfl⟩ := hPt
    refine W.go _ x1 pt i T _ _ _ hMid fun h₂ hst₂ hk₂ => ?_
    have ht₂ : h₂.IsTuple T #[.int i t, x] := hT.at fun o e => hk₂ T o (W.apart i T h₁ hMid) e
    refine wpAny_assign_Tuple hh ht₂ rfl rfl fun h₃ hx₃ => ?_
    replace hx₃ : Heap.ExtBut h₂.objs.size h₂ h₃ := hx₃
    have up₃ : ∀ b o, h₂.get? b = some o → h₃.get? b = some o := fun b o x => hx₃ b o (Nat.ne_of_lt (Heap.lt_size x)) x
    obtain ⟨F₃, N₃⟩ := next h₃ fun b o hb x => up₃ b o (hk₂ b o hb (hk₁ b o hb x))
    show wpAny _ A (do holding [x] (assign (.Name xi pk) env (.int i t)); do holding [] (assign (.Name xc pv) env x); pure ()) _ _ _
    refine wpAny_bind (wpAny_holding (wpAny_assign_Name (wpAny_storeName_local hxi F₃.ns (fun h₄ hn₄ hs₄ => ?_) hp)))
    replace hs₄ : Heap.SameBut env.locals h₃ h₄ := hs₄
    have F₄ := F₃.set hn₄ hs₄
    refine wpAny_bind (wpAny_holding (wpAny_assign_Name (wpAny_storeName_local hxc F₄.ns (fun h₅ hn₅ hs₅ => wpAny_pure ?_) hp)))
    replace hs₅ : Heap.SameBut env.locals h₄ h₅ := hs₅
    have F₅ := F₄.set hn₅ hs₅
    have N₅ : News h₀ env.locals h₅ news' := (N₃.set hs₄).set hs₅
    have hst₅ := W.frame _ _ h₅ hst₂ fun b hb o e => hs₅.extBut b o (fun q => hLf (q ▸ hb)) (hs₄.extBut b o (fun q => hLf (q ▸ hb)) (up₃ b o e))
    obtain ⟨olde, hoe⟩ := hst₅.1
    obtain ⟨oi, hoi⟩ := D.live _ _ hst₅.2
    have hoe' : ∃ oe, h₅.get? e = some oe := ⟨_, hoe⟩
    obtain ⟨oe, hoe'⟩ := hoe'
    have foe : ∃ fs, oe.data = .fields fs := ⟨_, by have q := Option.some.inj (hoe'.symm.trans hoe); rw [q]⟩
    have N₆ : News h₀ env.locals h₅ ((e, oe) :: (it, oi) :: news') := fun p hp => by
      rcases List.mem_cons.mp hp with rfl | hp
      · exact ⟨hoe', hLe.symm, h0e⟩
      · rcases List.mem_cons.mp hp with rfl | hp
        · exact ⟨hoi, hLi.symm, h0i⟩
        · exact N₅ p hp
    have hlm := hJl _ _ _ hJ
    have hl5 := (N₅ _ hlm).1
    have fin : ∀ s₃, (∃ h' tk m₂ news₂, s₃ = { s with heap := h', toks := tk } ∧ Fr h₀ env.locals h' m₂ ∧ News h₀ env.locals h' ((e, oe) :: (it, oi) :: news₂) ∧ (∀ p ∈ news₂, p.1 ≠ e ∧ p.1 ≠ it) ∧ J (i + 1) m₂ news₂) →
        ∃ k', k' < n + 1 - i ∧ ∃ (h' : Heap) (tk : Nat) (m' : Str → Option Value) (news' : List (Addr × Obj)) (i : Nat), s₃ = { s with heap := h', toks := tk } ∧ ((∃ old, IsEnum h' e it i old) ∧ St i h') ∧ Fr h₀ env.locals h' m' ∧ News h₀ env.locals h' news' ∧ (∀ p ∈ news', p.1 ≠ e ∧ p.1 ≠ it) ∧ J i m' news' ∧ i ≤ n ∧ k' = n + 1 - i := by
      rintro s₃ ⟨h₇, tk₇, m₂, news₂, rfl, F₇, N₇, ho₇, hJ₇⟩
      refine ⟨n + 1 - (i + 1), by omega, h₇, tk₇, m₂, news₂, i + 1, rfl, ?_, F₇, fun p hp => N₇ p (.tail _ (.tail _ hp)), ho₇, hJ₇, hlt, rfl⟩
      refine W.frame _ _ _ hst₅ fun b hb o q => ?_
      rcases List.mem_cons.mp hb with rfl | hb
      · rw [hoe'] at q; cases q; exact (N₇ _ (.head _)).1
      · rcases List.mem_cons.mp hb with rfl | hb
        · rw [hoi] at q; cases q; exact (N₇ _ (.tail _ (.head _))).1
        · rw [List.mem_singleton.mp hb] at q ⊢
          rw [hl5] at q; cases q
          exact (N₇ _ (.tail _ (.tail _ (hJl _ _ _ hJ₇)))).1
    refine wpAny_mono (step i x t m' news' oe oi h₅ _ hlt hPx hJ ho' F₅ N₆ foe hst₅.2) (fun f s₃ h₆ => ?_) fun _ _ e => e
    cases f with
    | ret v => exact h₆
    | brk => exact h₆
    | cont => exact fin _ h₆
    | next => exact fin _ h₆
  · have hin : i = n := by omega
    subst hin
    refine W.done _ _ _ hst' fun h₁ tk₁ hk₁ => wpAny_execs_nil ?_
    obtain ⟨F₁, N₁⟩ := next h₁ hk₁
    exact hR h₁ tk₁ m' news' F₁ N₁ hJ
theorem forEnum_c {Q : Flow → Shared → Prop} {xi xc : Str} {pk pv pt : Pos} {x1 : Nat} {body : List Stmt} {lst : Addr} {vs : List Value} {n : Nat} (hh : A.handled = none) (hE : PassesOwn (model prog w) A env E) (hxi : env.kindOf xi = some .local) (hxc : env.kindOf xc = some .local)
    (hp : (env.scope.kind == .class || (env.scope.kind == .module && env.locals != env.globals)) = false)
    (F : Fr h₀ env.locals s.heap m) (N : News h₀ env.locals s.heap news) (hm : (lst, W.listOf vs.toArray n) ∈ news)
    (J : Nat → (Str → Option Value) → List (Addr × Obj) → Prop) (h0 : J 0 m news) (hJl : ∀ i m nw, J i m nw → (lst, W.listOf vs.toArray n) ∈ nw)
    (step : ∀ i v t m₁ news₁ e oe it oi h tk, i < vs.length → vs[i]? = some v → J i m₁ news₁ → (∀ p ∈ news₁, p.1 ≠ e ∧ p.1 ≠ it) → e ≠ it → (∃ fs, oe.data = .fields fs) → (∃ fs, oi.data = .fields fs) →
      Fr h₀ env.locals h (fun y => if y = xc then some v else if y = xi then some (.int (i : Nat) t) else m₁ y) → News h₀ env.locals h ((e, oe) :: (it, oi) :: news₁) →
      wpAny (model prog w) A (execs body env) (StepE h₀ env.locals e oe it oi (J (i + 1)) { s with heap := h, toks := tk } (fun v s' => Q (.ret v) s') fun s' => Q .next s') E { s with heap := h, toks := tk })
    (done : ∀ h' tk m' news', Fr h₀ env.locals h' m' → News h₀ env.locals h' news' → J vs.length m' news' → Q .next { s with heap := h', toks := tk }) :
    wpAny (model prog w) A (call (.type "enumerate") [.ref lst]) (fun xv s₁ => wpAny (model prog w) A (pyIter xv) (fun itv s₂ => codeAny (model prog w) A (.forLoop (.Tuple [.Name xi pk, .Name xc pv] x1 pt) itv body [] env) (fun r s' => match r with | .ok f => Q f s' | .error e => cameBackBy (model prog w) A env E e s') s₂) E s₁) E s := by
  have hL := N _ hm
  refine call_enumerate_list (l := lst) (items := vs.toArray) ⟨_, hL.1, rfl, n, rfl⟩ fun h₁ he hit hz hk => ?_
  refine wpAny_pyIter_enum he ?_
  have old : ∀ p ∈ news, p.1 < s.heap.objs.size := fun p hp => Heap.lt_size (N p hp).1
  have fresh : ∀ a, s.heap.objs.size ≤ a → h₀.get? a = none := fun a ha => by
    cases q : h₀.get? a with
    | none => rfl
    | some o => exact absurd (Heap.lt_size (F.keep _ _ q)) (Nat.not_lt.mpr ha)
  have hs : vs.toArray.size = vs.length := List.size_toArray
  have hLlt := F.ns.lt
  refine enumLoop2 (m := m) (news := news) (e := s.heap.objs.size + 1) (it := s.heap.objs.size) (l := lst) (lo := W.listOf vs.toArray n) hh (Draws.list (A := A.in1) (show A.handled = none from hh) _ lst (Nat.ne_of_lt (old _ hm)) vs.toArray) hxi hxc hp (Nat.succ_ne_self _) (Nat.ne_of_lt (Nat.lt_succ_of_lt (old _ hm))) (Nat.ne_of_lt (Nat.lt_succ_of_lt hLlt)) (Nat.ne_of_lt hLlt) (Ne.symm hL.2.1) he ⟨hit, ⟨_, hk _ _ hL.1, rfl, n, rfl⟩⟩
    ⟨F.ns.at' fun o q => hk _ _ q, fun b o q => hk _ _ (F.keep b o q), F.above⟩ (fun p hp => ⟨hk _ _ (N p hp).1, (N p hp).2⟩) (fun p hp => ⟨Nat.ne_of_lt (Nat.lt_succ_of_lt (old p hp)), Nat.ne_of_lt (old p hp)⟩) (fresh _ (Nat.le_succ _)) (fresh _ (Nat.le_refl _)) J h0 hJl ?_ ?_
  · intro i v t m₁ news₁ oe oi h₂ tk hi hv hJ hoff F₂ N₂ foe hst
    rw [hs] at hi
    have foi : ∃ fs, oi.data = .fields fs := by
      obtain ⟨o, ho, r⟩ := hst.1
      have q := Option.some.inj ((N₂ _ (.tail _ (.head _))).1.symm.trans ho)
      rw [show oi = o from q]
      exact ⟨_, r.2⟩
    refine wpAny_passesOwn hE (wpAny_mono (step i v t m₁ _ _ oe _ oi h₂ tk hi (by simpa using hv) hJ hoff (Nat.succ_ne_self _) foe foi F₂ N₂) (fun f s₃ h₆ => ?_) fun _ _ q => q)
    cases f with
    | ret v => exact h₆
    | brk => exact h₆
    | next => exact h₆
    | cont => exact h₆
  · intro h' tk m' news' F' N' hj
    rw [hs] at hj
    exact done h' tk m' news' F' N' hj
end
end
end Mine
namespace Mine
section
local macro_rules | `(tactic| k_room) => `(tactic| ((try simp only [depth_mark, depth_under_make, depth_under_kw, depth_in1, depth_deeper, depth_Ar, recursionLimit]); omega))
local macro_rules | `(tactic| walk_at "wpAt") => `(tactic| dsimp only)
local macro_rules | `(tactic| walk_at "wpAt") => `(tactic| (ks_step "exec Expr"; k_dflt (refine ks_wpAt_Expr_any ?_)))
local macro_rules | `(tactic| walk_at "wpAt") => `(tactic| (ks_step "eval Call"; k_dflt (refine ks_wpAt_MethodCall ?_)))
local macro_rules | `(tactic| k_units) => `(tactic| ((simp only [units_Ar, units_in1, units_deeper, cLine_is]); omega))
local macro_rules | `(tactic| k_mem) => `(tactic| assumption)
local macro_rules | `(tactic| k_all) => `(tactic| first | assumption | exact allLt_ne (by assumption))
variable {w : World} {s : Shared} {base : Heap} {outer : List Env} {p : Program} {loose : List Str} {mean : ExcName → Option Value} {mg mb : Str → Option Value}
variable {h₀ : Heap} {m : Str → Option Value} {news : List (Addr × Obj)} {Q : Value → Shared → Prop} {E : Value → Shared → Prop} {A₀ : Around}
variable {cn : Str} {nms : List (Str × NameKind)} {b1 b2 : Bool} {more : List (Str × Const)} {L fa : Addr} {cd : Value} {cl : List (Str × Addr)} {d u : Nat}
theorem getElem?_set' {α : Type} {l : List α} {i j : Nat} {a b : α} (h : (l.set i a)[j]? = some b) : (i = j ∧ i < l.length ∧ b = a) ∨ (i ≠ j ∧ l[j]? = some b) := by
  by_cases q : i = j
  · subst q
    rw [List.getElem?_set_self'] at h
    cases q : l[i]? with
    | none => rw [q] at h; cases h
    | some c =>
      rw [q] at h
      exact .inl ⟨rfl, (List.getElem?_eq_some_iff.mp q).1, (Option.some.inj h).symm⟩
  · rw [List.getElem?_set_ne q] at h
    exact .inr ⟨q, h⟩
theorem Ops.set {P : Params} {vs : List Value} {cs : List Nat} {v : Value} {c i : Nat} (h : Ops P news vs cs) (o : OpIn P news v c) : Ops P news (vs.set i v) (cs.set i c) := by
  refine ⟨by simp [h.1], fun j v' c' h1 h2 => ?_⟩
  rcases getElem?_set' h1 with ⟨q, _, rfl⟩ | ⟨q, h1⟩ <;> rcases getElem?_set' h2 with ⟨q', _, rfl⟩ | ⟨q', h2⟩
  · exact o
  · exact absurd q q'
  · exact absurd q' q
  · exact h.2 j v' c' h1 h2
theorem Ops.take {P : Params} {vs : List Value} {cs : List Nat} {i : Nat} (h : Ops P news vs cs) : Ops P news (vs.take i) (cs.take i) := by
  refine ⟨by simp [h.1], fun j v' c' h1 h2 => ?_⟩
  rw [List.getElem?_take] at h1 h2
  split at h1
  · rename_i q
    rw [if_pos q] at h2
    exact h.2 j v' c' h1 h2
  · cases h1
theorem Ops.at {P : Params} {vs : List Value} {cs : List Nat} {v : Value} {i : Nat} (h : Ops P news vs cs) (hv : vs[i]? = some v) : ∃ c, cs[i]? = some c ∧ OpIn P news v c := by
  have hi := (List.getElem?_eq_some_iff.mp hv).1
  exact ⟨_, List.getElem?_eq_getElem (h.1 ▸ hi), h.2 i v _ hv (List.getElem?_eq_getElem (h.1 ▸ hi))⟩
def ValIn (v : Value) (c : Nat) : Prop := c < 8 ∧ IsVal c v
theorem Row.snoc {vs : List Value} {cs : List Nat} {v : Value} {c : Nat} (h : Row vs cs) (o : ValIn v c) : Row (vs ++ [v]) (cs ++ [c]) := by
  refine ⟨by simp [h.1], fun i v' c' h1 h2 => ?_⟩
  rcases Nat.lt_trichotomy i vs.length with q | q | q
  · rw [List.getElem?_append_left q] at h1
    rw [List.getElem?_append_left (by rw [← h.1]; exact q)] at h2
    exact h.2 i v' c' h1 h2
  · subst q
    rw [List.getElem?_append_right (Nat.le_refl _)] at h1
    rw [h.1, List.getElem?_append_right (Nat.le_refl _)] at h2
    simp at h1 h2
    subst h1 h2
    exact o
  · rw [List.getElem?_eq_none (by simp; omega)] at h1
    cases h1
theorem Row.set {vs : List Value} {cs : List Nat} {v : Value} {c i : Nat} (h : Row vs cs) (o : ValIn v c) : Row (vs.set i v) (cs.set i c) := by
  refine ⟨by simp [h.1], fun j v' c' h1 h2 => ?_⟩
  rcases getElem?_set' h1 with ⟨q, _, rfl⟩ | ⟨q, h1⟩ <;> rcases getElem?_set' h2 with ⟨q', _, rfl⟩ | ⟨q', h2⟩
  · exact o
  · exact absurd q q'
  · exact absurd q' q
  · exact h.2 j v' c' h1 h2
theorem Row.take {vs : List Value} {cs : List Nat} {i : Nat} (h : Row vs cs) : Row (vs.take i) (cs.take i) := by
  refine ⟨by simp [h.1], fun j v' c' h1 h2 => ?_⟩
  rw [List.getElem?_take] at h1 h2
  split at h1
  · rename_i q
    rw [if_pos q] at h2
    exact h.2 j v' c' h1 h2
  · cases h1
theorem Row.at {vs : List Value} {cs : List Nat} {v : Value} {i c : Nat} (h : Row vs cs) (hv : vs[i]? = some v) (hc : cs[i]? = some c) : ValIn v c := h.2 i v c hv hc
theorem Row.nil : Row [] [] := ⟨rfl, fun _ _ _ h => by simp at h⟩
theorem ints_at {z : Nat} {v : Value} : ∀ {vs : List Value} {ns : List Int} {z : Nat}, IntsAre vs ns → vs[z]? = some v → ∃ k t, v = .int k t
  | _, _, _, .nil, h => by simp at h
  | _, _, 0, .cons k t r, h => by simp at h; exact ⟨k, t, h.symm⟩
  | _, _, z + 1, .cons k t r, h => ints_at (z := z) r (by simpa using h)
theorem ints_len : ∀ {vs : List Value} {ns : List Int}, IntsAre vs ns → vs.length = ns.length
  | _, _, .nil => rfl
  | _, _, .cons k t r => by simp [ints_len r]
def NF (o : Obj) : Prop := ∀ fs, o.data ≠ .fields fs
theorem nf_inst {C dx : Addr} : NF (instObj C dx) := fun _ e => by cases e
theorem nf_dict {es : List DictEntry} {k : Nat} : NF (dictOf es k) := fun _ e => by cases e
theorem nf_list {its : Array Value} {k : Nat} : NF (W.listOf its k) := fun _ e => by cases e
theorem nf_cell {o : Obj} {v : Option Value} (h : o.data = .cell v) : NF o := fun _ e => by rw [h] at e; cases e
def Kp (nw nw' : List (Addr × Obj)) : Prop := ∀ q ∈ nw, NF q.2 → q ∈ nw'
theorem Ops.keep {P : Params} {nw nw' : List (Addr × Obj)} {vs : List Value} {cs : List Nat} (h : Ops P nw vs cs) (k : Kp nw nw') : Ops P nw' vs cs :=
  ⟨h.1, fun i v c h1 h2 => let ⟨a, dx, t1, t2, vv, e, h8, m1, m2, h3⟩ := h.2 i v c h1 h2; ⟨a, dx, t1, t2, vv, e, h8, k _ m1 nf_inst, k _ m2 nf_dict, h3⟩⟩
/-- a copy of the stack beside a copy of the row, or none -/
def KeptI (P : Params) (rowa lst : Addr) (vk vo : Value) (nw : List (Addr × Obj)) : Prop :=
  vk = .none ∨ ∃ y dy l' ty vs n cs rv nr o, vk = .ref y ∧ vo = .ref o ∧ (y, instObj 225 dy) ∈ nw ∧ (dy, stDict P l' ty) ∈ nw ∧ (l', W.listOf (List.toArray vs) n) ∈ nw ∧ (o, W.listOf (List.toArray rv) nr) ∈ nw ∧ Ops P nw vs cs ∧ Row rv cs ∧ vs.length ≤ 20 ∧ l' ≠ rowa ∧ l' ≠ lst ∧ o ≠ rowa ∧ o ≠ lst
theorem KeptI.keep {P : Params} {rowa lst : Addr} {vk vo : Value} {nw nw' : List (Addr × Obj)} (h : KeptI P rowa lst vk vo nw) (k : Kp nw nw') : KeptI P rowa lst vk vo nw' := by
  rcases h with h | ⟨y, dy, l', ty, vs, n, cs, rv, nr, o, h1, h2, h3, h4, h5, h6, h7, h8⟩
  · exact .inl h
  · exact .inr ⟨y, dy, l', ty, vs, n, cs, rv, nr, o, h1, h2, k _ h3 nf_inst, k _ h4 nf_dict, k _ h5 nf_list, k _ h6 nf_list, h7.keep k, h8⟩
/-- what the law keeps from turn to turn -/
def JInv (P : Params) (C : Addr) (x dx lst : Addr) (ts : Tok) (cn' nums sl : Addr × Obj) (i : Nat) (m : Str → Option Value) (nw : List (Addr × Obj)) : Prop :=
  ∃ vs n rowa rv nr cs oc vk vo, (C, oc) ∈ nw ∧ oc.data = .cell (some (.ref rowa)) ∧ (rowa, W.listOf (List.toArray rv) nr) ∈ nw ∧ (lst, W.listOf (List.toArray vs) n) ∈ nw ∧ (x, instObj 225 dx) ∈ nw ∧ (dx, stDict P lst ts) ∈ nw ∧ cn' ∈ nw ∧ nums ∈ nw ∧ sl ∈ nw ∧
    (rowa ≠ lst ∧ rowa ≠ nums.1 ∧ rowa ≠ sl.1) ∧ Ops P nw vs cs ∧ Row rv cs ∧ vs.length ≤ i ∧ KeptI P rowa lst vk vo nw ∧
    m "numbers" = some (.ref nums.1) ∧ m "stack" = some (.ref x) ∧ m "kept" = some vk ∧ m "old" = some vo
theorem JInv.keep {P : Params} {C : Addr} {x dx lst : Addr} {ts : Tok} {cn' nums sl : Addr × Obj} {i : Nat} {m : Str → Option Value} {nw nw' : List (Addr × Obj)} (f1 : NF cn'.2) (f2 : NF nums.2) (f3 : NF sl.2)
    (h : JInv P C x dx lst ts cn' nums sl i m nw) (k : Kp nw nw') : JInv P C x dx lst ts cn' nums sl i m nw' := by
  obtain ⟨vs, n, rowa, rv, nr, cs, oc, vk, vo, h1, h2, h3, h4, h5, h6, h7, h8, h9, hne, h10, h11, h12, h13, h14⟩ := h
  exact ⟨vs, n, rowa, rv, nr, cs, oc, vk, vo, k _ h1 (nf_cell h2), h2, k _ h3 nf_list, k _ h4 nf_list, k _ h5 nf_inst, k _ h6 nf_dict, k _ h7 f1, k _ h8 f2, k _ h9 f3, hne, h10.keep k, h11, h12, h13.keep k, h14⟩
theorem step_end {P : Params} {C : Addr} {x dx lst : Addr} {ts : Tok} {cn' nums sl : Addr × Obj} {i : Nat} {e it : Addr} {oe oi : Obj} {s₁ : Shared} {h' : Heap} {tk : Tok} {m₂ : Str → Option Value} {nw : List (Addr × Obj)} {Qr : Value → Shared → Prop} {Qb : Shared → Prop}
    (f1 : NF cn'.2) (f2 : NF nums.2) (f3 : NF sl.2) (foe : ∃ fs, oe.data = .fields fs) (foi : ∃ fs, oi.data = .fields fs)
    (F : Fr h₀ L h' m₂) (N : News h₀ L h' nw) (he : (e, oe) ∈ nw) (hi : (it, oi) ∈ nw) (hJ : JInv P C x dx lst ts cn' nums sl i m₂ nw) :
    StepE h₀ L e oe it oi (JInv P C x dx lst ts cn' nums sl i) s₁ Qr Qb .next { s₁ with heap := h', toks := tk } := by
  refine ⟨h', tk, m₂, nw.filter (fun p => decide (p.1 ≠ e ∧ p.1 ≠ it)), rfl, F, ?_, ?_, hJ.keep f1 f2 f3 ?_⟩
  · refine News.sub N fun p hp => ?_
    rcases List.mem_cons.mp hp with rfl | hp
    · exact he
    · rcases List.mem_cons.mp hp with rfl | hp
      · exact hi
      · exact (List.mem_filter.mp hp).1
  · intro p hp
    exact of_decide_eq_true (List.mem_filter.mp hp).2
  · intro q hq hn
    refine List.mem_filter.mpr ⟨hq, decide_eq_true ⟨fun z => ?_, fun z => ?_⟩⟩
    · obtain ⟨fs, hf⟩ := foe
      have h1 := (N q hq).1
      rw [z, (N _ he).1] at h1
      exact hn fs (by rw [← Option.some.inj h1]; exact hf)
    · obtain ⟨fs, hf⟩ := foi
      have h1 := (N q hq).1
      rw [z, (N _ hi).1] at h1
      exact hn fs (by rw [← Option.some.inj h1]; exact hf)
theorem map_four {m : Str → Option Value} {a b c d' : Str} {v1 v2 v3 v4 : Value} (h1 : m a = some v1) (h2 : m b = some v2) (h3 : m c = some v3) (h4 : m d' = some v4) : m = fun y => if y = a then some v1 else if y = b then some v2 else if y = c then some v3 else if y = d' then some v4 else m y := by
  funext y
  by_cases q1 : y = a
  · subst q1; simp only [if_true, h1]
  · by_cases q2 : y = b
    · subst q2; simp only [if_neg q1, if_true, h2]
    · by_cases q3 : y = c
      · subst q3; simp only [if_neg q1, if_neg q2, if_true, h3]
      · by_cases q4 : y = d'
        · subst q4; simp only [if_neg q1, if_neg q2, if_neg q3, if_true, h4]
        · simp only [if_neg q1, if_neg q2, if_neg q3, if_neg q4]
/-- the ledger of a turn, its three moving things first -/
theorem turn_ledger {P : Params} {e it C rowa lst : Addr} {oe oi oc : Obj} {rv vs : List Value} {nr n : Nat} {h : Heap} {nw : List (Addr × Obj)} (N : News h₀ L h ((e, oe) :: (it, oi) :: nw)) (hC : (C, oc) ∈ nw) (hr : (rowa, W.listOf rv.toArray nr) ∈ nw) (hl : (lst, W.listOf vs.toArray n) ∈ nw) :
    News h₀ L h ((e, oe) :: (it, oi) :: (C, oc) :: (rowa, W.listOf rv.toArray nr) :: (lst, W.listOf vs.toArray n) :: nw.filter (fun p => decide (p.1 ≠ C ∧ p.1 ≠ rowa ∧ p.1 ≠ lst))) := by
  refine News.sub N fun p hp => ?_
  rcases List.mem_cons.mp hp with rfl | hp
  · exact .head _
  · rcases List.mem_cons.mp hp with rfl | hp
    · exact .tail _ (.head _)
    · refine .tail _ (.tail _ ?_)
      rcases List.mem_cons.mp hp with rfl | hp
      · exact hC
      · rcases List.mem_cons.mp hp with rfl | hp
        · exact hr
        · rcases List.mem_cons.mp hp with rfl | hp
          · exact hl
          · exact (List.mem_filter.mp hp).1
theorem take_len16 {a : Nat} {b : List Int} (h : b.length = 18) : (List.take (min a b.length - 2) (List.drop 2 b)).length ≤ 16 := by
  rw [List.length_take, List.length_drop]; omega
end
end Mine
namespace Mine
section
local macro_rules | `(tactic| k_room) => `(tactic| ((try simp only [depth_mark, depth_under_make, depth_under_kw, depth_in1, depth_deeper, depth_Ar, recursionLimit]); omega))
local macro_rules | `(tactic| walk_at "wpAt") => `(tactic| dsimp only)
local macro_rules | `(tactic| walk_at "wpAt") => `(tactic| (ks_step "exec Expr"; k_dflt (refine ks_wpAt_Expr_any ?_)))
local macro_rules | `(tactic| walk_at "wpAt") => `(tactic| (ks_step "eval Call"; k_dflt (refine ks_wpAt_MethodCall ?_)))
local macro_rules | `(tactic| k_units) => `(tactic| ((simp only [units_Ar, units_in1, units_deeper, cLine_is]); omega))
local macro_rules | `(tactic| k_mem) => `(tactic| assumption)
local macro_rules | `(tactic| k_all) => `(tactic| first | assumption | exact allLt_ne (by assumption))
variable {w : World} {s : Shared} {base : Heap} {outer : List Env} {p : Program} {loose : List Str} {mean : ExcName → Option Value} {mg mb : Str → Option Value}
variable {h₀ : Heap} {m : Str → Option Value} {news : List (Addr × Obj)} {Q : Value → Shared → Prop} {E : Value → Shared → Prop} {A₀ : Around}
variable {cn : Str} {nms : List (Str × NameKind)} {b1 b2 : Bool} {more : List (Str × Const)} {L fa : Addr} {cd : Value} {cl : List (Str × Addr)} {d u : Nat}
theorem turn_start2 {P : Params} {C : Addr} {x dx lst : Addr} {ts : Tok} {cn' nums sl : Addr × Obj} {i : Nat} {h' : Heap} {m₁ : Str → Option Value} {nw : List (Addr × Obj)}
    (g1 : ∃ v, cn'.2.data = .cell v) (g2 : cn'.1 ≠ C) (g3 : ∃ vs n, nums.2 = W.listOf vs n) (g4 : ∃ vs n, sl.2 = W.listOf vs n) (g5 : lst ≠ nums.1) (g6 : lst ≠ sl.1)
    (hJ : JInv P C x dx lst ts cn' nums sl i m₁ nw) (N₁ : News h₀ L h' nw) :
    ∃ vs n rowa rv nr cs oc vk vo pool, (∀ q ∈ (C, oc) :: (rowa, W.listOf (List.toArray rv) nr) :: (lst, W.listOf (List.toArray vs) n) :: pool, q ∈ nw) ∧ oc.data = .cell (some (.ref rowa)) ∧
      (C ≠ rowa ∧ C ≠ lst ∧ rowa ≠ lst) ∧ (∀ p ∈ pool, p.1 ≠ C) ∧ (∀ p ∈ pool, p.1 ≠ rowa) ∧ (∀ p ∈ pool, p.1 ≠ lst) ∧
      (x, instObj 225 dx) ∈ pool ∧ (dx, stDict P lst ts) ∈ pool ∧ cn' ∈ pool ∧ nums ∈ pool ∧ sl ∈ pool ∧ (rowa ≠ nums.1 ∧ rowa ≠ sl.1) ∧ Ops P pool vs cs ∧ Row rv cs ∧ vs.length ≤ i ∧ KeptI P rowa lst vk vo pool ∧
      m₁ = fun (y : Str) => if y = "numbers" then some (.ref nums.1) else if y = "stack" then some (.ref x) else if y = "kept" then some vk else if y = "old" then some vo else m₁ y := by
  obtain ⟨vs, n, rowa, rv, nr, cs, oc, vk, vo, h1, h2, h3, h4, h5, h6, h7, h8, h9, ⟨n1, n2, n3⟩, h10, h11, h12, h13, h14, h15, h16, h17⟩ := hJ
  have same : ∀ {p q : Addr × Obj}, p ∈ nw → q ∈ nw → p.1 = q.1 → p.2 = q.2 := fun hp hq z => by
    have a := (N₁ _ hp).1
    rw [z, (N₁ _ hq).1] at a
    exact (Option.some.inj a).symm
  have nc : ∀ {a : Addr} {o : Obj}, (a, o) ∈ nw → (∀ v, o.data ≠ .cell v) → a ≠ C := fun hp hn z => hn _ ((congrArg Obj.data (same hp h1 z)).trans h2)
  have listC : ∀ {its : Array Value} {k : Nat} v, (W.listOf its k).data ≠ .cell v := fun v q => by cases q
  have instC : ∀ {c dd : Addr} v, (instObj c dd).data ≠ .cell v := fun v q => by cases q
  have dictC : ∀ {es : List DictEntry} {k : Nat} v, (dictOf es k).data ≠ .cell v := fun v q => by cases q
  have nl : ∀ {a : Addr} {o : Obj}, (a, o) ∈ nw → (∀ its k, o ≠ W.listOf its k) → a ≠ rowa ∧ a ≠ lst := fun hp hn => ⟨fun z => hn _ _ (same hp h3 z), fun z => hn _ _ (same hp h4 z)⟩
  have instL : ∀ {c dd : Addr} its k, instObj c dd ≠ W.listOf its k := fun its k q => by cases q
  have dictL : ∀ {es : List DictEntry} {k : Nat} its q, dictOf es k ≠ W.listOf its q := fun its q => dict_ne
  have inP : ∀ {p : Addr × Obj}, p ∈ nw → p.1 ≠ C → p.1 ≠ rowa → p.1 ≠ lst → p ∈ nw.filter (fun p => decide (p.1 ≠ C ∧ p.1 ≠ rowa ∧ p.1 ≠ lst)) := fun hp a b c => List.mem_filter.mpr ⟨hp, decide_eq_true ⟨a, b, c⟩⟩
  have inI : ∀ {a c dd : Addr}, (a, instObj c dd) ∈ nw → (a, instObj c dd) ∈ nw.filter (fun p => decide (p.1 ≠ C ∧ p.1 ≠ rowa ∧ p.1 ≠ lst)) := fun hp => inP hp (nc hp instC) (nl hp instL).1 (nl hp instL).2
  have inD : ∀ {a : Addr} {es : List DictEntry} {k : Nat}, (a, dictOf es k) ∈ nw → (a, dictOf es k) ∈ nw.filter (fun p => decide (p.1 ≠ C ∧ p.1 ≠ rowa ∧ p.1 ≠ lst)) := fun hp => inP hp (nc hp dictC) (nl hp dictL).1 (nl hp dictL).2
  have inO : ∀ {us : List Value} {ds : List Nat}, Ops P nw us ds → Ops P (nw.filter (fun p => decide (p.1 ≠ C ∧ p.1 ≠ rowa ∧ p.1 ≠ lst))) us ds := fun ho =>
    ⟨ho.1, fun i v c q1 q2 => let ⟨a, dd, t1, t2, vv, e, h8, m1, m2, q3⟩ := ho.2 i v c q1 q2; ⟨a, dd, t1, t2, vv, e, h8, inI m1, inD m2, q3⟩⟩
  have pf : ∀ p ∈ nw.filter (fun p => decide (p.1 ≠ C ∧ p.1 ≠ rowa ∧ p.1 ≠ lst)), p ∈ nw ∧ p.1 ≠ C ∧ p.1 ≠ rowa ∧ p.1 ≠ lst := fun p hp => ⟨(List.mem_filter.mp hp).1, of_decide_eq_true (List.mem_filter.mp hp).2⟩
  refine ⟨vs, n, rowa, rv, nr, cs, oc, vk, vo, nw.filter (fun p => decide (p.1 ≠ C ∧ p.1 ≠ rowa ∧ p.1 ≠ lst)), List.forall_mem_cons.mpr ⟨h1, List.forall_mem_cons.mpr ⟨h3, List.forall_mem_cons.mpr ⟨h4, fun p hp => (pf p hp).1⟩⟩⟩, h2, ⟨(nc h3 listC).symm, (nc h4 listC).symm, n1⟩,
    fun p hp => (pf p hp).2.1, fun p hp => (pf p hp).2.2.1, fun p hp => (pf p hp).2.2.2, inI h5, inD h6, ?_, ?_, ?_, ⟨n2, n3⟩, inO h10, h11, h12, ?_, map_four h14 h15 h16 h17⟩
  · obtain ⟨v, hv⟩ := g1
    have q : ∀ its k, cn'.2 ≠ W.listOf its k := fun its k z => by rw [z] at hv; cases hv
    exact inP h7 g2 (nl (o := cn'.2) h7 q).1 (nl (o := cn'.2) h7 q).2
  · obtain ⟨vs', n', hv⟩ := g3
    exact inP h8 (nc (o := nums.2) h8 (by rw [hv]; exact listC)) (Ne.symm n2) (Ne.symm g5)
  · obtain ⟨vs', n', hv⟩ := g4
    exact inP h9 (nc (o := sl.2) h9 (by rw [hv]; exact listC)) (Ne.symm n3) (Ne.symm g6)
  · rcases h13 with h | ⟨y, dy, l', ty, vs', n', cs', rv', nr', o, a1, a2, a3, a4, a5, a6, a7, a8, a9, b1, b2, b3, b4⟩
    · exact .inl h
    · exact .inr ⟨y, dy, l', ty, vs', n', cs', rv', nr', o, a1, a2, inI a3, inD a4, inP a5 (nc a5 listC) b1 b2, inP a6 (nc a6 listC) b3 b4, inO a7, a8, a9, b1, b2, b3, b4⟩
theorem caller_Ar (e : Env) : callerA.deeper e = Ar 302 7 [e] := rfl
section
variable {prog : Program} {A : Around} {env : Env}
theorem lawLoop_c {Q : Flow → Shared → Prop} {pk pv pt : Pos} {x1 : Nat} {body : List Stmt} {P : Params} {D a1 ol a2 rowa lst x dx D' c2 C : Addr} {ws : List Value} {wi : List Int} {k1 k2 k3 : Nat} {tup1 tup2 o2 oc : Obj} {gj : Addr × Obj} {ts : Tok} {ys : List Value} {v2 : Option Value}
    (hh : A.handled = none) (hE : PassesOwn (model prog w) A env E) (hxi : env.kindOf "step" = some .local) (hxc : env.kindOf "n" = some .local)
    (hp : (env.scope.kind == .class || (env.scope.kind == .module && env.locals != env.globals)) = false)
    (F : Fr h₀ env.locals s.heap m)
    (N : News h₀ env.locals s.heap [(D, W.listOf ws.toArray 0), (a1, tup1), (ol, W.listOf #[] k1), (a2, tup2), (rowa, W.listOf #[] k2), (lst, W.listOf #[] k3), (x, instObj 225 dx), (dx, stDict P lst ts), (D', LCg.lst ys), gj, (c2, o2), (C, oc)])
    (hc : oc.data = .cell (some (.ref rowa))) (h2 : o2.data = .cell v2) (hI : IntsAre ws wi)
    (m1 : m "numbers" = some (.ref D')) (m2 : m "stack" = some (.ref x)) (m3 : m "kept" = some .none) (m4 : m "old" = some (.ref ol))
    (n1 : rowa ≠ lst) (n2 : rowa ≠ D') (n3 : rowa ≠ D) (n4 : lst ≠ D') (n5 : lst ≠ D) (n6 : c2 ≠ C)
    (step : ∀ i z t t0 h tk vs n rowa rv nr cs oc vk vo pool e oe it oi (mm : Str → Option Value), i < ws.length → e ≠ it → (∃ fs, oe.data = .fields fs) → (∃ fs, oi.data = .fields fs) →
      News h₀ env.locals h ((e, oe) :: (it, oi) :: (C, oc) :: (rowa, W.listOf (List.toArray rv) nr) :: (lst, W.listOf (List.toArray vs) n) :: pool) → oc.data = .cell (some (.ref rowa)) →
      (C ≠ rowa ∧ C ≠ lst ∧ rowa ≠ lst ∧ C ≠ e ∧ C ≠ it ∧ rowa ≠ e ∧ rowa ≠ it ∧ lst ≠ e ∧ lst ≠ it) → (∀ p ∈ pool, p.1 ≠ C) → (∀ p ∈ pool, p.1 ≠ rowa) → (∀ p ∈ pool, p.1 ≠ lst) → (∀ p ∈ pool, p.1 ≠ e) → (∀ p ∈ pool, p.1 ≠ it) →
      (x, instObj 225 dx) ∈ pool → (dx, stDict P lst ts) ∈ pool → (c2, o2) ∈ pool → (D', LCg.lst ys) ∈ pool → (D, W.listOf ws.toArray 0) ∈ pool → rowa ≠ D' → rowa ≠ D → Ops P pool vs cs → Row rv cs → vs.length ≤ i → KeptI P rowa lst vk vo pool →
      Fr h₀ env.locals h (fun y => if y = "n" then some (.int z t) else if y = "step" then some (.int (i : Nat) t0) else if y = "numbers" then some (.ref D') else if y = "stack" then some (.ref x) else if y = "kept" then some vk else if y = "old" then some vo else mm y) →
      wpAny (model prog w) A (execs body env) (StepE h₀ env.locals e oe it oi (JInv P C x dx lst ts (c2, o2) (D', LCg.lst ys) (D, W.listOf ws.toArray 0) (i + 1)) { s with heap := h, toks := tk } (fun v s' => Q (.ret v) s') fun s' => Q .next s') E { s with heap := h, toks := tk })
    (done : ∀ h' tk vs n rowa rv nr cs oc vk vo pool (mm : Str → Option Value),
      News h₀ env.locals h' ((C, oc) :: (rowa, W.listOf (List.toArray rv) nr) :: (lst, W.listOf (List.toArray vs) n) :: pool) → oc.data = .cell (some (.ref rowa)) →
      (C ≠ rowa ∧ C ≠ lst ∧ rowa ≠ lst) → (∀ p ∈ pool, p.1 ≠ C) → (∀ p ∈ pool, p.1 ≠ rowa) → (∀ p ∈ pool, p.1 ≠ lst) →
      (x, instObj 225 dx) ∈ pool → (dx, stDict P lst ts) ∈ pool → (c2, o2) ∈ pool → (D', LCg.lst ys) ∈ pool → (D, W.listOf ws.toArray 0) ∈ pool → rowa ≠ D' → rowa ≠ D → Ops P pool vs cs → Row rv cs → vs.length ≤ ws.length → KeptI P rowa lst vk vo pool →
      Fr h₀ env.locals h' (fun y => if y = "numbers" then some (.ref D') else if y = "stack" then some (.ref x) else if y = "kept" then some vk else if y = "old" then some vo else mm y) → Q .next { s with heap := h', toks := tk }) :
    wpAny (model prog w) A (call (.type "enumerate") [.ref D]) (fun xv s₁ => wpAny (model prog w) A (pyIter xv) (fun itv s₂ => codeAny (model prog w) A (.forLoop (.Tuple [.Name "step" pk, .Name "n" pv] x1 pt) itv body [] env) (fun r s' => match r with | .ok f => Q f s' | .error e => cameBackBy (model prog w) A env E e s') s₂) E s₁) E s := by
  refine forEnum_c (n := 0) hh hE hxi hxc hp F N (.head _) (JInv P C x dx lst ts (c2, o2) (D', LCg.lst ys) (D, W.listOf ws.toArray 0)) ?_ ?_ ?_ ?_
  · refine ⟨[], k3, rowa, [], k2, [], oc, .none, .ref ol, ?_, hc, ?_, ?_, ?_, ?_, ?_, ?_, ?_, ⟨n1, n2, n3⟩, Ops.nil, Row.nil, Nat.le_refl _, .inl rfl, m1, m2, m3, m4⟩
    · exact .tail _ (.tail _ (.tail _ (.tail _ (.tail _ (.tail _ (.tail _ (.tail _ (.tail _ (.tail _ (.tail _ (.head _)))))))))))
    · exact .tail _ (.tail _ (.tail _ (.tail _ (.head _))))
    · exact .tail _ (.tail _ (.tail _ (.tail _ (.tail _ (.head _)))))
    · exact .tail _ (.tail _ (.tail _ (.tail _ (.tail _ (.tail _ (.head _))))))
    · exact .tail _ (.tail _ (.tail _ (.tail _ (.tail _ (.tail _ (.tail _ (.head _)))))))
    · exact .tail _ (.tail _ (.tail _ (.tail _ (.tail _ (.tail _ (.tail _ (.tail _ (.tail _ (.tail _ (.head _))))))))))
    · exact .tail _ (.tail _ (.tail _ (.tail _ (.tail _ (.tail _ (.tail _ (.tail _ (.head _))))))))
    · exact .head _
  · rintro i m nw ⟨vs, n, rowa, rv, nr, cs, oc, vk, vo, h1, h2, h3, h4, h5, h6, h7, h8, h9, _⟩
    exact h9
  · intro i v t0 m₁ nw e oe it oi h tk hi hv hJ hoff hei foe foi F₂ N₂
    obtain ⟨z, t, rfl⟩ := ints_at (z := i) hI hv
    obtain ⟨vs, n, rowa', rv, nr, cs, oc', vk, vo, pool, hsub, q1, ⟨q2, q3, q4⟩, q5, q6, q7, q8, q9, q10, q11, q12, ⟨q13, q14⟩, q15, q16, q17, q18, q19⟩ := turn_start2 ⟨v2, h2⟩ n6 ⟨_, _, rfl⟩ ⟨_, _, rfl⟩ n4 n5 hJ (fun p hp => N₂ p (.tail _ (.tail _ hp)))
    have hC := hoff _ (hsub _ (.head _))
    have hR := hoff _ (hsub _ (.tail _ (.head _)))
    have hS := hoff _ (hsub _ (.tail _ (.tail _ (.head _))))
    rw [q19] at F₂
    refine step i z t t0 h tk vs n rowa' rv nr cs oc' vk vo pool e oe it oi m₁ hi hei foe foi ?_ q1 ⟨q2, q3, q4, hC.1, hC.2, hR.1, hR.2, hS.1, hS.2⟩ q5 q6 q7 (fun p hp => (hoff p (hsub p (.tail _ (.tail _ (.tail _ hp))))).1) (fun p hp => (hoff p (hsub p (.tail _ (.tail _ (.tail _ hp))))).2) q8 q9 q10 q11 q12 q13 q14 q15 q16 q17 q18 F₂
    refine News.sub N₂ fun p hp => ?_
    rcases List.mem_cons.mp hp with rfl | hp
    · exact .head _
    · rcases List.mem_cons.mp hp with rfl | hp
      · exact .tail _ (.head _)
      · exact .tail _ (.tail _ (hsub p hp))
  · intro h' tk m' nw F' N' hJ
    obtain ⟨vs, n, rowa', rv, nr, cs, oc', vk, vo, pool, hsub, q1, q2, q5, q6, q7, q8, q9, q10, q11, q12, ⟨q13, q14⟩, q15, q16, q17, q18, q19⟩ := turn_start2 ⟨v2, h2⟩ n6 ⟨_, _, rfl⟩ ⟨_, _, rfl⟩ n4 n5 hJ N'
    rw [q19] at F'
    exact done h' tk vs n rowa' rv nr cs oc' vk vo pool m' (News.sub N' hsub) q1 q2 q5 q6 q7 q8 q9 q10 q11 q12 q13 q14 q15 q16 q17 q18 F'
end
theorem appendL_c {prog : Program} {A : Around} {lst : Addr} {vs : List Value} {n : Nat} {x : Value} {Q : Value → Shared → Prop} {gU : Obj → List (Addr × Obj)} (F : Fr h₀ L s.heap m) (N : News h₀ L s.heap news) (U : UpdF lst (W.listOf vs.toArray n) news gU) (hz : vs.length ≤ 100)
    (h : ∀ n' h', Fr h₀ L h' m → News h₀ L h' (gU (W.listOf (vs ++ [x]).toArray n')) → Q .none { s with heap := h' }) : wpAny (model prog w) A (call (.builtin "list.append") [.ref lst, x]) Q E s := by
  obtain ⟨pre, post, rfl, hg, h1, h2⟩ := U.split
  have z := N (lst, W.listOf vs.toArray n) (List.mem_append.mpr (.inr (.head _)))
  refine append_at (hsz := by rw [List.size_toArray, sizeLine_eq]; omega) z.1 fun h' hs ho' => h (n + 1) h' (F.change hs z.2.1 z.2.2) ?_
  rw [hg]
  refine news_set N h1 h2 hs ?_
  rw [ho']
  simp [W.listOf]
theorem fm_rng {a b : Int} (h : 0 < b) : 0 ≤ a.fmod b ∧ a.fmod b < b := ⟨Int.fmod_nonneg_of_pos _ h, Int.fmod_lt_of_pos _ h⟩
/-- facts that omega shall not split on -/
def Nq (a b : Nat) : Prop := a ≠ b
theorem Nq.out {a b : Nat} (h : Nq a b) : a ≠ b := h
theorem Nq.out' {a b : Nat} (h : Nq a b) : b ≠ a := Ne.symm h
def Hid (q : Prop) : Prop := q
theorem Hid.out {q : Prop} (h : Hid q) : q := h
def NumsOk (ys : List Value) : Prop := 2 ≤ ys.length ∧ ∃ ns, IntsAre ys ns
theorem itemNum_c {prog : Program} {A : Around} {value slice : PySem.Expr} {D : Addr} {ys : List Value} {k : Int} {u' : Tok} (hy : NumsOk ys) (N : News h₀ L s.heap news) (hm : (D, LCg.lst ys) ∈ news) (h0 : 0 ≤ k) (h1 : k < 2) (h : ∀ z t, Q (.int z t) s)
    (hs : subscripted slice false (.ref D) (.int k u') = operate [.ref D, .int k u'] (getItem (.ref D) (.int k u')) := by with_unfolding_all rfl) (hg : ∀ r, letTemporaryGo value (.ref D) r = pure () := by intro _; with_unfolding_all rfl) :
    wpAny (model prog w) A (subscriptTail value slice (.ref D) (.int k u')) Q E s := by
  obtain ⟨hl, ns, hI⟩ := hy
  have hlt : k.toNat < ys.length := by omega
  obtain ⟨z, t, e⟩ := ints_at (z := k.toNat) hI (List.getElem?_eq_getElem hlt)
  have hx : ys[k.toNat]? = some (.int z t) := by rw [List.getElem?_eq_getElem hlt, e]
  exact kim_list N hm rfl rfl h0 (by omega) hx (h z t) hs hg
end
end Mine
namespace Mine
section
local macro_rules | `(tactic| k_room) => `(tactic| ((try simp only [depth_mark, depth_under_make, depth_under_kw, depth_in1, depth_deeper, depth_Ar, recursionLimit]); omega))
local macro_rules | `(tactic| walk_at "wpAt") => `(tactic| dsimp only)
local macro_rules | `(tactic| walk_at "wpAt") => `(tactic| (ks_step "exec Expr"; k_dflt (refine ks_wpAt_Expr_any ?_)))
local macro_rules | `(tactic| walk_at "wpAt") => `(tactic| (ks_step "eval Call"; k_dflt (refine ks_wpAt_MethodCall ?_)))
local macro_rules | `(tactic| k_units) => `(tactic| ((simp only [units_Ar, units_in1, units_deeper, cLine_is]); omega))
local macro_rules | `(tactic| k_mem) => `(tactic| assumption)
local macro_rules | `(tactic| k_all) => `(tactic| first | assumption | exact allLt_ne (by assumption))
variable {w : World} {s : Shared} {base : Heap} {outer : List Env} {p : Program} {loose : List Str} {mean : ExcName → Option Value} {mg mb : Str → Option Value}
variable {h₀ : Heap} {m : Str → Option Value} {news : List (Addr × Obj)} {Q : Value → Shared → Prop} {E : Value → Shared → Prop} {A₀ : Around}
variable {cn : Str} {nms : List (Str × NameKind)} {b1 b2 : Bool} {more : List (Str × Const)} {L fa : Addr} {cd : Value} {cl : List (Str × Addr)} {d u : Nat}
theorem mkJ {P : Params} {C : Addr} {x dx lst rowa : Addr} {ts : Tok} {cn' nums sl : Addr × Obj} {i : Nat} {m : Str → Option Value} {nw : List (Addr × Obj)} {vs rv : List Value} {n nr : Nat} {cs : List Nat} {oc : Obj} {vk vo : Value}
    (hC : (C, oc) ∈ nw) (hoc : oc.data = .cell (some (.ref rowa))) (hr : (rowa, W.listOf rv.toArray nr) ∈ nw) (hl : (lst, W.listOf vs.toArray n) ∈ nw) (hx : (x, instObj 225 dx) ∈ nw) (hdx : (dx, stDict P lst ts) ∈ nw) (hcn : cn' ∈ nw) (hnu : nums ∈ nw) (hsl : sl ∈ nw)
    (n1 : rowa ≠ lst) (n2 : rowa ≠ nums.1) (n3 : rowa ≠ sl.1) (hops : Ops P nw vs cs) (hrow : Row rv cs) (hlen : vs.length ≤ i) (m3 : m "kept" = some vk) (m4 : m "old" = some vo) (hk : KeptI P rowa lst vk vo nw)
    (m1 : m "numbers" = some (.ref nums.1)) (m2 : m "stack" = some (.ref x)) : JInv P C x dx lst ts cn' nums sl i m nw :=
  ⟨vs, n, rowa, rv, nr, cs, oc, vk, vo, hC, hoc, hr, hl, hx, hdx, hcn, hnu, hsl, ⟨n1, n2, n3⟩, hops, hrow, hlen, hk, m1, m2, m3, m4⟩
theorem KeptI.newrow {P : Params} {rowa rowb lst : Addr} {vk vo : Value} {nw : List (Addr × Obj)} (hn : ∀ p ∈ nw, p.1 ≠ rowb) (h : KeptI P rowa lst vk vo nw) : KeptI P rowb lst vk vo nw := by
  rcases h with h | ⟨y, dy, l', ty, vs, n, cs, rv, nr, o, h1, h2, h3, h4, h5, h6, h7, h8, h9, a1, a2, a3, a4⟩
  · exact .inl h
  · exact .inr ⟨y, dy, l', ty, vs, n, cs, rv, nr, o, h1, h2, h3, h4, h5, h6, h7, h8, h9, hn _ h5, a2, hn _ h6, a4⟩
/-- the state between two statements of a turn -/
def MidA (h₀ : Heap) (L : Addr) (J : (Str → Option Value) → List (Addr × Obj) → Prop) (e it : Addr) (oe oi : Obj) (s₁ s' : Shared) : Prop :=
  ∃ h' tk m nw, s' = { s₁ with heap := h', toks := tk } ∧ Fr h₀ L h' m ∧ News h₀ L h' nw ∧ (e, oe) ∈ nw ∧ (it, oi) ∈ nw ∧ J m nw
theorem map_two {m : Str → Option Value} {a b : Str} {v1 v2 : Value} (h1 : m a = some v1) (h2 : m b = some v2) : m = fun y => if y = a then some v1 else if y = b then some v2 else m y := by
  funext y
  by_cases q1 : y = a
  · subst q1; simp only [if_true, h1]
  · by_cases q2 : y = b
    · subst q2; simp only [if_neg q1, if_true, h2]
    · simp only [if_neg q1, if_neg q2]
theorem off_keep {e it : Addr} {oe oi : Obj} {h' : Heap} {nw : List (Addr × Obj)} (foe : ∃ fs, oe.data = .fields fs) (foi : ∃ fs, oi.data = .fields fs) (N : News h₀ L h' nw) (he : (e, oe) ∈ nw) (hi : (it, oi) ∈ nw) : Kp nw (nw.filter (fun p => decide (p.1 ≠ e ∧ p.1 ≠ it))) := by
  intro q hq hn
  refine List.mem_filter.mpr ⟨hq, decide_eq_true ⟨fun z => ?_, fun z => ?_⟩⟩
  · obtain ⟨fs, hf⟩ := foe
    have h1 := (N q hq).1
    rw [z, (N _ he).1] at h1
    exact hn fs (by rw [← Option.some.inj h1]; exact hf)
  · obtain ⟨fs, hf⟩ := foi
    have h1 := (N q hq).1
    rw [z, (N _ hi).1] at h1
    exact hn fs (by rw [← Option.some.inj h1]; exact hf)
theorem mid_use {P : Params} {C : Addr} {x dx lst : Addr} {ts : Tok} {cn' nums sl : Addr × Obj} {i : Nat} {e it : Addr} {oe oi : Obj} {s₁ s' : Shared} {Ex : (Str → Option Value) → Prop} {G : Shared → Prop}
    (g1 : ∃ v, cn'.2.data = .cell v) (g2 : Nq cn'.1 C) (g3 : ∃ vs n, nums.2 = W.listOf vs n) (g4 : ∃ vs n, sl.2 = W.listOf vs n) (g5 : Nq lst nums.1) (g6 : Nq lst sl.1) (foe : ∃ fs, oe.data = .fields fs) (foi : ∃ fs, oi.data = .fields fs)
    (M : MidA h₀ L (fun m nw => JInv P C x dx lst ts cn' nums sl i m nw ∧ Ex m) e it oe oi s₁ s')
    (k : ∀ h tk vs n rowa rv nr cs oc vk vo pool (mm : Str → Option Value), News h₀ L h ((e, oe) :: (it, oi) :: (C, oc) :: (rowa, W.listOf (List.toArray rv) nr) :: (lst, W.listOf (List.toArray vs) n) :: pool) → oc.data = .cell (some (.ref rowa)) →
      (Nq C rowa ∧ Nq C lst ∧ Nq rowa lst ∧ Nq C e ∧ Nq C it ∧ Nq rowa e ∧ Nq rowa it ∧ Nq lst e ∧ Nq lst it) → (∀ p ∈ pool, p.1 ≠ C) → (∀ p ∈ pool, p.1 ≠ rowa) → (∀ p ∈ pool, p.1 ≠ lst) → (∀ p ∈ pool, p.1 ≠ e) → (∀ p ∈ pool, p.1 ≠ it) →
      (x, instObj 225 dx) ∈ pool → (dx, stDict P lst ts) ∈ pool → cn' ∈ pool → nums ∈ pool → sl ∈ pool → Nq rowa nums.1 → Nq rowa sl.1 → Ops P pool vs cs → Row rv cs → vs.length ≤ i → KeptI P rowa lst vk vo pool → Ex mm → 
      Fr h₀ L h (fun y => if y = "numbers" then some (.ref nums.1) else if y = "stack" then some (.ref x) else if y = "kept" then some vk else if y = "old" then some vo else mm y) → G { s₁ with heap := h, toks := tk }) : G s' := by
  obtain ⟨h', tk, m, nw, rfl, F, N, he, hi, hJ, hEx⟩ := M
  have f1 : NF cn'.2 := let ⟨v, hv⟩ := g1; nf_cell hv
  have f2 : NF nums.2 := by obtain ⟨vs, n, hv⟩ := g3; rw [hv]; exact nf_list
  have f3 : NF sl.2 := by obtain ⟨vs, n, hv⟩ := g4; rw [hv]; exact nf_list
  have hkp := off_keep foe foi N he hi
  have hJ₂ := hJ.keep f1 f2 f3 hkp
  have hoff : ∀ p ∈ nw.filter (fun p => decide (p.1 ≠ e ∧ p.1 ≠ it)), p.1 ≠ e ∧ p.1 ≠ it := fun p hp => of_decide_eq_true (List.mem_filter.mp hp).2
  have hin : ∀ p ∈ nw.filter (fun p => decide (p.1 ≠ e ∧ p.1 ≠ it)), p ∈ nw := fun p hp => (List.mem_filter.mp hp).1
  obtain ⟨vs, n, rowa', rv, nr, cs, oc', vk, vo, pool, hsub, q1, ⟨q2, q3, q4⟩, q5, q6, q7, q8, q9, q10, q11, q12, ⟨q13, q14⟩, q15, q16, q17, q18, q19⟩ := turn_start2 g1 g2 g3 g4 g5 g6 hJ₂ (News.sub N hin)
  have hC := hoff _ (hsub _ (.head _))
  have hR := hoff _ (hsub _ (.tail _ (.head _)))
  have hS := hoff _ (hsub _ (.tail _ (.tail _ (.head _))))
  refine k h' tk vs n rowa' rv nr cs oc' vk vo pool m ?_ q1 ⟨q2, q3, q4, hC.1, hC.2, hR.1, hR.2, hS.1, hS.2⟩ q5 q6 q7 (fun p hp => (hoff p (hsub p (.tail _ (.tail _ (.tail _ hp))))).1) (fun p hp => (hoff p (hsub p (.tail _ (.tail _ (.tail _ hp))))).2) q8 q9 q10 q11 q12 q13 q14 q15 q16 q17 q18 hEx (by rw [← q19]; exact F)
  refine News.sub N fun p hp => ?_
  rcases List.mem_cons.mp hp with rfl | hp
  · exact he
  · rcases List.mem_cons.mp hp with rfl | hp
    · exact hi
    · exact hin _ (hsub p hp)
theorem cut_mid {prog : Program} {A : Around} {env : Env} {st : Stmt} {Q : Flow → Shared → Prop} {P : Params} {C x dx lst D' D : Addr} {ts : Tok} {cn' : Addr × Obj} {ys ws : List Value} {e it : Addr} {oe oi : Obj} {pool : List (Addr × Obj)}
    (i : Nat) (Ex : (Str → Option Value) → Prop) (c1 : (x, instObj 225 dx) ∈ pool) (c2 : (dx, stDict P lst ts) ∈ pool) (c3 : cn' ∈ pool) (c4 : (D', LCg.lst ys) ∈ pool) (c5 : (D, W.listOf ws.toArray 0) ∈ pool) (b1 : ∀ p ∈ pool, p.1 ≠ C) (b3 : ∀ p ∈ pool, p.1 ≠ lst)
    (g1 : ∃ v, cn'.2.data = .cell v) (foe : ∃ fs, oe.data = .fields fs) (foi : ∃ fs, oi.data = .fields fs) (_b4 : ∀ p ∈ pool, p.1 ≠ e) (_b5 : ∀ p ∈ pool, p.1 ≠ it) (_F : Fr h₀ L s.heap m)
    (h1 : wpAny (model prog w) A (exec st env) (fun f s' => f = .next ∧ MidA h₀ L (fun m nw => JInv P C x dx lst ts cn' (D', LCg.lst ys) (D, W.listOf ws.toArray 0) i m nw ∧ Ex m) e it oe oi s s') E s)
    (k : ∀ h tk vs n rowa rv nr cs oc vk vo pool (mm : Str → Option Value), News h₀ L h ((e, oe) :: (it, oi) :: (C, oc) :: (rowa, W.listOf (List.toArray rv) nr) :: (lst, W.listOf (List.toArray vs) n) :: pool) → oc.data = .cell (some (.ref rowa)) →
      (Nq C rowa ∧ Nq C lst ∧ Nq rowa lst ∧ Nq C e ∧ Nq C it ∧ Nq rowa e ∧ Nq rowa it ∧ Nq lst e ∧ Nq lst it) → (∀ p ∈ pool, p.1 ≠ C) → (∀ p ∈ pool, p.1 ≠ rowa) → (∀ p ∈ pool, p.1 ≠ lst) → (∀ p ∈ pool, p.1 ≠ e) → (∀ p ∈ pool, p.1 ≠ it) →
      (x, instObj 225 dx) ∈ pool → (dx, stDict P lst ts) ∈ pool → cn' ∈ pool → (D', LCg.lst ys) ∈ pool → (D, W.listOf ws.toArray 0) ∈ pool → Nq rowa D' → Nq rowa D → Ops P pool vs cs → Row rv cs → vs.length ≤ i → KeptI P rowa lst vk vo pool → Ex mm → 
      Fr h₀ L h (fun y => if y = "numbers" then some (.ref D') else if y = "stack" then some (.ref x) else if y = "kept" then some vk else if y = "old" then some vo else mm y) → Q .next { s with heap := h, toks := tk }) :
    wpAny (model prog w) A (exec st env) Q E s := by
  refine wpAny_mono h1 (fun f s' ⟨e1, M⟩ => ?_) fun _ _ e => e
  subst e1
  exact mid_use (G := fun s' => Q .next s') g1 (b1 _ c3) ⟨_, _, rfl⟩ ⟨_, _, rfl⟩ (Ne.symm (b3 _ c4)) (Ne.symm (b3 _ c5)) foe foi M k
end
end Mine
namespace Mine
section
local macro_rules | `(tactic| k_room) => `(tactic| ((try simp only [depth_mark, depth_under_make, depth_under_kw, depth_in1, depth_deeper, depth_Ar, recursionLimit]); omega))
local macro_rules | `(tactic| walk_at "wpAt") => `(tactic| dsimp only)
local macro_rules | `(tactic| walk_at "wpAt") => `(tactic| (ks_step "exec Expr"; k_dflt (refine ks_wpAt_Expr_any ?_)))
local macro_rules | `(tactic| walk_at "wpAt") => `(tactic| (ks_step "eval Call"; k_dflt (refine ks_wpAt_MethodCall ?_)))
local macro_rules | `(tactic| k_units) => `(tactic| ((simp only [units_Ar, units_in1, units_deeper, cLine_is]); omega))
local macro_rules | `(tactic| k_mem) => `(tactic| assumption)
local macro_rules | `(tactic| k_all) => `(tactic| first | assumption | exact allLt_ne (by assumption))
variable {w : World} {s : Shared} {base : Heap} {outer : List Env} {p : Program} {loose : List Str} {mean : ExcName → Option Value} {mg mb : Str → Option Value}
variable {h₀ : Heap} {m : Str → Option Value} {news : List (Addr × Obj)} {Q : Value → Shared → Prop} {E : Value → Shared → Prop} {A₀ : Around}
variable {cn : Str} {nms : List (Str × NameKind)} {b1 b2 : Bool} {more : List (Str × Const)} {L fa : Addr} {cd : Value} {cl : List (Str × Addr)} {d u : Nat}
variable {v : Value} {t1 t2 : Tok}
variable {x dx lst a da : Addr} {ts : Tok} {vs : List Value} {n : Nat} {j : Int} {t : Tok} {k c : Nat} {rest : List (Addr × Obj)}
variable {gU : Obj → List (Addr × Obj)}
theorem dupG_c (hj : j ≤ 0) (hk : -j < vs.length) (hlen : vs.length ≤ 100) (U : UpdF lst (W.listOf vs.toArray n) news gU) (hx : (x, instObj 225 dx) ∈ news) (hdx : (dx, stDict w.params lst ts) ∈ news)
   (hd : d ≤ 370) (hu : u ≤ 70) (B : Below A₀ base outer h₀) (F : Fr h₀ L s.heap m) (N : News h₀ L s.heap news)
   (X : (Mine.hd.heap_39 w.params).In h₀) (T : Top p loose mean mg mb h₀)
   (h : ∀ v n' h' tk, vs[vs.length - 1 - j.natAbs]? = some v → Fr h₀ L h' m → News h₀ L h' (gU (W.listOf (vs ++ [v]).toArray n')) → Q .none { s with heap := h', toks := tk }) :
   wpAny (model PR w) (Ar d u (EV cn nms b1 b2 more L fa cd cl :: outer)) (call (.ref 208) [.ref x, .int j t]) Q E s :=
  dupF_c (k := j.natAbs) (by omega) (by omega) hlen U hx hdx hd hu B F N X T h
theorem swapG_c (hj : j < 0) (hk : -j < vs.length) (hlen : vs.length ≤ 100) (U : UpdF lst (W.listOf vs.toArray n) news gU) (hx : (x, instObj 225 dx) ∈ news) (hdx : (dx, stDict w.params lst ts) ∈ news)
   (hd : d ≤ 370) (hu : u ≤ 70) (B : Below A₀ base outer h₀) (F : Fr h₀ L s.heap m) (N : News h₀ L s.heap news)
   (X : (Mine.hd.heap_39 w.params).In h₀) (T : Top p loose mean mg mb h₀)
   (h : ∀ v v' h' tk, vs[vs.length - 1 - j.natAbs]? = some v → vs[vs.length - 1]? = some v' → Fr h₀ L h' m → News h₀ L h' (gU (W.listOf ((vs.set (vs.length - 1) v).set (vs.length - 1 - j.natAbs) v').toArray n)) → Q .none { s with heap := h', toks := tk }) :
   wpAny (model PR w) (Ar d u (EV cn nms b1 b2 more L fa cd cl :: outer)) (call (.ref 215) [.ref x, .int j t]) Q E s :=
  swapF_c (k := j.natAbs) (by omega) (by omega) (by omega) hlen U hx hdx hd hu B F N X T h
theorem pokeG_c (hj : j ≤ 0) (hk : -j < vs.length) (hlen : vs.length ≤ 100) (U : UpdF lst (W.listOf vs.toArray n) news gU) (hx : (x, instObj 225 dx) ∈ news) (hdx : (dx, stDict w.params lst ts) ∈ news) (ha : (a, instObj (clsOf c) da) ∈ news) (hda : (da, opDict w.params v t1 t2) ∈ news)
   (hd : d ≤ 370) (hu : u ≤ 70) (B : Below A₀ base outer h₀) (F : Fr h₀ L s.heap m) (N : News h₀ L s.heap news)
   (X : (Mine.hd.heap_39 w.params).In h₀) (T : Top p loose mean mg mb h₀)
   (h : ∀ h' tk, Fr h₀ L h' m → News h₀ L h' (gU (W.listOf (vs.set (vs.length - 1 - j.natAbs) (.ref a)).toArray n)) → Q .none { s with heap := h', toks := tk }) :
   wpAny (model PR w) (Ar d u (EV cn nms b1 b2 more L fa cd cl :: outer)) (call (.ref 201) [.ref x, .int j t, .ref a]) Q E s :=
  pokeF_c (k := j.natAbs) (by omega) (by omega) hlen U hx hdx ha hda hd hu B F N X T h
theorem Row.swap {rv : List Value} {cs : List Nat} {r1 r2 : Value} {c1 c2 i1 i2 k1 k2 : Nat} (h : Row rv cs) (e1 : i1 = k1) (e2 : i2 = k2) (o1 : ValIn r1 c1) (o2 : ValIn r2 c2) : Row ((rv.set i1 r1).set i2 r2) ((cs.set k1 c1).set k2 c2) := by
  subst e1 e2; exact (h.set o1).set o2
theorem Row.set' {rv : List Value} {cs : List Nat} {r1 : Value} {c1 i1 k1 : Nat} (h : Row rv cs) (e1 : i1 = k1) (o1 : ValIn r1 c1) : Row (rv.set i1 r1) (cs.set k1 c1) := by
  subst e1; exact h.set o1
theorem Row.take' {rv : List Value} {cs : List Nat} {i1 k1 : Nat} (h : Row rv cs) (e1 : i1 = k1) : Row (rv.take i1) (cs.take k1) := by
  subst e1; exact h.take
theorem Row.at' {vs : List Value} {cs : List Nat} {v : Value} {i k c : Nat} (h : Row vs cs) (hv : vs[i]? = some v) (hc : cs[k]? = some c) (e : i = k) : ValIn v c := by
  subst e; exact h.at hv hc
end
end Mine
namespace Mine
section
local macro_rules | `(tactic| k_room) => `(tactic| ((try simp only [depth_mark, depth_under_make, depth_under_kw, depth_in1, depth_deeper, depth_Ar, recursionLimit]); omega))
local macro_rules | `(tactic| walk_at "wpAt") => `(tactic| dsimp only)
local macro_rules | `(tactic| walk_at "wpAt") => `(tactic| (ks_step "exec Expr"; k_dflt (refine ks_wpAt_Expr_any ?_)))
local macro_rules | `(tactic| walk_at "wpAt") => `(tactic| (ks_step "eval Call"; k_dflt (refine ks_wpAt_MethodCall ?_)))
local macro_rules | `(tactic| k_units) => `(tactic| ((simp only [units_Ar, units_in1, units_deeper, cLine_is]); omega))
local macro_rules | `(tactic| k_mem) => `(tactic| assumption)
local macro_rules | `(tactic| k_all) => `(tactic| first | assumption | exact allLt_ne (by assumption))
variable {w : World} {s : Shared} {base : Heap} {outer : List Env} {p : Program} {loose : List Str} {mean : ExcName → Option Value} {mg mb : Str → Option Value}
variable {h₀ : Heap} {m : Str → Option Value} {news : List (Addr × Obj)} {Q : Value → Shared → Prop} {E : Value → Shared → Prop} {A₀ : Around}
variable {cn : Str} {nms : List (Str × NameKind)} {b1 b2 : Bool} {more : List (Str × Const)} {L fa : Addr} {cd : Value} {cl : List (Str × Addr)} {d u : Nat}
variable {v : Value} {t1 t2 : Tok}
variable {x dx lst a da : Addr} {ts : Tok} {vs : List Value} {n : Nat} {j : Int} {t : Tok} {k c : Nat} {rest : List (Addr × Obj)}
section
variable {prog : Program} {A : Around} {env : Env}
/-- a statement that leaves all as it was -/
theorem cut_same {st : Stmt} {Q : Flow → Shared → Prop} (F : Fr h₀ env.locals s.heap m) (N : News h₀ env.locals s.heap news)
    (h1 : wpAny (model prog w) A (exec st env) (fun f s' => f = .next ∧ ∃ h' tk, s' = { s with heap := h', toks := tk } ∧ Fr h₀ env.locals h' m ∧ News h₀ env.locals h' news) E s)
    (k : ∀ h' tk, Fr h₀ env.locals h' m → News h₀ env.locals h' news → Q .next { s with heap := h', toks := tk }) : wpAny (model prog w) A (exec st env) Q E s :=
  wpAny_mono h1 (fun f s' ⟨e1, h', tk, e2, F', N'⟩ => by subst e1 e2; exact k h' tk F' N') fun _ _ e => e
end
end
end Mine
namespace Mine
section
local macro_rules | `(tactic| k_room) => `(tactic| ((try simp only [depth_mark, depth_under_make, depth_under_kw, depth_in1, depth_deeper, depth_Ar, recursionLimit]); omega))
local macro_rules | `(tactic| walk_at "wpAt") => `(tactic| dsimp only)
local macro_rules | `(tactic| walk_at "wpAt") => `(tactic| (ks_step "exec Expr"; k_dflt (refine ks_wpAt_Expr_any ?_)))
local macro_rules | `(tactic| walk_at "wpAt") => `(tactic| (ks_step "eval Call"; k_dflt (refine ks_wpAt_MethodCall ?_)))
local macro_rules | `(tactic| k_units) => `(tactic| ((simp only [units_Ar, units_in1, units_deeper, cLine_is]); omega))
local macro_rules | `(tactic| k_mem) => `(tactic| assumption)
local macro_rules | `(tactic| k_all) => `(tactic| first | assumption | exact allLt_ne (by assumption))
variable {w : World} {s : Shared} {base : Heap} {outer : List Env} {p : Program} {loose : List Str} {mean : ExcName → Option Value} {mg mb : Str → Option Value}
variable {h₀ : Heap} {m : Str → Option Value} {news : List (Addr × Obj)} {Q : Value → Shared → Prop} {E : Value → Shared → Prop} {A₀ : Around}
variable {cn : Str} {nms : List (Str × NameKind)} {b1 b2 : Bool} {more : List (Str × Const)} {L fa : Addr} {cd : Value} {cl : List (Str × Addr)} {d u : Nat}
variable {v : Value} {t1 t2 : Tok}
variable {x dx lst a da : Addr} {ts : Tok} {vs : List Value} {n : Nat} {j : Int} {t : Tok} {k c : Nat} {rest : List (Addr × Obj)}
section
variable {prog : Program} {A : Around} {env : Env}
theorem UnrPostW.mono {L : Addr} {s₁ s₂ : Shared} {its : List (Addr × Obj)} {r r' : (Str → Option Value) → List (Addr × Obj) → Prop} {Q : Flow → Shared → Prop} {f : Flow} (hr : ∀ m n, r m n → r' m n) (h : UnrPostW h₀ L s₁ its r Q f s₂) : UnrPostW h₀ L s₁ its r' Q f s₂ := by
  cases f with
  | ret v => exact h
  | brk => exact h
  | next => obtain ⟨h', tk, m', n', e, F, N, o, q⟩ := h; exact ⟨h', tk, m', n', e, F, N, o, hr _ _ q⟩
  | cont => obtain ⟨h', tk, m', n', e, F, N, o, q⟩ := h; exact ⟨h', tk, m', n', e, F, N, o, hr _ _ q⟩
/-- a loop over written items by what holds between its turns -/
theorem items_ind {Q : Flow → Shared → Prop} {target : PySem.Expr} {body : List Stmt} {I : Addr} {cl' : String} {keep : List (Addr × Obj)} (R : Value → Prop) (J : (Str → Option Value) → List (Addr × Obj) → Prop)
    (step : ∀ v m₁ nw h tk o, R v → J m₁ nw → o.cls = .type cl' → Fr h₀ env.locals h m₁ → News h₀ env.locals h ((I, o) :: nw) →
      wpAny (model prog w) A (assign target env v) (fun _ s₂ => wpAny (model prog w) A (execs body env) (UnrPostW h₀ env.locals { s with heap := h, toks := tk } [(I, o)] (fun m' n' => SubL keep n' ∧ J m' n') Q) E s₂) E { s with heap := h, toks := tk })
    (fin : ∀ m nw, J m nw → ∀ h tk, Fr h₀ env.locals h m → News h₀ env.locals h nw → Q .next { s with heap := h, toks := tk }) :
    ∀ (vs : List Value) (m : Str → Option Value) (nw : List (Addr × Obj)), (∀ v ∈ vs, R v) → J m nw → ItemsRest prog w A E h₀ env target body Q s [(I, cl')] keep (vs.map .val) m nw := by
  intro vs
  induction vs with
  | nil => intro m nw _ hJ; exact ItemsRest.zero (fin m nw hJ)
  | cons v r ih =>
    intro m nw hR hJ
    refine ItemsRest.val fun h tk F => AllObj.cons fun o hc => AllObj.nil fun N => ?_
    refine wpAny_mono (step v m nw h tk o (hR v (.head _)) hJ hc F N) (fun _ s₂ q => wpAny_mono q (fun f s₃ q => UnrPostW.mono (f := f) (r := fun m' n' => SubL keep n' ∧ J m' n') (fun m' n' ⟨a, b⟩ => ⟨a, ih m' n' (fun u hu => hR u (.tail _ hu)) b⟩) q) fun _ _ e => e) fun _ _ e => e
theorem keeps_trans {s₁ s₂ s₃ : Shared} (h : Keeps s₁ s₂) (h' : Keeps s₂ s₃) : Keeps s₁ s₃ := by
  obtain ⟨a, b, rfl, k⟩ := h
  obtain ⟨c, d', rfl, k'⟩ := h'
  exact ⟨c, d', rfl, fun x o e => k' _ _ (k _ _ e)⟩
theorem paired_all {F : Value → Value → Prop} : ∀ {xs ys : List Value} {pcs : List Nat}, xs.length = pcs.length → (∀ (i : Nat) x y c, xs[i]? = some x → pcs[i]? = some c → F x y → IsVal c y) → Paired F xs ys → CarriedAll ys (pcs.map dataOf)
  | [], _, [], _, _, .nil => .nil
  | x :: xs, y :: ys, c :: pcs, hl, h, .cons h1 h2 => .cons (carried_of (h 0 x y c rfl rfl h1)) (paired_all (by simpa using hl) (fun i x y c q1 q2 => h (i + 1) x y c (by simpa using q1) (by simpa using q2)) h2)
/-- the names with a sign before them -/
theorem compStrs_c {elt iter : PySem.Expr} {x : Str} {px : Pos} {scope : Scope} {cl : List (Str × Addr)} {pos : Pos} {Q : Value → Shared → Prop} {l : Addr} {ns : List Value} {pcs : List Nat}
    (hn : Nms ns pcs) (hsz : ns.length ≤ 100) (hh : A.handled = none)
    (hclos : closureFor scope env = pure cl) (hcell : ∀ y ∈ scope.names, y.2 ≠ .cell) (hkind : scope.kind = .function)
    (hnames : ∀ y ∈ scope.names, y.2 = .local → scope.names.lookup y.1 = some .local) (hx : scope.names.lookup x = some .local)
    (hs : ∀ x, foldedSetIterable iter env x = pure x)
    (hit : wpAny (model prog w) A (eval iter env) (fun xv s₁ => xv = .ref l ∧ s₁.heap.IsList l ns.toArray ∧ Keeps s s₁) E s)
    (helt : ∀ C k t m₃ s₃ E', k < 4 → s₃.heap.Ns (compEnvC scope cl C env).locals m₃ → m₃ x = some (.str (nm k) t) → wpAny (model prog w) A (eval elt (compEnvC scope cl C env)) (fun y s₄ => (∃ t', y = .str (nameOf k) t') ∧ Keeps s₃ s₄) E' s₃)
    (hQ : ∀ D zs h' tk, h'.IsList D (List.toArray zs) → CarriedAll zs (pcs.map dataOf) → (∀ b o, s.heap.get? b = some o → h'.get? b = some o) → Q (.ref D) { s with heap := h', toks := tk }) :
    wpAny (model prog w) A (eval (.ListComp elt [⟨.Name x px, iter, [], 0⟩] scope pos) env) Q E s := by
  refine wpAny_ListComp_free (fun _ => true) (fun v y => ∃ k t, k < 4 ∧ v = .str (nm k) t ∧ ∃ t', y = .str (nameOf k) t') hclos hcell hkind hnames hx (wpAny_mono hit (fun xv s₁ h₁ => ?_) fun _ _ e => e) hs
  obtain ⟨rfl, hl, hK⟩ := h₁
  refine wpAny_pyIter_list hl ?_
  have hlt : l < s₁.heap.objs.size := by obtain ⟨o, ho, _⟩ := hl; exact Heap.lt_size ho
  have up : ∀ b o, s₁.heap.get? b = some o → (s₁.heap.push { cls := .type "list_iterator", data := .fields #[.ref l, .int 0 0] }).get? b = some o := fun b o e => Heap.get?_push_of_some _ e
  refine ⟨s₁.heap.objs.size, [s₁.heap.objs.size, l], [s₁.heap.objs.size], ns.toArray.size, _, _, rfl, walks_bound (Walks.list hh s₁.heap.objs.size l (Nat.ne_of_lt hlt) ns.toArray), by rw [sizeLine_eq, List.size_toArray]; omega, ⟨⟨_, Heap.get?_push_size _ rfl, rfl, rfl⟩, hl.at fun o e => up _ _ e⟩, ?_, ⟨?_, ?_⟩, ?_⟩
  · intro b hb
    have hb' : b = s₁.heap.objs.size ∨ b = l := by simpa using hb
    show b < (s₁.heap.push _).objs.size
    rw [Heap.size_push]
    rcases hb' with rfl | rfl
    · exact Nat.lt_succ_self _
    · exact Nat.lt_succ_of_lt hlt
  · intro C i v s₃ m₃ E' _ _ _ _ _ _
    exact wpAny_tests_nil ⟨rfl, _, _, rfl, fun _ _ e => e⟩
  · rintro C i v s₃ m₃ E' _ ⟨hi, hv⟩ _ hns hm _ _
    rw [List.size_toArray] at hi
    have hv' : ns[i]? = some v := by simpa using hv
    obtain ⟨c, hc⟩ : ∃ c, pcs[i]? = some c := ⟨_, List.getElem?_eq_getElem (by rw [← hn.1]; exact hi)⟩
    obtain ⟨h8, _, t, rfl⟩ := hn.2 i v c hv' hc
    have h4 : c / 2 < 4 := by omega
    exact wpAny_mono (helt C (c / 2) t m₃ s₃ E' h4 hns hm) (fun y s₄ ⟨a, b⟩ => ⟨⟨c / 2, t, h4, rfl, a⟩, b⟩) fun _ _ e => e
  · intro D h' tk ys vs hD hl' hpl hlen hP hF hk
    obtain ⟨h1, tk1, rfl, k1⟩ := hK
    have hvs : vs = ns := by
      refine List.ext_getElem? fun j => ?_
      rw [List.size_toArray] at hlen
      by_cases q : j < vs.length
      · rw [List.getElem?_eq_getElem q]
        have := (hP j _ (List.getElem?_eq_getElem q)).2
        rw [← this]; simp
      · rw [List.getElem?_eq_none (by omega), List.getElem?_eq_none (by omega)]
    subst hvs
    rw [List.filter_eq_self.mpr (fun _ _ => rfl)] at hF
    refine hQ D ys.toList h' tk (by simpa using hl') (paired_all hn.1 (fun i x y c q1 q2 q3 => ?_) hF) fun b o e => ?_
    · obtain ⟨h8, hev, t, rfl⟩ := hn.2 i x c q1 q2
      obtain ⟨k, t', h4, e, t'', rfl⟩ := q3
      unfold IsVal
      rw [if_pos hev]
      have e' : nm (c / 2) = nm k := by injection e
      have hkc : c / 2 = k := by
        have hc4 : c / 2 < 4 := by omega
        revert e'
        have a1 : c / 2 = 0 ∨ c / 2 = 1 ∨ c / 2 = 2 ∨ c / 2 = 3 := by omega
        have a2 : k = 0 ∨ k = 1 ∨ k = 2 ∨ k = 3 := by omega
        rcases a1 with q | q | q | q <;> rcases a2 with r | r | r | r <;> rw [q, r] <;> first | (intro _; rfl) | (intro z; exact absurd z (by decide +kernel))
      rw [hkc]
      exact ⟨t'', rfl⟩
    · refine hk b o ?_ (up b o (k1 b o e))
      intro hb
      have hb' : b = h1.objs.size := by simpa using hb
      exact Nat.lt_irrefl _ (hb' ▸ Heap.lt_size (k1 b o e))
theorem canLay_codes (cs : List Nat) : PyData.canLayAll0 (cs.map dataOf) = true := by
  induction cs with
  | nil => rfl
  | cons c r ih =>
    simp only [List.map_cons, PyData.canLayAll0, ih, Bool.and_true]
    unfold dataOf
    split
    · unfold nameOf; split <;> decide +kernel
    · simp [PyData.canLay0]
theorem eqv_codes {a b : Nat} (ha : a < 8) (hb : b < 8) : PyData.eqv (dataOf a) (dataOf b) = decide (a = b) := by
  have a1 : a = 0 ∨ a = 1 ∨ a = 2 ∨ a = 3 ∨ a = 4 ∨ a = 5 ∨ a = 6 ∨ a = 7 := by omega
  have a2 : b = 0 ∨ b = 1 ∨ b = 2 ∨ b = 3 ∨ b = 4 ∨ b = 5 ∨ b = 6 ∨ b = 7 := by omega
  rcases a1 with q | q | q | q | q | q | q | q <;> rcases a2 with r | r | r | r | r | r | r | r <;> rw [q, r] <;> decide +kernel
theorem any_eqv {b : Nat} (hb : b < 8) : ∀ {cs : List Nat}, (∀ c ∈ cs, c < 8) → (cs.map dataOf).any (fun y => PyData.eqv y (dataOf b)) = cs.contains b
  | [], _ => rfl
  | c :: r, h => by
    rw [List.map_cons, List.any_cons, any_eqv hb fun c hc => h c (.tail _ hc), eqv_codes (h c (.head _)) hb, List.contains_cons]
    congr 1
    by_cases q : c = b
    · subst q; simp
    · simp [q, Ne.symm q]
theorem inCodes_c {D : Addr} {zs : List Value} {y : Value} {c : Nat} {pcs : List Nat} {Q : Value → Shared → Prop} (hl : s.heap.IsList D zs.toArray) (hz : CarriedAll zs (pcs.map dataOf)) (hy : IsVal c y) (hc : c < 8) (hp : ∀ c ∈ pcs, c < 8)
    (hu : A.units + 8 < cLine) (h : Q (.bool (pcs.contains c)) s) : wpAny (model prog w) A (compareOp .In y (.ref D)) Q E s := by
  have r : Reads s.heap (.ref D) (.list (pcs.map dataOf)) [D] := reads_newData hl hz
  have hlay : (dataOf c).canLay0 = true := by
    have := canLay_codes [c]
    simpa [PyData.canLayAll0] using this
  have rx := (carried_of hy).reads s.heap
  refine SeqAt.in_list_reads r rx (canLay_codes pcs) hlay ?_ ?_
  · have : (dataOf c).depth ≤ 1 := by unfold dataOf; split <;> simp [PyData.depth]
    have : min (PyData.depthAll (pcs.map dataOf)) (dataOf c).depth ≤ 1 := Nat.le_trans (Nat.min_le_right _ _) this
    omega
  · rw [any_eqv hc hp]; exact h
end
end
end Mine
namespace Mine
section
local macro_rules | `(tactic| k_room) => `(tactic| ((try simp only [depth_mark, depth_under_make, depth_under_kw, depth_in1, depth_deeper, depth_Ar, recursionLimit]); omega))
local macro_rules | `(tactic| walk_at "wpAt") => `(tactic| dsimp only)
local macro_rules | `(tactic| walk_at "wpAt") => `(tactic| (ks_step "exec Expr"; k_dflt (refine ks_wpAt_Expr_any ?_)))
local macro_rules | `(tactic| walk_at "wpAt") => `(tactic| (ks_step "eval Call"; k_dflt (refine ks_wpAt_MethodCall ?_)))
local macro_rules | `(tactic| k_units) => `(tactic| ((simp only [units_Ar, units_in1, units_deeper, cLine_is]); omega))
local macro_rules | `(tactic| k_mem) => `(tactic| assumption)
local macro_rules | `(tactic| k_all) => `(tactic| first | assumption | exact allLt_ne (by assumption))
variable {w : World} {s : Shared} {base : Heap} {outer : List Env} {p : Program} {loose : List Str} {mean : ExcName → Option Value} {mg mb : Str → Option Value}
variable {h₀ : Heap} {m : Str → Option Value} {news : List (Addr × Obj)} {Q : Value → Shared → Prop} {E : Value → Shared → Prop} {A₀ : Around}
variable {cn : Str} {nms : List (Str × NameKind)} {b1 b2 : Bool} {more : List (Str × Const)} {L fa : Addr} {cd : Value} {cl : List (Str × Addr)} {d u : Nat}
variable {v : Value} {t1 t2 : Tok}
variable {x dx lst a da : Addr} {ts : Tok} {vs : List Value} {n : Nat} {j : Int} {t : Tok} {k c : Nat} {rest : List (Addr × Obj)}
theorem split_cell {P : Params} {x dx lst D' D c2 : Addr} {ts : Tok} {ys ws vs : List Value} {cs : List Nat} {o2 : Obj} {v2 : Option Value} {h : Heap} {nw pool : List (Addr × Obj)} (N : News h₀ L h nw) (hs : ∀ q ∈ pool, q ∈ nw) (c3 : (c2, o2) ∈ pool) (h2 : o2.data = .cell v2)
    (c1 : (x, instObj 225 dx) ∈ pool) (c2' : (dx, stDict P lst ts) ∈ pool) (c4 : (D', LCg.lst ys) ∈ pool) (c5 : (D, W.listOf ws.toArray 0) ∈ pool) (hops : Ops P pool vs cs) :
    ∃ pool', (∀ q ∈ pool', q ∈ pool) ∧ (∀ p ∈ pool', p.1 ≠ c2) ∧ (x, instObj 225 dx) ∈ pool' ∧ (dx, stDict P lst ts) ∈ pool' ∧ (D', LCg.lst ys) ∈ pool' ∧ (D, W.listOf ws.toArray 0) ∈ pool' ∧ Ops P pool' vs cs := by
  have same : ∀ {p q : Addr × Obj}, p ∈ nw → q ∈ nw → p.1 = q.1 → p.2 = q.2 := fun hp hq z => by
    have a := (N _ hp).1
    rw [z, (N _ hq).1] at a
    exact (Option.some.inj a).symm
  have nc : ∀ {a : Addr} {o : Obj}, (a, o) ∈ pool → (∀ v, o.data ≠ .cell v) → (a, o) ∈ pool.filter (fun p => decide (p.1 ≠ c2)) := fun hp hn =>
    List.mem_filter.mpr ⟨hp, decide_eq_true fun z => hn _ ((congrArg Obj.data (same (hs _ hp) (hs _ c3) z)).trans h2)⟩
  have listC : ∀ {its : Array Value} {k : Nat} v, (W.listOf its k).data ≠ .cell v := fun v q => by cases q
  have instC : ∀ {c dd : Addr} v, (instObj c dd).data ≠ .cell v := fun v q => by cases q
  have dictC : ∀ {es : List DictEntry} {k : Nat} v, (dictOf es k).data ≠ .cell v := fun v q => by cases q
  exact ⟨pool.filter (fun p => decide (p.1 ≠ c2)), fun q hq => (List.mem_filter.mp hq).1, fun q hq => of_decide_eq_true (List.mem_filter.mp hq).2, nc c1 instC, nc c2' dictC, nc c4 listC, nc c5 listC,
    hops.1, fun i v c q1 q2 => let ⟨a, dd, t1, t2, vv, e, h8, m1, m2, q3⟩ := hops.2 i v c q1 q2; ⟨a, dd, t1, t2, vv, e, h8, nc m1 instC, nc m2 dictC, q3⟩⟩
theorem news_split {h : Heap} {a b c e : Addr × Obj} {pool pool' : List (Addr × Obj)} (N : News h₀ L h (a :: b :: c :: pool)) (he : e ∈ pool) (hp : ∀ q ∈ pool', q ∈ pool) : News h₀ L h (e :: a :: b :: c :: pool') := by
  refine News.sub N fun p hp' => ?_
  rcases List.mem_cons.mp hp' with rfl | hp'
  · exact .tail _ (.tail _ (.tail _ he))
  · rcases List.mem_cons.mp hp' with rfl | hp'
    · exact .head _
    · rcases List.mem_cons.mp hp' with rfl | hp'
      · exact .tail _ (.head _)
      · rcases List.mem_cons.mp hp' with rfl | hp'
        · exact .tail _ (.tail _ (.head _))
        · exact .tail _ (.tail _ (.tail _ (hp _ hp')))
theorem news_sort {h : Heap} {a b c e f : Addr × Obj} {r : List (Addr × Obj)} (N : News h₀ L h (a :: b :: c :: e :: f :: r)) : News h₀ L h (f :: a :: b :: c :: e :: r) := by
  refine News.sub N fun p hp => ?_
  simp only [List.mem_cons] at hp ⊢
  rcases hp with h | h | h | h | h | h <;> simp [h]
/-- a list of names, made by the loop's head -/
def NmL (nw : List (Addr × Obj)) (v : Value) : Prop := ∃ l ns nn pcs, v = .ref l ∧ (l, W.listOf (List.toArray ns) nn) ∈ nw ∧ Nms ns pcs ∧ ns.length ≤ 10 ∧ ∀ c ∈ pcs, c < 8
/-- what stands between the turns over the names -/
def LoopJ (c2 D' x : Addr) (base : List (Addr × Obj)) (m : Str → Option Value) (nw : List (Addr × Obj)) : Prop :=
  ∃ o2 v2, nw = (c2, o2) :: base ∧ o2.data = .cell v2 ∧ m "numbers" = some (.ref D') ∧ m "stack" = some (.ref x)
theorem Nms.nil : Nms [] [] := ⟨rfl, fun _ _ _ h => by simp at h⟩
theorem Nms.cons {v : Value} {c : Nat} {ns : List Value} {pcs : List Nat} (h : c < 8 ∧ c % 2 = 0 ∧ ∃ t, v = .str (nm (c / 2)) t) (r : Nms ns pcs) : Nms (v :: ns) (c :: pcs) := by
  refine ⟨by simp [r.1], fun i u c' h1 h2 => ?_⟩
  cases i with
  | zero => simp at h1 h2; subst h1 h2; exact h
  | succ i => exact r.2 i u c' (by simpa using h1) (by simpa using h2)
section
variable {prog : Program} {A : Around} {env : Env}
theorem names_loop {Q : Flow → Shared → Prop} {target : PySem.Expr} {body : List Stmt} {I c2 D' x : Addr} {cl' : String} {keep base : List (Addr × Obj)} {vs : List Value} {o2 : Obj} {v2 : Option Value}
    (h2 : o2.data = .cell v2) (m1 : m "numbers" = some (.ref D')) (m2 : m "stack" = some (.ref x)) (hR : ∀ v ∈ vs, NmL base v)
    (step : ∀ v m₁ nw h tk o, NmL base v → LoopJ c2 D' x base m₁ nw → o.cls = .type cl' → Fr h₀ env.locals h m₁ → News h₀ env.locals h ((I, o) :: nw) →
      wpAny (model prog w) A (assign target env v) (fun _ s₂ => wpAny (model prog w) A (execs body env) (UnrPostW h₀ env.locals { s with heap := h, toks := tk } [(I, o)] (fun m' n' => SubL keep n' ∧ LoopJ c2 D' x base m' n') Q) E s₂) E { s with heap := h, toks := tk })
    (fin : ∀ m nw, LoopJ c2 D' x base m nw → ∀ h tk, Fr h₀ env.locals h m → News h₀ env.locals h nw → Q .next { s with heap := h, toks := tk }) :
    ItemsRest prog w A E h₀ env target body Q s [(I, cl')] keep (vs.map .val) m ((c2, o2) :: base) :=
  items_ind (NmL base) (LoopJ c2 D' x base) step fin vs m _ hR ⟨_, _, rfl, h2, m1, m2⟩
end
theorem turn_done {Q : Flow → Shared → Prop} {I c2 D' x : Addr} {o o2 : Obj} {v2 : Option Value} {kp : Addr × Obj} {base nw : List (Addr × Obj)} {h' : Heap} {tk : Nat} {m' : Str → Option Value} {s₁ : Shared} (F : Fr h₀ L h' m') (N : News h₀ L h' nw) (hI : (I, o) ∈ nw) (hc : (c2, o2) ∈ nw) (ho2 : o2.data = .cell v2)
    (hb : ∀ p ∈ base, p ∈ nw) (offc : c2 ≠ I) (off : ∀ p ∈ base, p.1 ≠ I) (hk : kp ∈ base) (m1 : m' "numbers" = some (.ref D')) (m2 : m' "stack" = some (.ref x)) :
    UnrPostW h₀ L s₁ [(I, o)] (fun m' n' => SubL [kp] n' ∧ LoopJ c2 D' x base m' n') Q .next { s₁ with heap := h', toks := tk } := by
  refine ⟨h', tk, m', (c2, o2) :: base, rfl, F, News.sub N ?_, ?_, ⟨.tail _ hk, trivial⟩, o2, v2, rfl, ho2, m1, m2⟩
  · intro p hp
    rcases List.mem_cons.mp hp with rfl | hp
    · exact hI
    · rcases List.mem_cons.mp hp with rfl | hp
      · exact hc
      · exact hb p hp
  · intro p hp q hq
    rw [List.mem_singleton.mp hq]
    rcases List.mem_cons.mp hp with rfl | hp
    · exact offc
    · exact off p hp
theorem one_cases {cs pcs : List Nat} {v : Value} {ys : List Value} (h : OneIs cs pcs v) (hI : IntsAre ys (((List.range cs.length).filter (hit cs pcs)).map fun (k : Nat) => (k : Int))) :
    (ys = [] ∧ v = .ref 136) ∨ (∃ (j : Nat) (t t' : Tok), ys = [.int (j : Int) t] ∧ v = .int (-(j : Int)) t') ∨ (∃ (a b : Nat) (t t' t'' : Tok) (ys' : List Value) (zs : List Int), ys = .int (a : Int) t :: .int (b : Int) t' :: ys' ∧ IntsAre ys' zs ∧ ys'.length ≤ cs.length ∧ v = .str (Str.ofString "refused") t'') := by
  rcases h with (⟨hf, rfl⟩ | ⟨j, t, hf, rfl⟩) | ⟨h2, t, rfl⟩
  · rw [hf] at hI; cases hI; exact .inl ⟨rfl, rfl⟩
  · rw [hf] at hI
    cases hI with
    | cons _ t' r => cases r; exact .inr (.inl ⟨j, _, _, rfl, rfl⟩)
  · have hl : ((List.range cs.length).filter (hit cs pcs)).length ≤ cs.length := by
      have := List.length_filter_le (hit cs pcs) (List.range cs.length)
      rwa [List.length_range] at this
    generalize (List.range cs.length).filter (hit cs pcs) = l at h2 hI hl
    match l, h2, hI, hl with
    | a :: b :: r, _, .cons _ t1 (.cons _ t2 q), hl =>
      have e := ints_len q
      rw [List.length_map] at e
      simp only [List.length_cons] at hl
      exact .inr (.inr ⟨a, b, _, _, _, _, _, rfl, q, by omega, rfl⟩)
theorem lenZ_c {prog : Program} {A : Around} {D : Addr} {ys : List Value} {z e : Nat} {Q : Value → Shared → Prop} (N : News h₀ L s.heap news) (hm : (D, W.listOf ys.toArray e) ∈ news) (hz : ys.length = z) (hb : z ≤ 1000)
    (h : ∀ t tk, Q (.int (z : Int) t) { s with toks := tk }) : wpAny (model prog w) A (call (.builtin "len") [.ref D]) Q E s := by
  have hs : ys.toArray.size = z := by rw [List.size_toArray, hz]
  have := h (s.toks + 1) (s.toks + 1 + 1)
  rw [← hs] at this
  exact len_list (News.isList N hm) (by rw [hs]; omega) this
end
end Mine
namespace Mine
section
local macro_rules | `(tactic| k_room) => `(tactic| ((try simp only [depth_mark, depth_under_make, depth_under_kw, depth_in1, depth_deeper, depth_Ar, recursionLimit]); omega))
local macro_rules | `(tactic| walk_at "wpAt") => `(tactic| dsimp only)
local macro_rules | `(tactic| walk_at "wpAt") => `(tactic| (ks_step "exec Expr"; k_dflt (refine ks_wpAt_Expr_any ?_)))
local macro_rules | `(tactic| walk_at "wpAt") => `(tactic| (ks_step "eval Call"; k_dflt (refine ks_wpAt_MethodCall ?_)))
local macro_rules | `(tactic| k_units) => `(tactic| ((simp only [units_Ar, units_in1, units_deeper, cLine_is]); omega))
local macro_rules | `(tactic| k_mem) => `(tactic| assumption)
local macro_rules | `(tactic| k_all) => `(tactic| first | assumption | exact allLt_ne (by assumption))
variable {w : World} {s : Shared} {base : Heap} {outer : List Env} {p : Program} {loose : List Str} {mean : ExcName → Option Value} {mg mb : Str → Option Value}
variable {h₀ : Heap} {m : Str → Option Value} {news : List (Addr × Obj)} {Q : Value → Shared → Prop} {E : Value → Shared → Prop} {A₀ : Around}
variable {cn : Str} {nms : List (Str × NameKind)} {b1 b2 : Bool} {more : List (Str × Const)} {L fa : Addr} {cd : Value} {cl : List (Str × Addr)} {d u : Nat}
variable {v : Value} {t1 t2 : Tok}
variable {x dx lst a da : Addr} {ts : Tok} {vs : List Value} {n : Nat} {j : Int} {t : Tok} {k c : Nat} {rest : List (Addr × Obj)}
/-- the top and the one k below it change places -/
def sw {α : Type} (l : List α) (k : Nat) : List α := match l[l.length - 1 - k]?, l[l.length - 1]? with | some a, some b => (l.set (l.length - 1) a).set (l.length - 1 - k) b | _, _ => l
theorem sw_eq {α : Type} {l : List α} {k : Nat} {a b : α} (ha : l[l.length - 1 - k]? = some a) (hb : l[l.length - 1]? = some b) : sw l k = (l.set (l.length - 1) a).set (l.length - 1 - k) b := by
  unfold sw; rw [ha, hb]
theorem sw_len {α : Type} {l : List α} {k : Nat} : (sw l k).length = l.length := by
  unfold sw; split <;> simp
theorem sw_at {α : Type} {l : List α} {k i : Nat} (hk : k < l.length) (h0 : 0 < k) : (sw l k)[i]? = if i = l.length - 1 then l[l.length - 1 - k]? else if i = l.length - 1 - k then l[l.length - 1]? else l[i]? := by
  have ha : l[l.length - 1 - k]? = some (l[l.length - 1 - k]'(by omega)) := List.getElem?_eq_getElem _
  have hb : l[l.length - 1]? = some (l[l.length - 1]'(by omega)) := List.getElem?_eq_getElem _
  rw [sw_eq ha hb]
  by_cases q1 : i = l.length - 1
  · subst q1
    rw [if_pos rfl, List.getElem?_set_ne (by omega), List.getElem?_set_self (by omega), ha]
  · rw [if_neg q1]
    by_cases q2 : i = l.length - 1 - k
    · subst q2
      rw [if_pos rfl, List.getElem?_set_self (by rw [List.length_set]; omega), hb]
    · rw [if_neg q2, List.getElem?_set_ne (fun z => q2 z.symm), List.getElem?_set_ne (fun z => q1 z.symm)]
theorem sw_sw {α : Type} {l : List α} {k : Nat} (hk : k < l.length) (h0 : 0 < k) : sw (sw l k) k = l := by
  refine List.ext_getElem? fun i => ?_
  have hk' : k < (sw l k).length := by rw [sw_len]; exact hk
  rw [sw_at hk' h0]
  simp only [sw_len]
  rw [sw_at hk h0, sw_at hk h0, sw_at hk h0]
  have n1 : l.length - 1 - k ≠ l.length - 1 := by omega
  by_cases q1 : i = l.length - 1
  · subst q1; simp [n1]
  · by_cases q2 : i = l.length - 1 - k
    · subst q2; simp [n1]
    · simp [q1, q2]
theorem sw_tri {α : Type} {l : List α} {a b : Nat} {va vb : α} (ha : a < l.length) (hb : b < l.length) (h0 : 0 < a) (h1 : 0 < b) (hab : a ≠ b) (e1 : l[l.length - 1 - a]? = some va) (e2 : l[l.length - 1 - b]? = some vb) :
    sw (sw (sw l a) b) a = (l.set (l.length - 1 - a) vb).set (l.length - 1 - b) va := by
  refine List.ext_getElem? fun i => ?_
  have l1 : (sw l a).length = l.length := sw_len
  have l2 : (sw (sw l a) b).length = l.length := by rw [sw_len, sw_len]
  have n1 : l.length - 1 - a ≠ l.length - 1 := by omega
  have n2 : l.length - 1 - b ≠ l.length - 1 := by omega
  have n3 : l.length - 1 - a ≠ l.length - 1 - b := by omega
  have n4 : l.length - 1 - b ≠ l.length - 1 - a := by omega
  have s1 : ∀ j : Nat, (sw l a)[j]? = if j = l.length - 1 then some va else if j = l.length - 1 - a then l[l.length - 1]? else l[j]? := fun j => by rw [sw_at ha h0, e1]
  have s2 : ∀ j : Nat, (sw (sw l a) b)[j]? = if j = l.length - 1 then some vb else if j = l.length - 1 - b then some va else (sw l a)[j]? := fun j => by
    rw [sw_at (by rw [l1]; exact hb) h1]
    simp only [l1]
    rw [s1 (l.length - 1 - b), s1 (l.length - 1), if_neg n2, if_neg n4, if_pos rfl, e2]
  rw [sw_at (by rw [l2]; exact ha) h0]
  simp only [l2]
  rw [s2 (l.length - 1 - a), s2 (l.length - 1), if_neg n1, if_neg n3, if_pos rfl, s1 (l.length - 1 - a), if_neg n1, if_pos rfl, s2 i, s1 i]
  by_cases q1 : i = l.length - 1
  · subst q1
    rw [if_pos rfl, List.getElem?_set_ne n2, List.getElem?_set_ne n1]
  · rw [if_neg q1, if_neg q1, if_neg q1]
    by_cases q2 : i = l.length - 1 - a
    · subst q2
      rw [if_pos rfl, List.getElem?_set_ne n4, List.getElem?_set_self (by omega)]
    · rw [if_neg q2, if_neg q2]
      by_cases q3 : i = l.length - 1 - b
      · subst q3
        rw [if_pos rfl, List.getElem?_set_self (by rw [List.length_set]; omega)]
      · rw [if_neg q3, List.getElem?_set_ne (fun z => q3 z.symm), List.getElem?_set_ne (fun z => q2 z.symm)]
theorem Ops.sw {P : Params} {vs : List Value} {cs : List Nat} {k : Nat} (h : Ops P news vs cs) (hk : k < vs.length) : Ops P news (sw vs k) (sw cs k) := by
  have hl := h.1
  have ha : vs[vs.length - 1 - k]? = some (vs[vs.length - 1 - k]'(by omega)) := List.getElem?_eq_getElem _
  have hb : vs[vs.length - 1]? = some (vs[vs.length - 1]'(by omega)) := List.getElem?_eq_getElem _
  obtain ⟨c1, e1, o1⟩ := h.at ha
  obtain ⟨c2, e2, o2⟩ := h.at hb
  rw [sw_eq ha hb, sw_eq (by rw [← hl]; exact e1) (by rw [← hl]; exact e2), ← hl]
  exact (h.set o1).set o2
theorem swapS_c {gU : Obj → List (Addr × Obj)} (hj : j < 0) (hk : -j < vs.length) (hlen : vs.length ≤ 100) (U : UpdF lst (W.listOf vs.toArray n) news gU) (hx : (x, instObj 225 dx) ∈ news) (hdx : (dx, stDict w.params lst ts) ∈ news)
   (hd : d ≤ 370) (hu : u ≤ 70) (B : Below A₀ base outer h₀) (F : Fr h₀ L s.heap m) (N : News h₀ L s.heap news)
   (X : (Mine.hd.heap_39 w.params).In h₀) (T : Top p loose mean mg mb h₀)
   (h : ∀ h' tk, Fr h₀ L h' m → News h₀ L h' (gU (W.listOf (sw vs j.natAbs).toArray n)) → Q .none { s with heap := h', toks := tk }) :
   wpAny (model PR w) (Ar d u (EV cn nms b1 b2 more L fa cd cl :: outer)) (call (.ref 215) [.ref x, .int j t]) Q E s :=
  swapG_c hj hk hlen U hx hdx hd hu B F N X T fun v v' h' tk e1 e2 F' N' => h h' tk F' (by rw [sw_eq e1 e2]; exact N')
theorem fm1_rng {a b : Int} (h : 0 < b) : 1 ≤ 1 + a.fmod b ∧ 1 + a.fmod b < b + 1 := by have := fm_rng (a := a) h; omega
section
variable {prog : Program} {A : Around} {env : Env}
def Cut2 (h₀ : Heap) (L : Addr) (news : List (Addr × Obj)) (n : Int) (a b c : Str) (x : Addr) (s : Shared) (f : Flow) (s' : Shared) : Prop :=
  f = .next ∧ ∃ h' tk m', s' = { s with heap := h', toks := tk } ∧ Fr h₀ L h' m' ∧ News h₀ L h' news ∧ (∃ i1 t1, m' a = some (.int i1 t1) ∧ 1 ≤ i1 ∧ i1 < n) ∧ (∃ i2 t2, m' b = some (.int i2 t2) ∧ 1 ≤ i2 ∧ i2 < n) ∧ m' c = some (.ref x)
/-- a statement that stores two ints -/
theorem cut_two {st : Stmt} {Q : Flow → Shared → Prop} {a b c : Str} {x : Addr} (n : Int) (F : Fr h₀ env.locals s.heap m) (N : News h₀ env.locals s.heap news) (_hc : m c = some (.ref x))
    (h1 : wpAny (model prog w) A (exec st env) (Cut2 h₀ env.locals news n a b c x s) E s)
    (k : ∀ h' tk (m' : Str → Option Value) i1 t1 i2 t2, Fr h₀ env.locals h' (fun y => if y = a then some (.int i1 t1) else if y = b then some (.int i2 t2) else if y = c then some (.ref x) else m' y) → News h₀ env.locals h' news → 1 ≤ i1 → i1 < n → 1 ≤ i2 → i2 < n → Q .next { s with heap := h', toks := tk }) : wpAny (model prog w) A (exec st env) Q E s :=
  wpAny_mono h1 (fun f s' ⟨e1, h', tk, m', e2, F', N', ⟨i1, t1, q1, q2, q3⟩, ⟨i2, t2, p1, p2, p3⟩, r1⟩ => by
    subst e1 e2
    refine k h' tk m' i1 t1 i2 t2 ?_ N' q2 q3 p2 p3
    have e : m' = fun y => if y = a then some (.int i1 t1) else if y = b then some (.int i2 t2) else if y = c then some (.ref x) else m' y := by
      funext y
      by_cases z1 : y = a
      · rw [if_pos z1, z1]; exact q1
      · rw [if_neg z1]
        by_cases z2 : y = b
        · rw [if_pos z2, z2]; exact p1
        · rw [if_neg z2]
          by_cases z3 : y = c
          · rw [if_pos z3, z3]; exact r1
          · rw [if_neg z3]
    rw [← e]; exact F') fun _ _ e => e
end
theorem fm1_rng' {a b n : Int} (h : 0 < b) (hn : b + 1 = n) : 1 ≤ 1 + a.fmod b ∧ 1 + a.fmod b < n := by have := fm_rng (a := a) h; omega
theorem take_snoc {α : Type} {l : List α} {v : α} : (l ++ [v]).take ((l ++ [v]).length - 1) = l := by simp
theorem news_core {h : Heap} {a b c e f : Addr × Obj} {r : List (Addr × Obj)} (N : News h₀ L h (a :: b :: c :: e :: f :: r)) : News h₀ L h r := News.sub N fun _ hp => .tail _ (.tail _ (.tail _ (.tail _ (.tail _ hp))))
theorem abs_lt {i : Int} {n : Nat} (h0 : 1 ≤ i) (h1 : i < n) : (-i).natAbs < n ∧ 0 < (-i).natAbs := by omega
theorem abs_ne {i k : Int} (h0 : 1 ≤ i) (h1 : 1 ≤ k) (h : i ≠ k) : (-i).natAbs ≠ (-k).natAbs := by omega
theorem news_list {h : Heap} {a b : Addr × Obj} {l : Addr} {v1 v2 : List Value} {z : Nat} {r : List (Addr × Obj)} (N : News h₀ L h (a :: b :: (l, W.listOf v1.toArray z) :: r)) (e : v1 = v2) : News h₀ L h (a :: b :: (l, W.listOf v2.toArray z) :: r) := by
  subst e; exact N
theorem last_swap {P : Params} {pool : List (Addr × Obj)} {vs rv : List Value} {cs : List Nat} {i1 i2 : Int} {vA vB : Value} (hops : Ops P pool vs cs) (hrow : Row rv cs) (p1 : 1 ≤ i1) (p2 : i1 < rv.length) (p3 : 1 ≤ i2) (p4 : i2 < rv.length) (hne : i1 ≠ i2)
    (hA : rv[(-1 - i1 + rv.length).toNat]? = some vA) (hB : rv[(-1 - i2 + rv.length).toNat]? = some vB) :
    ∃ cs', Ops P pool (sw (sw (sw vs (-i1).natAbs) (-i2).natAbs) (-i1).natAbs) cs' ∧ Row ((rv.set (-1 - i1 + ↑rv.length).toNat vB).set (-1 - i2 + ↑(rv.set (-1 - i1 + ↑rv.length).toNat vB).length).toNat vA) cs' := by
  have h1 := hops.1
  have h2 := hrow.1
  have a1 := abs_lt (n := cs.length) p1 (by omega)
  have a2 := abs_lt (n := cs.length) p3 (by omega)
  have a3 := abs_ne p1 p3 hne
  have e1 : (-1 - i1 + (rv.length : Int)).toNat = cs.length - 1 - (-i1).natAbs := by omega
  have e2 : (-1 - i2 + (rv.length : Int)).toNat = cs.length - 1 - (-i2).natAbs := by omega
  have e3 : (-1 - i2 + (((rv.set (-1 - i1 + ↑rv.length).toNat vB).length : Nat) : Int)).toNat = cs.length - 1 - (-i2).natAbs := by rw [List.length_set]; exact e2
  have c1 : cs[cs.length - 1 - (-i1).natAbs]? = some (cs[cs.length - 1 - (-i1).natAbs]'(by omega)) := List.getElem?_eq_getElem _
  have c2 : cs[cs.length - 1 - (-i2).natAbs]? = some (cs[cs.length - 1 - (-i2).natAbs]'(by omega)) := List.getElem?_eq_getElem _
  refine ⟨_, ((hops.sw (by rw [h1]; exact a1.1)).sw (by rw [sw_len, h1]; exact a2.1)).sw (by rw [sw_len, sw_len, h1]; exact a1.1), ?_⟩
  rw [sw_tri a1.1 a2.1 a1.2 a2.2 a3 c1 c2]
  exact hrow.swap e1 e3 (hrow.at' hB c2 e2) (hrow.at' hA c1 e1)
/-- stands in the context from the law's last block on -/
def LateMark : Prop := True
theorem LateMark.here : LateMark := True.intro
end
end Mine
namespace Mine
section
local macro_rules | `(tactic| k_room) => `(tactic| ((try simp only [depth_mark, depth_under_make, depth_under_kw, depth_in1, depth_deeper, depth_Ar, recursionLimit]); omega))
local macro_rules | `(tactic| walk_at "wpAt") => `(tactic| dsimp only)
local macro_rules | `(tactic| walk_at "wpAt") => `(tactic| (ks_step "exec Expr"; k_dflt (refine ks_wpAt_Expr_any ?_)))
local macro_rules | `(tactic| walk_at "wpAt") => `(tactic| (ks_step "eval Call"; k_dflt (refine ks_wpAt_MethodCall ?_)))
local macro_rules | `(tactic| k_units) => `(tactic| ((simp only [units_Ar, units_in1, units_deeper, cLine_is]); omega))
local macro_rules | `(tactic| k_mem) => `(tactic| assumption)
local macro_rules | `(tactic| k_all) => `(tactic| first | assumption | exact allLt_ne (by assumption))
local macro_rules | `(tactic| walk_at "compareOp IsNot int ref") => `(tactic| refine wpAny_isNot_other (by rfl) (by intro x; cases x) ?_)
local macro_rules | `(tactic| walk_at "subscriptTail") => `(tactic| (k_here; (with_reducible show wpAny _ _ (subscriptTail _ _ (Value.ref _) (Value.int _ _)) _ _ _); k_dflt (refine' back_c ?N ?m ?a ?b ?c ?_ ; (case N => k_asm); (case m => k_mem); (case a => omega); (case b => omega); (case c => omega)); k_whole; intro v' hv'))

local macro_rules | `(tactic| walk_at "setItem ref int") => `(tactic| (k_here; (with_reducible show wpAny _ _ (setItem (Value.ref _) (Value.int _ _) _) _ _ _); k_dflt (refine' setBack_c ?F ?N ?U ?a ?b ?c ?_ ; (case F => k_asm); (case N => k_asm); (case U => k_upd); (case a => omega); (case b => (try simp only [List.length_set]); omega); (case c => omega)); k_whole; intro h' F' N'; (try k_sweep)))
local macro_rules | `(tactic| k_lt $h) => `(tactic| (replace $h := allLt_of $h; (try simp only [AllLt, and_true] at $h:ident); try (first | (have lR' : AllLt _ _ := $h) | (have lR' : AllLt _ _ := And.right $h) | (have lR' : AllLt _ _ := And.right (And.right $h)) | (have lR' : AllLt _ _ := And.right (And.right (And.right $h))) | (have lR' : AllLt _ _ := And.right (And.right (And.right (And.right $h)))) | (have lR' : AllLt _ _ := And.right (And.right (And.right (And.right (And.right $h))))) | (have lR' : AllLt _ _ := And.right (And.right (And.right (And.right (And.right (And.right $h)))))) | (have lR' : AllLt _ _ := And.right (And.right (And.right (And.right (And.right (And.right (And.right $h))))))) | (have lR' : AllLt _ _ := And.right (And.right (And.right (And.right (And.right (And.right (And.right (And.right $h)))))))) | (have lR' : AllLt _ _ := And.right (And.right (And.right (And.right (And.right (And.right (And.right (And.right (And.right $h)))))))))  | (have lR' : AllLt _ _ := And.right (And.right (And.right (And.right (And.right (And.right (And.right (And.right (And.right (And.right $h))))))))))  | (have lR' : AllLt _ _ := And.right (And.right (And.right (And.right (And.right (And.right (And.right (And.right (And.right (And.right (And.right $h)))))))))))  | (have lR' : AllLt _ _ := And.right (And.right (And.right (And.right (And.right (And.right (And.right (And.right (And.right (And.right (And.right (And.right $h))))))))))))  | (have lR' : AllLt _ _ := And.right (And.right (And.right (And.right (And.right (And.right (And.right (And.right (And.right (And.right (And.right (And.right (And.right $h))))))))))))))))
local macro_rules | `(tactic| walk_at "call builtin:len") => `(tactic| (k_here; (with_reducible show wpAny _ _ (call (Value.builtin "len") [Value.ref _]) _ _ _); k_dflt (refine' len_c ?N ?m ?z ?_; (case N => k_asm); (case m => k_mem); (case z => omega)); k_whole; intro t' tk'))
local macro_rules | `(tactic| walk_at "call builtin:list.copy") => `(tactic| (k_here; k_dflt (refine' copyList_c ?F ?N ?m ?z ?_; (case F => k_asm); (case N => k_asm); (case m => k_mem); (case z => omega)); k_whole; intro D' h' F' N' l1; (try k_lt l1); (try k_sweep)))
local macro_rules | `(tactic| walk_at "delItem ref ref") => `(tactic| (k_here; k_dflt (refine' delSlice_c ?F ?N ?U ?a ?b ?z ?_; (case F => k_asm); (case N => k_asm); (case U => k_upd); (case a => omega); (case b => omega); (case z => omega)); k_whole; intro h' F' N'; (try k_sweep)))
local macro_rules | `(tactic| walk_at "subscriptTail Name Slice ref ref") => `(tactic| (k_here; (with_reducible show wpAny _ _ (subscriptTail _ (PySem.Expr.Slice _ _ none _) (Value.ref _) (Value.ref _)) _ _ _); k_dflt (first | (refine' sliceAll_c ?F ?N ?m ?z ?_ ?s ?t; (case F => k_asm); (case N => k_asm); (case m => k_mem); (case z => omega); (case s => with_unfolding_all rfl); (case t => kmk_pure)) | (refine' sliceUpto_c ?F ?N ?m ?a ?z ?_ ?s ?t; (case F => k_asm); (case N => k_asm); (case m => k_mem); (case a => omega); (case z => omega); (case s => with_unfolding_all rfl); (case t => kmk_pure))); intro D' h' F' N' l1; (try k_lt l1); (try k_sweep)))
local macro_rules | `(tactic| walk_at "call type:reversed") => `(tactic| (k_here; (with_reducible show wpAny _ _ (call (Value.type _) [Value.ref _]) _ _ _); k_dflt (refine' reversed_c ?F ?N ?m ?_; (case F => k_asm); (case N => k_asm); (case m => k_mem)); k_whole; intro D' h' F' N' l1; have l1' := l1; (try k_lt l1); (try k_sweep)))
local macro_rules | `(tactic| walk_at "getAttr ref") => `(tactic| (k_here; (with_reducible show wpAny _ _ (getAttr (Value.ref _) (PySem.Str.ofString "value") _) _ _ _); k_dflt (refine' getValue_c ?F ?N ?X ?a ?b ?c ?_; (case F => k_asm); (case N => k_asm); (case X => k_asm); (case a => k_mem); (case b => k_mem); (case c => assumption)); k_whole))
local macro_rules | `(tactic| walk_at "call builtin:isinstance") => `(tactic| (k_here; (with_reducible show wpAny _ _ (call _ [Value.ref _, Value.ref 67]) _ _ _); k_dflt (refine' isOp_c ?F ?N ?X ?a ?b ?_; (case F => k_asm); (case N => k_asm); (case X => k_asm); (case a => k_mem); (case b => k_mem)); k_whole))
local macro_rules | `(tactic| walk_at "compareOp Eq") => `(tactic| (k_dflt (refine' eqVal_c ?a ?b ?c ?d ?_; (case a => assumption); (case b => assumption); (case c => assumption); (case d => assumption)); k_whole))
local macro_rules | `(tactic| walk_at "subscriptTail") => `(tactic| (k_here; (with_reducible show wpAny _ _ (subscriptTail _ _ (Value.ref _) (Value.int _ _)) _ _ _); k_dflt (refine' backK_c ?N ?m ?x ?j ?a ?b ?c ?_ ; (case N => k_asm); (case m => k_mem); (case x => assumption); (case j => omega); (case a => omega); (case b => omega); (case c => omega)); k_whole))
local macro_rules | `(tactic| walk_at "call ref") => `(tactic| (k_here; (with_reducible show wpAny _ _ (call (Value.ref 241) [Value.int _ _]) _ _ _); k_dflt (refine' thing_c ?k3 ?k4 ?k5 ?k6 ?k7 ?k8 ?k9 ?_; (case k3 => ((try simp only [depth_mark, depth_under_make, depth_under_kw, depth_in1, depth_deeper, depth_Ar]); omega)); (case k4 => ((try simp only [units_Ar, units_in1, units_deeper]); omega)); (case k5 => k_asm); (case k6 => k_asm); (case k7 => k_asm); (case k8 => k_asm); (case k9 => k_asm)); k_whole; intro tp' a' dx' t1' t2' vv' vt' h' tk' F' N' hv' hvt' l1 l2 l3; (try k_lt l1); (try k_lt2 l2); (try k_lt2 l3); (try k_sweep)))
local macro_rules | `(tactic| walk_at "getAttr ref") => `(tactic| (k_here; (with_reducible show wpAny _ _ (getAttr (Value.ref _) (PySem.Str.ofString "height") _) _ _ _); k_dflt (refine' height_c ?z ?a ?b ?c ?k3 ?k4 ?k5 ?k6 ?k7 ?k8 ?k9 ?_; (case k6 => k_asm); (case k7 => k_asm); (case z => omega); (case a => k_mem); (case b => k_mem); (case c => k_mem); (case k3 => ((try simp only [depth_mark, depth_under_make, depth_under_kw, depth_in1, depth_deeper, depth_Ar]); omega)); (case k4 => ((try simp only [units_Ar, units_in1, units_deeper]); omega)); (case k5 => k_asm); (case k8 => k_asm); (case k9 => k_asm)); k_whole; intro t' h' tk' F' N'; (try k_sweep)))
local macro_rules | `(tactic| k_all) => `(tactic| exact allLt_ne (allLt_trans (by assumption) (by omega)))
local macro_rules | `(tactic| k_all) => `(tactic| exact allNe_to (by assumption))
local macro_rules | `(tactic| walk_at "call ref") => `(tactic| (k_here; (with_reducible show wpAny _ _ (call (Value.ref 180) [Value.ref _, Value.ref _]) _ _ _); k_dflt (refine' getDepth_c ?c8 ?ops ?z ?a ?b ?c ?e ?f ?g ?k3 ?k4 ?k5 ?k6 ?k7 ?k8 ?k9 ?_; (case k6 => k_asm); (case k7 => k_asm); (case a => k_mem); (case b => k_mem); (case c => k_mem); (case e => k_mem); (case f => k_mem); (case g => assumption); (case ops => exact Ops.mono (by assumption) (by intro p hp; repeat (first | assumption | apply List.Mem.tail))); (case c8 => omega); (case z => omega); (case k3 => ((try simp only [depth_mark, depth_under_make, depth_under_kw, depth_in1, depth_deeper, depth_Ar]); omega)); (case k4 => ((try simp only [units_Ar, units_in1, units_deeper]); omega)); (case k5 => k_asm); (case k8 => k_asm); (case k9 => k_asm)); k_whole; intro r' h' tk' hr' F' N'; (try k_sweep)))
local macro_rules | `(tactic| walk_at "compareOp In") => `(tactic| (k_here; (with_reducible show wpAny _ _ (compareOp CmpOp.In (Value.ref _) (Value.ref _)) _ _ _); k_dflt (refine' inOps_c ?o ?ps ?m ?k3 ?k4 ?k5 ?k6 ?k7 ?k8 ?k9 ?_; (case k6 => k_asm); (case k7 => k_asm); (case m => k_mem); (case o => assumption); (case ps => assumption); (case k3 => ((try simp only [depth_mark, depth_under_make, depth_under_kw, depth_in1, depth_deeper, depth_Ar]); omega)); (case k4 => ((try simp only [units_Ar, units_in1, units_deeper]); omega)); (case k5 => k_asm); (case k8 => k_asm); (case k9 => k_asm)); k_whole; intro h' tk' F' N'; (try k_sweep)))
local macro_rules | `(tactic| walk_at "compareOp Is int ref") => `(tactic| refine wpAny_is_other (by rfl) (by intro x; cases x) ?_)
local macro_rules | `(tactic| walk_at "formatField ref") => `(tactic| (k_here; (with_reducible show wpAny _ _ (formatField (Value.ref _) _) _ _ _); k_dflt (refine' fmtOps_c ?ps ?l ?m ?k3 ?k4 ?k5 ?k6 ?k7 ?k8 ?k9 ?_; (case k6 => k_asm); (case k7 => k_asm); (case m => k_mem); (case ps => assumption); (case l => first | assumption | omega); (case k3 => ((try simp only [depth_mark, depth_under_make, depth_under_kw, depth_in1, depth_deeper, depth_Ar]); omega)); (case k4 => ((try simp only [units_Ar, units_in1, units_deeper]); omega)); (case k5 => k_asm); (case k8 => k_asm); (case k9 => k_asm)); k_whole; intro y' h' tk' t' hy' F' N'; (try k_sweep)))
local macro_rules | `(tactic| k_ne) => `(tactic| (refine neN ?_; (try dsimp only); first | exact Nq.out (by assumption) | exact Nq.out' (by assumption) | omega))
local macro_rules | `(tactic| walk_at "call ref") => `(tactic| (k_here; (with_reducible show wpAny _ _ (call (Value.ref 165) [Value.ref _, Value.ref _]) _ _ _); k_dflt (refine' pushF_c ?c8 ?z ?U ?a ?b ?c ?e ?k3 ?k4 ?k5 ?k6 ?k7 ?k8 ?k9 ?_; (case k6 => k_asm); (case k7 => k_asm); (case a => k_mem); (case b => k_mem); (case U => k_updF); (case c => k_mem); (case e => k_mem); (case c8 => omega); (case z => omega); (case k3 => ((try simp only [depth_mark, depth_under_make, depth_under_kw, depth_in1, depth_deeper, depth_Ar]); omega)); (case k4 => ((try simp only [units_Ar, units_in1, units_deeper]); omega)); (case k5 => k_asm); (case k8 => k_asm); (case k9 => k_asm)); k_whole; intro n' h' tk' F' N'; (try dsimp only at N'); (try k_sweep)))
local macro_rules | `(tactic| walk_at "call ref") => `(tactic| (k_here; (with_reducible show wpAny _ _ (call (Value.ref 208) [Value.ref _, Value.int _ _]) _ _ _); k_dflt (refine' dupG_c ?q1 ?q2 ?z ?U ?a ?b ?k3 ?k4 ?k5 ?k6 ?k7 ?k8 ?k9 ?_; (case k6 => k_asm); (case k7 => k_asm); (case a => k_mem); (case b => k_mem); (case U => k_updF); (case z => omega); (case q1 => first | omega | (rename Hid (0 < _ → _) => hz; have hz2 := Hid.out hz (by omega); clear hz; omega) | (rename Hid (1 < _ → _) => hz; have hz2 := Hid.out hz (by omega); clear hz; omega)); (case q2 => first | omega | (rename Hid (0 < _ → _) => hz; have hz2 := Hid.out hz (by omega); clear hz; omega) | (rename Hid (1 < _ → _) => hz; have hz2 := Hid.out hz (by omega); clear hz; omega)); (case k3 => ((try simp only [depth_mark, depth_under_make, depth_under_kw, depth_in1, depth_deeper, depth_Ar]); omega)); (case k4 => ((try simp only [units_Ar, units_in1, units_deeper]); omega)); (case k5 => k_asm); (case k8 => k_asm); (case k9 => k_asm)); k_whole; intro v' n' h' tk' hv' F' N'; (try dsimp only at N'); (try k_sweep)))
local macro_rules | `(tactic| walk_at "call ref") => `(tactic| (k_here; (with_reducible show wpAny _ _ (call (Value.ref 215) [Value.ref _, Value.int _ _]) _ _ _); k_dflt (refine' swapG_c ?q1 ?q2 ?z ?U ?a ?b ?k3 ?k4 ?k5 ?k6 ?k7 ?k8 ?k9 ?_; (case k6 => k_asm); (case k7 => k_asm); (case a => k_mem); (case b => k_mem); (case U => k_updF); (case z => omega); (case q1 => first | omega | (rename Hid (0 < _ → _) => hz; have hz2 := Hid.out hz (by omega); clear hz; omega) | (rename Hid (1 < _ → _) => hz; have hz2 := Hid.out hz (by omega); clear hz; omega)); (case q2 => first | omega | (rename Hid (0 < _ → _) => hz; have hz2 := Hid.out hz (by omega); clear hz; omega) | (rename Hid (1 < _ → _) => hz; have hz2 := Hid.out hz (by omega); clear hz; omega)); (case k3 => ((try simp only [depth_mark, depth_under_make, depth_under_kw, depth_in1, depth_deeper, depth_Ar]); omega)); (case k4 => ((try simp only [units_Ar, units_in1, units_deeper]); omega)); (case k5 => k_asm); (case k8 => k_asm); (case k9 => k_asm)); k_whole; intro v' v'' h' tk' hv' hw' F' N'; (try dsimp only at N'); (try k_sweep)))
local macro_rules | `(tactic| walk_at "call ref") => `(tactic| (k_here; (with_reducible show wpAny _ _ (call (Value.ref 201) [Value.ref _, Value.int _ _, Value.ref _]) _ _ _); k_dflt (refine' pokeG_c ?q1 ?q2 ?z ?U ?a ?b ?c ?e ?k3 ?k4 ?k5 ?k6 ?k7 ?k8 ?k9 ?_; (case k6 => k_asm); (case k7 => k_asm); (case a => k_mem); (case b => k_mem); (case U => k_updF); (case c => k_mem); (case e => k_mem); (case z => omega); (case q1 => first | omega | (rename Hid (0 < _ → _) => hz; have hz2 := Hid.out hz (by omega); clear hz; omega) | (rename Hid (1 < _ → _) => hz; have hz2 := Hid.out hz (by omega); clear hz; omega)); (case q2 => first | omega | (rename Hid (0 < _ → _) => hz; have hz2 := Hid.out hz (by omega); clear hz; omega) | (rename Hid (1 < _ → _) => hz; have hz2 := Hid.out hz (by omega); clear hz; omega)); (case k3 => ((try simp only [depth_mark, depth_under_make, depth_under_kw, depth_in1, depth_deeper, depth_Ar]); omega)); (case k4 => ((try simp only [units_Ar, units_in1, units_deeper]); omega)); (case k5 => k_asm); (case k8 => k_asm); (case k9 => k_asm)); k_whole; intro h' tk' F' N'; (try dsimp only at N'); (try k_sweep)))
local macro_rules | `(tactic| walk_at "call ref") => `(tactic| (k_here; (with_reducible show wpAny _ _ (call (Value.ref 173) [Value.ref _, Value.int _ _]) _ _ _); k_dflt (refine' popF_c ?q1 ?q2 ?z ?U ?a ?b ?k3 ?k4 ?k5 ?k6 ?k7 ?k8 ?k9 ?_; (case k6 => k_asm); (case k7 => k_asm); (case a => k_mem); (case b => k_mem); (case U => k_updF); (case z => omega); (case q1 => first | omega | (rename Hid (0 < _ → _) => hz; have hz2 := Hid.out hz (by omega); clear hz; omega) | (rename Hid (1 < _ → _) => hz; have hz2 := Hid.out hz (by omega); clear hz; omega)); (case q2 => first | omega | (rename Hid (0 < _ → _) => hz; have hz2 := Hid.out hz (by omega); clear hz; omega) | (rename Hid (1 < _ → _) => hz; have hz2 := Hid.out hz (by omega); clear hz; omega)); (case k3 => ((try simp only [depth_mark, depth_under_make, depth_under_kw, depth_in1, depth_deeper, depth_Ar]); omega)); (case k4 => ((try simp only [units_Ar, units_in1, units_deeper]); omega)); (case k5 => k_asm); (case k8 => k_asm); (case k9 => k_asm)); k_whole; intro n' h' tk' F' N'; (try dsimp only at N'); (try k_sweep)))
local macro_rules | `(tactic| walk_at "call ref") => `(tactic| (k_here; (with_reducible show wpAny _ _ (call (Value.ref 173) [Value.ref _]) _ _ _); k_dflt (refine' pop1F_c ?q2 ?z ?U ?a ?b ?k3 ?k4 ?k5 ?k6 ?k7 ?k8 ?k9 ?_; (case k6 => k_asm); (case k7 => k_asm); (case a => k_mem); (case b => k_mem); (case U => k_updF); (case z => omega); (case q2 => first | omega | (rename Hid (0 < _ → _) => hz; have hz2 := Hid.out hz (by omega); clear hz; omega) | (rename Hid (1 < _ → _) => hz; have hz2 := Hid.out hz (by omega); clear hz; omega)); (case k3 => ((try simp only [depth_mark, depth_under_make, depth_under_kw, depth_in1, depth_deeper, depth_Ar]); omega)); (case k4 => ((try simp only [units_Ar, units_in1, units_deeper]); omega)); (case k5 => k_asm); (case k8 => k_asm); (case k9 => k_asm)); k_whole; intro n' h' tk' F' N'; (try dsimp only at N'); (try k_sweep)))
local macro_rules | `(tactic| walk_at "call ref") => `(tactic| (k_here; (with_reducible show wpAny _ _ (call (Value.ref 150) [Value.ref _]) _ _ _); k_dflt (refine' copyF_c ?z ?U ?a ?b ?k3 ?k4 ?k5 ?k6 ?k7 ?k8 ?k9 ?_; (case k6 => k_asm); (case k7 => k_asm); (case a => k_mem); (case b => k_mem); (case U => k_updF); (case z => omega); (case k3 => ((try simp only [depth_mark, depth_under_make, depth_under_kw, depth_in1, depth_deeper, depth_Ar]); omega)); (case k4 => ((try simp only [units_Ar, units_in1, units_deeper]); omega)); (case k5 => k_asm); (case k8 => k_asm); (case k9 => k_asm)); k_whole; intro y' dy' l' ty' n' h' tk' F' N' l1 l2 l3; (try k_lt l1); (try k_lt2 l2); (try k_lt2 l3); (try k_sweep)))
local macro_rules | `(tactic| walk_at "call ref") => `(tactic| (k_here; (with_reducible show wpAny _ _ (call (Value.ref 246) [Value.ref _, Value.ref _]) _ _ _); k_dflt (refine' seen_c ?ops ?row ?z ?a ?b ?c ?e ?k3 ?k4 ?k5 ?k6 ?k7 ?k8 ?k9 ?_; (case k6 => k_asm); (case k7 => k_asm); (case a => k_mem); (case b => k_mem); (case c => k_mem); (case e => k_mem); (case ops => exact Ops.mono (by assumption) (by intro q hq; repeat (first | assumption | apply List.Mem.tail))); (case row => assumption); (case z => omega); (case k3 => ((try simp only [depth_mark, depth_under_make, depth_under_kw, depth_in1, depth_deeper, depth_Ar]); omega)); (case k4 => ((try simp only [units_Ar, units_in1, units_deeper]); omega)); (case k5 => k_asm); (case k8 => k_asm); (case k9 => k_asm)); k_whole; intro h' tk' F' N'; (try k_sweep)))
local macro_rules | `(tactic| walk_at "call builtin:list.append") => `(tactic| (k_here; (with_reducible show wpAny _ _ (call (Value.builtin _) [Value.ref _, _]) _ _ _); k_dflt (refine' appendL_c ?k1 ?k2 ?k3 ?z ?_; (case k1 => k_asm); (case k2 => k_asm); (case k3 => k_updF); (case z => omega)); k_whole; intro n' h' F' N'; (try dsimp only at N'); (try k_sweep)))
local macro_rules | `(tactic| walk_at "subscriptTail") => `(tactic| (k_here; (with_reducible show wpAny _ _ (subscriptTail _ _ (Value.ref _) (Value.int _ _)) _ _ _); k_dflt (refine' itemNum_c ?y ?N ?m ?a ?b ?_ ; (case y => assumption); (case N => k_asm); (case m => k_mem); (case a => decide); (case b => decide)); k_whole; intro z' t'))
local macro_rules | `(tactic| walk_at "compareOp IsNot ref ref") => `(tactic| (with_reducible refine wpAny_isNot_ref_self ?_))
local macro_rules | `(tactic| walk_at "call ref") => `(tactic| (k_here; (with_reducible show wpAny _ _ (call (Value.ref 215) [Value.ref _, Value.int _ _]) _ _ _); (with_reducible rename LateMark => hMk9); k_dflt (refine' swapS_c ?q1 ?q2 ?z ?U ?a ?b ?k3 ?k4 ?k5 ?k6 ?k7 ?k8 ?k9 ?_; (case k6 => k_asm); (case k7 => k_asm); (case a => k_mem); (case b => k_mem); (case U => k_updF); (case z => first | (simp only [sw_len, List.length_append, List.length_cons, List.length_nil] <;> omega) | omega); (case q1 => omega); (case q2 => first | (simp only [sw_len, List.length_append, List.length_cons, List.length_nil] <;> omega) | omega); (case k3 => ((try simp only [depth_mark, depth_under_make, depth_under_kw, depth_in1, depth_deeper, depth_Ar]); omega)); (case k4 => ((try simp only [units_Ar, units_in1, units_deeper]); omega)); (case k5 => k_asm); (case k8 => k_asm); (case k9 => k_asm)); k_whole; intro h' tk' F' N'; (try dsimp only at N'); (try k_sweep)))
local macro_rules | `(tactic| walk_at "call ref") => `(tactic| (k_here; (with_reducible show wpAny _ _ (call (Value.ref 173) [Value.ref _]) _ _ _); k_dflt (refine' pop1F_c ?q2 ?z ?U ?a ?b ?k3 ?k4 ?k5 ?k6 ?k7 ?k8 ?k9 ?_; (case k6 => k_asm); (case k7 => k_asm); (case a => k_mem); (case b => k_mem); (case U => k_updF); (case z => first | (simp only [sw_len, List.length_append, List.length_cons, List.length_nil] <;> omega) | omega); (case q2 => first | (simp only [sw_len, List.length_append, List.length_cons, List.length_nil] <;> omega) | omega); (case k3 => ((try simp only [depth_mark, depth_under_make, depth_under_kw, depth_in1, depth_deeper, depth_Ar]); omega)); (case k4 => ((try simp only [units_Ar, units_in1, units_deeper]); omega)); (case k5 => k_asm); (case k8 => k_asm); (case k9 => k_asm)); k_whole; intro n' h' tk' F' N'; (try dsimp only at N'); (try k_sweep)))
variable {w : World} {s : Shared} {base : Heap} {outer : List Env} {p : Program} {loose : List Str} {mean : ExcName → Option Value} {mg mb : Str → Option Value}
variable {h₀ : Heap} {m : Str → Option Value} {news : List (Addr × Obj)} {Q : Value → Shared → Prop} {E : Value → Shared → Prop} {A₀ : Around}
variable {cn : Str} {nms : List (Str × NameKind)} {b1 b2 : Bool} {more : List (Str × Const)} {L fa : Addr} {cd : Value} {cl : List (Str × Addr)} {d u : Nat}
variable {v : Value} {t1 t2 : Tok}
variable {x dx lst a da : Addr} {ts : Tok} {vs : List Value} {n : Nat} {j : Int} {t : Tok} {k c : Nat} {rest : List (Addr × Obj)}
theorem top : PySem.Challenge.rw_fs0002_01.Holds := Mine.hd (by
  k_go0
  all_goals try k_fold
  simp only [caller_Ar]
  repeat' ((fail_if_success (first | (with_reducible show wpAny _ _ (exec (PySem.Stmt.For _ _ _ _ _) _) _ _ _))); (first | (k_unfold; (try dsimp only)) | (k_end; wrow_close) | walk1 | (dsimp only; walk1) | (leave1; walk_say "STEP leave1"; try dsimp only) | fail "no step"))
  refine wpAny_For ?_ (by intro _; rfl)
  k_steps
  refine' lawLoop_c ?zh ?zE ?z1 ?z2 ?z3 ?zF ?zN ?zc ?zc2 ?zI ?zm1 ?zm2 ?zm3 ?zm4 ?zn1 ?zn2 ?zn3 ?zn4 ?zn5 ?zn6 ?zs ?zd
  case zh => rfl
  case zE => passes_own
  case z1 => rfl
  case z2 => rfl
  case z3 => rfl
  case zF => assumption
  case zN => assumption
  case zc => assumption
  case zc2 => assumption
  case zI => assumption
  case zm1 => rfl
  case zm2 => rfl
  case zm3 => rfl
  case zm4 => rfl
  case zn1 => k_ne
  case zn2 => k_ne
  case zn3 => k_ne
  case zn4 => k_ne
  case zn5 => k_ne
  case zn6 => k_ne
  case zs =>
    repeat (rename (_ : Nat) < _ ∧ _ => hk; clear hk)
    repeat (rename _ ≠ _ ∧ _ => hk; clear hk)
    rename IntsAre _ (List.take _ _) => hIw
    have hw16 := Nat.le_trans (Nat.le_of_eq (ints_len hIw)) (take_len16 (by rw [List.length_map]; rfl))
    repeat (rename List.length _ ≤ List.length _ => hk; clear hk)
    repeat (rename List.length (List.take _ _) = _ => hk; clear hk)
    repeat (rename List.length _ = List.length (List.map _ _) => hk; clear hk)
    clear hIw
    rename IntsAre _ (List.map _ _) => hIy
    have hnum : NumsOk _ := ⟨by rw [ints_len hIy, List.length_map]; decide, _, hIy⟩
    clear hIy
    repeat (rename (_ : Nat) < _ => hk; clear hk)
    intro i z t t0 h₂ tk₂ vs n rowa rv nr cs oc vk vo pool e oe it oi mm hi hei foe foi N₂ hoc ⟨a1, a2, a3, a4, a5, a6, a7, a8, a9⟩ b1 b2 b3 b4 b5 c1 c2 c3 c4 c5 d1 d2 hops hrow hlen hkept F₂
    have hL1 := hops.1
    have hL2 := hrow.1
    have hi16 : i < 16 := by omega
    have r1 : 0 < rv.length → 0 ≤ (z.fdiv 6).fmod (rv.length : Int) ∧ (z.fdiv 6).fmod (rv.length : Int) < rv.length := fun q => fm_rng (by omega)
    have r2 : 1 < rv.length → 0 ≤ (z.fdiv 6).fmod ((rv.length : Int) - 1) ∧ (z.fdiv 6).fmod ((rv.length : Int) - 1) < (rv.length : Int) - 1 := fun q => fm_rng (by omega)
    have r3 : 0 ≤ (z.fdiv 6).fmod 2 ∧ (z.fdiv 6).fmod 2 < 2 := fm_rng (by decide)
    have r4 : 0 ≤ ((z.fdiv 6).fmod 8) ∧ (z.fdiv 6).fmod 8 < 8 := fm_rng (by decide)
    have r5 : 0 ≤ (((z.fdiv 6).fdiv 4).fmod 8) ∧ ((z.fdiv 6).fdiv 4).fmod 8 < 8 := fm_rng (by decide)
    replace a1 : Nq _ _ := a1
    replace a2 : Nq _ _ := a2
    replace a3 : Nq _ _ := a3
    replace a4 : Nq _ _ := a4
    replace a5 : Nq _ _ := a5
    replace a6 : Nq _ _ := a6
    replace a7 : Nq _ _ := a7
    replace a8 : Nq _ _ := a8
    replace a9 : Nq _ _ := a9
    replace d1 : Nq _ _ := d1
    replace d2 : Nq _ _ := d2
    replace hei : Nq _ _ := hei
    replace r1 : Hid _ := r1
    replace r2 : Hid _ := r2
    repeat' ((fail_if_success (first | (with_reducible show wpAny _ _ (exec (PySem.Stmt.If _ _ _ _) _) _ _ _))); (first | (k_unfold; (try dsimp only)) | (k_end; wrow_close) | walk1 | (dsimp only; walk1) | (leave1; walk_say "STEP leave1"; try dsimp only) | fail "no step"))
    refine cut_mid i (fun m => (∃ t1, m "kind" = some (.int (z.fmod 6) t1)) ∧ (∃ t1, m "n" = some (.int (z.fdiv 6) t1))) c1 c2 c3 c4 c5 b1 b3 ⟨_, by assumption⟩ foe foi b4 b5 (by assumption) ?zc1 ?zk1
    case zc1 =>
      repeat' ((fail_if_success (first | (with_reducible show And (_ = _) _))); (first | (k_unfold; (try dsimp only)) | (k_end; wrow_close) | walk1 | (dsimp only; walk1) | (leave1; walk_say "STEP leave1"; try dsimp only) | fail "no step"))
      · refine ⟨rfl, _, _, _, _, rfl, by assumption, by assumption, by k_mem, by k_mem, ?_, ⟨_, rfl⟩, ⟨_, rfl⟩⟩
        refine' mkJ ?j0xC ?j0xoc ?j0xr ?j0xl ?j0xx ?j0xdx ?j0xcn ?j0xnu ?j0xsl ?j0xn1 ?j0xn2 ?j0xn3 ?j0xops ?j0xrow ?j0xlen ?j0xm3 ?j0xm4 ?j0xk ?j0xm1 ?j0xm2; (case j0xC => k_mem); (case j0xoc => assumption); (case j0xr => k_mem); (case j0xl => k_mem); (case j0xx => k_mem); (case j0xdx => k_mem); (case j0xcn => k_mem); (case j0xnu => k_mem); (case j0xsl => k_mem); (case j0xn1 => k_ne); (case j0xn2 => first | k_ne | exact fun z => allLt_ne (by assumption) _ c4 z.symm); (case j0xn3 => first | k_ne | exact fun z => allLt_ne (by assumption) _ c5 z.symm); (case j0xm3 => rfl); (case j0xm4 => rfl); (case j0xm1 => rfl); (case j0xm2 => rfl)
        case j0xops => exact hops.mono (by intro q hq; repeat (first | assumption | apply List.Mem.tail))
        case j0xrow => exact hrow
        case j0xlen => exact hlen
        case j0xk => 
          refine .inr ⟨_, _, _, _, _, _, _, _, _, _, rfl, rfl, by k_mem, by k_mem, by k_mem, by k_mem, hops.mono (by intro q hq; repeat (first | assumption | apply List.Mem.tail)), hrow, by omega, ?_, ?_, ?_, ?_⟩
          all_goals k_ne
      · refine ⟨rfl, _, _, _, _, rfl, by assumption, by assumption, by k_mem, by k_mem, ?_, ⟨_, rfl⟩, ⟨_, rfl⟩⟩
        refine' mkJ ?j1xC ?j1xoc ?j1xr ?j1xl ?j1xx ?j1xdx ?j1xcn ?j1xnu ?j1xsl ?j1xn1 ?j1xn2 ?j1xn3 ?j1xops ?j1xrow ?j1xlen ?j1xm3 ?j1xm4 ?j1xk ?j1xm1 ?j1xm2; (case j1xC => k_mem); (case j1xoc => assumption); (case j1xr => k_mem); (case j1xl => k_mem); (case j1xx => k_mem); (case j1xdx => k_mem); (case j1xcn => k_mem); (case j1xnu => k_mem); (case j1xsl => k_mem); (case j1xn1 => k_ne); (case j1xn2 => first | k_ne | exact fun z => allLt_ne (by assumption) _ c4 z.symm); (case j1xn3 => first | k_ne | exact fun z => allLt_ne (by assumption) _ c5 z.symm); (case j1xm3 => rfl); (case j1xm4 => rfl); (case j1xm1 => rfl); (case j1xm2 => rfl)
        case j1xops => exact hops.mono (by intro q hq; repeat (first | assumption | apply List.Mem.tail))
        case j1xrow => exact hrow
        case j1xlen => exact hlen
        case j1xk => exact hkept.keep fun q hq _ => by repeat (first | assumption | apply List.Mem.tail)
    case zk1 =>
      clear hoc a1 a2 a3 a4 a5 a6 a7 a8 a9 b1 b2 b3 b4 b5 c1 c2 c3 c4 c5 d1 d2 hops hrow hlen hkept r1 r2 hL1 hL2
      intro h₃ tk₃ vs n rowa rv nr cs oc vk vo pool mm N₂ hoc ⟨a1, a2, a3, a4, a5, a6, a7, a8, a9⟩ b1 b2 b3 b4 b5 c1 c2 c3 c4 c5 d1 d2 hops hrow hlen hkept ⟨⟨tk1, e1⟩, ⟨tk2, e2⟩⟩ F₂
      rw [map_two e1 e2] at F₂
      have hL1 := hops.1
      have hL2 := hrow.1
      have r1 : 0 < rv.length → 0 ≤ (z.fdiv 6).fmod (rv.length : Int) ∧ (z.fdiv 6).fmod (rv.length : Int) < rv.length := fun q => fm_rng (by omega)
      have r2 : 1 < rv.length → 0 ≤ (z.fdiv 6).fmod ((rv.length : Int) - 1) ∧ (z.fdiv 6).fmod ((rv.length : Int) - 1) < (rv.length : Int) - 1 := fun q => fm_rng (by omega)
      dsimp only
      repeat' ((fail_if_success (first | (with_reducible show wpAny _ _ (exec (PySem.Stmt.If _ _ _ _) _) _ _ _))); (first | (k_unfold; (try dsimp only)) | (k_end; wrow_close) | walk1 | (dsimp only; walk1) | (leave1; walk_say "STEP leave1"; try dsimp only) | fail "no step"))
      refine cut_mid (i + 1) (fun _ => True) c1 c2 c3 c4 c5 b1 b3 ⟨_, by assumption⟩ foe foi b4 b5 (by assumption) ?zc2 ?zk2
      case zc2 =>
        walk1
        repeat' ((fail_if_success (first | (with_reducible show wpAny _ _ (exec (PySem.Stmt.If _ _ _ _) _) _ _ _) | (with_reducible show And (_ = _) _))); (first | (k_unfold; (try dsimp only)) | (k_end; wrow_close) | walk1 | (dsimp only; walk1) | (leave1; walk_say "STEP leave1"; try dsimp only) | fail "no step"))
        · refine ⟨rfl, _, _, _, _, rfl, by assumption, by assumption, by k_mem, by k_mem, ?_, trivial⟩
          refine' mkJ ?j2xC ?j2xoc ?j2xr ?j2xl ?j2xx ?j2xdx ?j2xcn ?j2xnu ?j2xsl ?j2xn1 ?j2xn2 ?j2xn3 ?j2xops ?j2xrow ?j2xlen ?j2xm3 ?j2xm4 ?j2xk ?j2xm1 ?j2xm2; (case j2xC => k_mem); (case j2xoc => assumption); (case j2xr => k_mem); (case j2xl => k_mem); (case j2xx => k_mem); (case j2xdx => k_mem); (case j2xcn => k_mem); (case j2xnu => k_mem); (case j2xsl => k_mem); (case j2xn1 => k_ne); (case j2xn2 => first | k_ne | exact fun z => allLt_ne (by assumption) _ c4 z.symm); (case j2xn3 => first | k_ne | exact fun z => allLt_ne (by assumption) _ c5 z.symm); (case j2xm3 => rfl); (case j2xm4 => rfl); (case j2xm1 => rfl); (case j2xm2 => rfl)
          case j2xops => exact (hops.mono (by intro q hq; repeat (first | assumption | apply List.Mem.tail))).snoc (c := ((z.fdiv 6).fmod 8).toNat) ⟨_, _, _, _, _, rfl, by omega, by k_mem, by k_mem, by assumption⟩
          case j2xrow => exact hrow.snoc (c := ((z.fdiv 6).fmod 8).toNat) ⟨by omega, by assumption⟩
          case j2xlen => rw [List.length_append]; simp only [List.length_cons, List.length_nil]; omega
          case j2xk => exact hkept.keep fun q hq _ => by repeat (first | assumption | apply List.Mem.tail)
        · refine ⟨rfl, _, _, _, _, rfl, by assumption, by assumption, by k_mem, by k_mem, ?_, trivial⟩
          refine' mkJ ?j3xC ?j3xoc ?j3xr ?j3xl ?j3xx ?j3xdx ?j3xcn ?j3xnu ?j3xsl ?j3xn1 ?j3xn2 ?j3xn3 ?j3xops ?j3xrow ?j3xlen ?j3xm3 ?j3xm4 ?j3xk ?j3xm1 ?j3xm2; (case j3xC => k_mem); (case j3xoc => assumption); (case j3xr => k_mem); (case j3xl => k_mem); (case j3xx => k_mem); (case j3xdx => k_mem); (case j3xcn => k_mem); (case j3xnu => k_mem); (case j3xsl => k_mem); (case j3xn1 => k_ne); (case j3xn2 => first | k_ne | exact fun z => allLt_ne (by assumption) _ c4 z.symm); (case j3xn3 => first | k_ne | exact fun z => allLt_ne (by assumption) _ c5 z.symm); (case j3xm3 => rfl); (case j3xm4 => rfl); (case j3xm1 => rfl); (case j3xm2 => rfl)
          case j3xops => exact (hops.mono (by intro q hq; repeat (first | assumption | apply List.Mem.tail))).snoc (c := ((z.fdiv 6).fmod 8).toNat) ⟨_, _, _, _, _, rfl, by omega, by k_mem, by k_mem, by assumption⟩
          case j3xrow => exact hrow.snoc (c := ((z.fdiv 6).fmod 8).toNat) ⟨by omega, by assumption⟩
          case j3xlen => rw [List.length_append]; simp only [List.length_cons, List.length_nil]; omega
          case j3xk => exact hkept.keep fun q hq _ => by repeat (first | assumption | apply List.Mem.tail)
        walk1
        repeat' ((fail_if_success (first | (with_reducible show wpAny _ _ (exec (PySem.Stmt.If _ _ _ _) _) _ _ _) | (with_reducible show And (_ = _) _))); (first | (k_unfold; (try dsimp only)) | (k_end; wrow_close) | walk1 | (dsimp only; walk1) | (leave1; walk_say "STEP leave1"; try dsimp only) | fail "no step"))
        · rename vs[_]? = some _ => hvA
          rename rv[_]? = some _ => hvB
          obtain ⟨cA, hcA, hoA⟩ := hops.at hvA
          have hvi := hrow.at' hvB hcA (by omega)
          refine ⟨rfl, _, _, _, _, rfl, by assumption, by assumption, by k_mem, by k_mem, ?_, trivial⟩
          refine' mkJ ?j4xC ?j4xoc ?j4xr ?j4xl ?j4xx ?j4xdx ?j4xcn ?j4xnu ?j4xsl ?j4xn1 ?j4xn2 ?j4xn3 ?j4xops ?j4xrow ?j4xlen ?j4xm3 ?j4xm4 ?j4xk ?j4xm1 ?j4xm2; (case j4xC => k_mem); (case j4xoc => assumption); (case j4xr => k_mem); (case j4xl => k_mem); (case j4xx => k_mem); (case j4xdx => k_mem); (case j4xcn => k_mem); (case j4xnu => k_mem); (case j4xsl => k_mem); (case j4xn1 => k_ne); (case j4xn2 => first | k_ne | exact fun z => allLt_ne (by assumption) _ c4 z.symm); (case j4xn3 => first | k_ne | exact fun z => allLt_ne (by assumption) _ c5 z.symm); (case j4xm3 => rfl); (case j4xm4 => rfl); (case j4xm1 => rfl); (case j4xm2 => rfl)
          case j4xops => exact (hops.mono (by intro q hq; repeat (first | assumption | apply List.Mem.tail))).snoc (hoA.mono (by intro q hq; repeat (first | assumption | apply List.Mem.tail)))
          case j4xrow => exact hrow.snoc hvi
          case j4xlen => rw [List.length_append]; simp only [List.length_cons, List.length_nil]; omega
          case j4xk => exact hkept.keep fun q hq _ => by repeat (first | assumption | apply List.Mem.tail)
        walk1
        repeat' ((fail_if_success (first | (with_reducible show wpAny _ _ (exec (PySem.Stmt.If _ _ _ _) _) _ _ _) | (with_reducible show And (_ = _) _))); (first | (k_unfold; (try dsimp only)) | (k_end; wrow_close) | walk1 | (dsimp only; walk1) | (leave1; walk_say "STEP leave1"; try dsimp only) | fail "no step"))
        · rename vs[_]? = some _ => hvB
          obtain ⟨cB, hcB, hoB⟩ := hops.at hvB
          clear hvB
          rename vs[_]? = some _ => hvA
          obtain ⟨cA, hcA, hoA⟩ := hops.at hvA
          rename rv[_]? = some _ => hrB
          have hiB := hrow.at' hrB hcB (by omega)
          clear hrB
          rename rv[_]? = some _ => hrA
          have hiA := hrow.at' hrA hcA (by omega)
          refine ⟨rfl, _, _, _, _, rfl, by assumption, by assumption, by k_mem, by k_mem, ?_, trivial⟩
          refine' mkJ ?j5xC ?j5xoc ?j5xr ?j5xl ?j5xx ?j5xdx ?j5xcn ?j5xnu ?j5xsl ?j5xn1 ?j5xn2 ?j5xn3 ?j5xops ?j5xrow ?j5xlen ?j5xm3 ?j5xm4 ?j5xk ?j5xm1 ?j5xm2; (case j5xC => k_mem); (case j5xoc => assumption); (case j5xr => k_mem); (case j5xl => k_mem); (case j5xx => k_mem); (case j5xdx => k_mem); (case j5xcn => k_mem); (case j5xnu => k_mem); (case j5xsl => k_mem); (case j5xn1 => k_ne); (case j5xn2 => first | k_ne | exact fun z => allLt_ne (by assumption) _ c4 z.symm); (case j5xn3 => first | k_ne | exact fun z => allLt_ne (by assumption) _ c5 z.symm); (case j5xm3 => rfl); (case j5xm4 => rfl); (case j5xm1 => rfl); (case j5xm2 => rfl)
          case j5xops => exact ((hops.mono (by intro q hq; repeat (first | assumption | apply List.Mem.tail))).set (hoA.mono (by intro q hq; repeat (first | assumption | apply List.Mem.tail)))).set (hoB.mono (by intro q hq; repeat (first | assumption | apply List.Mem.tail)))
          case j5xrow => exact hrow.swap (by omega) (by simp only [List.length_set]; omega) hiA hiB
          case j5xlen => simp only [List.length_set]; omega
          case j5xk => exact hkept.keep fun q hq _ => by repeat (first | assumption | apply List.Mem.tail)
        walk1
        repeat' ((fail_if_success (first | (with_reducible show And (_ = _) _))); (first | (k_unfold; (try dsimp only)) | (k_end; wrow_close) | walk1 | (dsimp only; walk1) | (leave1; walk_say "STEP leave1"; try dsimp only) | fail "no step"))
        · refine ⟨rfl, _, _, _, _, rfl, by assumption, by assumption, by k_mem, by k_mem, ?_, trivial⟩
          refine' mkJ ?j6xC ?j6xoc ?j6xr ?j6xl ?j6xx ?j6xdx ?j6xcn ?j6xnu ?j6xsl ?j6xn1 ?j6xn2 ?j6xn3 ?j6xops ?j6xrow ?j6xlen ?j6xm3 ?j6xm4 ?j6xk ?j6xm1 ?j6xm2; (case j6xC => k_mem); (case j6xoc => assumption); (case j6xr => k_mem); (case j6xl => k_mem); (case j6xx => k_mem); (case j6xdx => k_mem); (case j6xcn => k_mem); (case j6xnu => k_mem); (case j6xsl => k_mem); (case j6xn1 => k_ne); (case j6xn2 => first | k_ne | exact fun z => allLt_ne (by assumption) _ c4 z.symm); (case j6xn3 => first | k_ne | exact fun z => allLt_ne (by assumption) _ c5 z.symm); (case j6xm3 => rfl); (case j6xm4 => rfl); (case j6xm1 => rfl); (case j6xm2 => rfl)
          case j6xops => exact (hops.mono (by intro q hq; repeat (first | assumption | apply List.Mem.tail))).take
          case j6xrow => exact hrow.take' (by omega)
          case j6xlen => rw [List.length_take]; omega
          case j6xk => exact (hkept.newrow (by first | assumption | exact allLt_ne (by assumption))).keep fun q hq _ => by repeat (first | assumption | apply List.Mem.tail)
        · refine ⟨rfl, _, _, _, _, rfl, by assumption, by assumption, by k_mem, by k_mem, ?_, trivial⟩
          refine' mkJ ?j7xC ?j7xoc ?j7xr ?j7xl ?j7xx ?j7xdx ?j7xcn ?j7xnu ?j7xsl ?j7xn1 ?j7xn2 ?j7xn3 ?j7xops ?j7xrow ?j7xlen ?j7xm3 ?j7xm4 ?j7xk ?j7xm1 ?j7xm2; (case j7xC => k_mem); (case j7xoc => assumption); (case j7xr => k_mem); (case j7xl => k_mem); (case j7xx => k_mem); (case j7xdx => k_mem); (case j7xcn => k_mem); (case j7xnu => k_mem); (case j7xsl => k_mem); (case j7xn1 => k_ne); (case j7xn2 => first | k_ne | exact fun z => allLt_ne (by assumption) _ c4 z.symm); (case j7xn3 => first | k_ne | exact fun z => allLt_ne (by assumption) _ c5 z.symm); (case j7xm3 => rfl); (case j7xm4 => rfl); (case j7xm1 => rfl); (case j7xm2 => rfl)
          case j7xops => exact (hops.mono (by intro q hq; repeat (first | assumption | apply List.Mem.tail))).set (c := (((z.fdiv 6).fdiv 4).fmod 8).toNat) ⟨_, _, _, _, _, rfl, by omega, by k_mem, by k_mem, by assumption⟩
          case j7xrow => exact hrow.set' (c1 := (((z.fdiv 6).fdiv 4).fmod 8).toNat) (by omega) ⟨by omega, by assumption⟩
          case j7xlen => simp only [List.length_set]; omega
          case j7xk => exact hkept.keep fun q hq _ => by repeat (first | assumption | apply List.Mem.tail)
      case zk2 =>
        clear hoc a1 a2 a3 a4 a5 a6 a7 a8 a9 b1 b2 b3 b4 b5 c1 c2 c3 c4 c5 d1 d2 hops hrow hlen hkept r1 r2 hL1 hL2
        intro h₄ tk₄ vs n rowa rv nr cs oc vk vo pool mm N₂ hoc ⟨a1, a2, a3, a4, a5, a6, a7, a8, a9⟩ b1 b2 b3 b4 b5 c1 c2 c3 c4 c5 d1 d2 hops hrow hlen hkept _ F₂
        have hL1 := hops.1
        have hL2 := hrow.1
        dsimp only
        k_steps
        refine step_end (nf_cell (by assumption)) nf_list nf_list foe foi (by assumption) (by assumption) (by k_mem) (by k_mem) ?_
        refine' mkJ ?j8xC ?j8xoc ?j8xr ?j8xl ?j8xx ?j8xdx ?j8xcn ?j8xnu ?j8xsl ?j8xn1 ?j8xn2 ?j8xn3 ?j8xops ?j8xrow ?j8xlen ?j8xm3 ?j8xm4 ?j8xk ?j8xm1 ?j8xm2; (case j8xC => k_mem); (case j8xoc => assumption); (case j8xr => k_mem); (case j8xl => k_mem); (case j8xx => k_mem); (case j8xdx => k_mem); (case j8xcn => k_mem); (case j8xnu => k_mem); (case j8xsl => k_mem); (case j8xn1 => k_ne); (case j8xn2 => first | k_ne | exact fun z => allLt_ne (by assumption) _ c4 z.symm); (case j8xn3 => first | k_ne | exact fun z => allLt_ne (by assumption) _ c5 z.symm); (case j8xm3 => rfl); (case j8xm4 => rfl); (case j8xm1 => rfl); (case j8xm2 => rfl)
        case j8xops => exact hops.mono (by intro q hq; repeat (first | assumption | apply List.Mem.tail))
        case j8xrow => exact hrow
        case j8xlen => exact hlen
        case j8xk => exact hkept.keep fun q hq _ => by repeat (first | assumption | apply List.Mem.tail)
  case zd =>
    repeat (rename (_ : Nat) < _ ∧ _ => hk; clear hk)
    repeat (rename _ ≠ _ ∧ _ => hk; clear hk)
    rename IntsAre _ (List.take _ _) => hIw
    have hw16 := Nat.le_trans (Nat.le_of_eq (ints_len hIw)) (take_len16 (by rw [List.length_map]; rfl))
    repeat (rename List.length _ ≤ List.length _ => hk; clear hk)
    repeat (rename List.length (List.take _ _) = _ => hk; clear hk)
    repeat (rename List.length _ = List.length (List.map _ _) => hk; clear hk)
    clear hIw
    rename IntsAre _ (List.map _ _) => hIy
    have hnum : NumsOk _ := ⟨by rw [ints_len hIy, List.length_map]; decide, _, hIy⟩
    clear hIy
    repeat (rename (_ : Nat) < _ => hk; clear hk)
    intro h₂ tk₂ vs n rowa rv nr cs oc vk vo pool mm N₂ hoc ⟨a1, a2, a3⟩ b1 b2 b3 c1 c2 c3 c4 c5 d1 d2 hops hrow hlen hkept F₂
    have hL1 := hops.1
    have hL2 := hrow.1
    have hlen16 := Nat.le_trans hlen hw16
    clear hlen hw16
    replace a1 : Nq _ _ := a1
    replace a2 : Nq _ _ := a2
    replace a3 : Nq _ _ := a3
    replace d1 : Nq _ _ := d1
    replace d2 : Nq _ _ := d2
    repeat' ((fail_if_success (first | (with_reducible show wpAny _ _ (exec (PySem.Stmt.If _ _ _ _) _) _ _ _))); (first | (k_unfold; (try dsimp only)) | (k_end; wrow_close) | walk1 | (dsimp only; walk1) | (leave1; walk_say "STEP leave1"; try dsimp only) | fail "no step"))
    refine cut_same (by assumption) (by assumption) ?ze1 ?ze2
    case ze1 =>
      rcases hkept with rfl | ⟨y, dy, l', ty, vs', n', cs', rv', nr', o, rfl, rfl, k3, k4, k5, k6, k7, k8, k9, k10, k11, k12, k13⟩
      · repeat' ((fail_if_success (first | (with_reducible show And (_ = _) _))); (first | (k_unfold; (try dsimp only)) | (k_end; wrow_close) | walk1 | (dsimp only; walk1) | (leave1; walk_say "STEP leave1"; try dsimp only) | fail "no step"))
        refine ⟨rfl, _, _, rfl, ?_, ?_⟩ <;> assumption
      · clear hops hrow
        repeat' ((fail_if_success (first | (with_reducible show And (_ = _) _))); (first | (k_unfold; (try dsimp only)) | (k_end; wrow_close) | walk1 | (dsimp only; walk1) | (leave1; walk_say "STEP leave1"; try dsimp only) | fail "no step"))
        refine ⟨rfl, _, _, rfl, ?_, ?_⟩ <;> assumption
    case ze2 =>
      clear hkept
      intro h₃ tk₃ F₃ N₃
      have e1 : Nq _ _ := b1 _ c3
      have e2 : Nq _ _ := b2 _ c3
      have e3 : Nq _ _ := b3 _ c3
      obtain ⟨pool', p1, p2, c1', c2', c4', c5', hops'⟩ := split_cell N₃ (fun q hq => .tail _ (.tail _ (.tail _ hq))) c3 (by assumption) c1 c2 c4 c5 hops
      replace N₃ := news_split N₃ c3 p1
      replace b1 := fun p hp => b1 p (p1 p hp)
      replace b2 := fun p hp => b2 p (p1 p hp)
      replace b3 := fun p hp => b3 p (p1 p hp)
      clear c1 c2 c3 c4 c5 hops
      clear p1
      repeat' ((fail_if_success (first | (with_reducible show wpAny _ _ (pyIter (Value.ref _)) _ _ _))); (first | (k_unfold; (try dsimp only)) | (k_end; wrow_close) | walk1 | (dsimp only; walk1) | (leave1; walk_say "STEP leave1"; try dsimp only) | fail "no step"))
      rename News _ _ _ (_ :: _ :: _ :: _ :: _ :: _) => N₄
      refine iter_tupTurns (vs := [_, _, _]) (by rfl) (by assumption) (news_sort N₄) (.tail _ (.head _)) rfl rfl ?_
      intro I hI
      refine' names_loop ?zi4 ?zi5 ?zi6 ?zi3 ?zi1 ?zi2
      case zi4 => assumption
      case zi5 => rfl
      case zi6 => rfl
      case zi3 =>
        refine List.forall_mem_cons.mpr ⟨?_, List.forall_mem_cons.mpr ⟨?_, List.forall_mem_cons.mpr ⟨?_, fun _ h => nomatch h⟩⟩⟩
        · refine ⟨_, [_, _], _, [0, 2], rfl, by k_mem, .cons ?_ (.cons ?_ .nil), Nat.le_of_ble_eq_true rfl, by decide⟩ <;> exact ⟨by decide, by decide, _, rfl⟩
        · refine ⟨_, [_], _, [4], rfl, by k_mem, .cons ?_ .nil, Nat.le_of_ble_eq_true rfl, by decide⟩ <;> exact ⟨by decide, by decide, _, rfl⟩
        · refine ⟨_, [_, _, _], _, [2, 4, 6], rfl, by k_mem, .cons ?_ (.cons ?_ (.cons ?_ .nil)), Nat.le_of_ble_eq_true rfl, by decide⟩ <;> exact ⟨by decide, by decide, _, rfl⟩
      case zi1 =>
        rintro v m₁ nw h₅ tk₅ o ⟨l, ns, nn, pcs, rfl, hl, hnm, hns, hp8⟩ ⟨o2, v2, rfl, ho2, m1, m2⟩ hoI F₅ N₅
        rw [map_two m1 m2] at F₅
        clear m1 m2
        have hIb := fun p hp => Nat.ne_of_lt (hI p (List.Mem.tail _ hp))
        k_lt hI
        have hcI : Nq _ _ := Nat.ne_of_lt hI.1
        repeat' ((fail_if_success (first | (with_reducible show wpAny _ _ (exec (PySem.Stmt.Assign _ (PySem.Expr.ListComp _ _ _ _) _) _) _ _ _))); (first | (k_unfold; (try dsimp only)) | (k_end; wrow_close) | walk1 | (dsimp only; walk1) | (leave1; walk_say "STEP leave1"; try dsimp only) | fail "no step"))
        k_dflt (refine' assignCompRange_c rv.length (hit cs pcs) (fun (k : Nat) y => ∃ t, y = .int (k : Int) t) ?F ?hsw ?hh ?hclos ?hcell ?hkind ?hnames ?hx ?hy ?hp ?hs ?hn ?h)
        case F => k_asm
        case hsw => with_unfolding_all rfl
        case hh => rfl
        case hclos => with_unfolding_all rfl
        case hcell => decide
        case hkind => with_unfolding_all rfl
        case hnames => decide
        case hx => with_unfolding_all rfl
        case hy => with_unfolding_all rfl
        case hp => with_unfolding_all rfl
        case hs => intro _; with_unfolding_all rfl
        case hn => omega
        case h =>
          repeat' ((fail_if_success (first | (with_reducible show Exists _))); (first | (k_unfold; (try dsimp only)) | (k_end; wrow_close) | walk1 | (dsimp only; walk1) | (leave1; walk_say "STEP leave1"; try dsimp only) | fail "no step"))
          refine ⟨_, _, _, _, _, rfl, by assumption, by assumption, by assumption, ?_, ?_, ?_⟩
          · intro k t C s₂ m₂ E' hk F₂ N₂ cE' hns hm
            have hvk : rv[rv.length - 1 - k]? = some (rv[rv.length - 1 - k]'(by omega)) := List.getElem?_eq_getElem _
            have hck : cs[cs.length - 1 - k]? = some (cs[cs.length - 1 - k]'(by omega)) := List.getElem?_eq_getElem _
            obtain ⟨hc8i, hvi⟩ := hrow.2 (rv.length - 1 - k) _ _ hvk (by rw [hL2]; exact hck)
            refine wpAny_tests_one ?_
            repeat' ((fail_if_success (first | (with_reducible show wpAny _ _ (eval (PySem.Expr.ListComp _ _ _ _) _) _ _ _))); (first | (k_unfold; (try dsimp only)) | (k_end; wrow_close) | walk1 | (dsimp only; walk1) | (leave1; walk_say "STEP leave1"; try dsimp only) | fail "no step"))
            refine' compStrs_c hnm ?hsz ?hh ?hclos ?hcell ?hkind ?hnames ?hx ?hs ?hit ?helt ?hQ
            case hsz => omega
            case hh => rfl
            case hclos => with_unfolding_all rfl
            case hcell => decide
            case hkind => with_unfolding_all rfl
            case hnames => decide
            case hx => with_unfolding_all rfl
            case hs => intro _; with_unfolding_all rfl
            case hit =>
              repeat' ((fail_if_success (first | (with_reducible show And (_ = _) _))); (first | (k_unfold; (try dsimp only)) | (k_end; wrow_close) | walk1 | (dsimp only; walk1) | (leave1; walk_say "STEP leave1"; try dsimp only) | fail "no step"))
              exact ⟨rfl, ⟨W.listOf ns.toArray nn, (N₂ (l, W.listOf ns.toArray nn) (by k_mem)).1, rfl, nn, rfl⟩, _, _, rfl, fun _ _ e => e⟩
            case helt =>
              intro C' k' t' m₃ s₃ E'' hk' hns' hm'
              repeat' ((fail_if_success (first | (with_reducible show wpAny _ _ (binaryOp Operator.Add _ _) _ _ _))); (first | (k_unfold; (try dsimp only)) | (k_end; wrow_close) | walk1 | (dsimp only; walk1) | (leave1; walk_say "STEP leave1"; try dsimp only) | fail "no step"))
              refine KOpn.add (Nat.le_trans (Nat.le_of_eq (congrArg (_ + ·) (nm_ok hk').1)) (by decide +kernel)) fun t'' k'' _ => ?_
              exact ⟨⟨_, by rw [nm_name hk']⟩, _, _, rfl, fun _ _ e => e⟩
            case hQ =>
              intro D zs h₆ tk₆ hlz hzc hkz
              repeat' ((fail_if_success (first | (with_reducible show wpAny _ _ (compareOp CmpOp.In _ _) _ _ _))); (first | (k_unfold; (try dsimp only)) | (k_end; wrow_close) | walk1 | (dsimp only; walk1) | (leave1; walk_say "STEP leave1"; try dsimp only) | fail "no step"))
              refine inCodes_c hlz hzc hvi hc8i hp8 (by k_units) ?_
              repeat' ((fail_if_success (first | (with_reducible show And (_ = _) _))); (first | (k_unfold; (try dsimp only)) | (k_end; wrow_close) | walk1 | (dsimp only; walk1) | (leave1; walk_say "STEP leave1"; try dsimp only) | fail "no step"))
              exact ⟨(hit_eq hck).symm, _, _, rfl, hkz⟩
          · intro k t C s₂ m₂ E' hk _ F₂ N₂ cE' hns hm
            repeat' ((fail_if_success (first | (with_reducible show And (Exists _) _))); (first | (k_unfold; (try dsimp only)) | (k_end; wrow_close) | walk1 | (dsimp only; walk1) | (leave1; walk_say "STEP leave1"; try dsimp only) | fail "no step"))
            exact ⟨⟨_, rfl⟩, _, _, rfl, fun _ _ e => e⟩
          intro D ys' ep h6 tk6 F6 N6 ne6 P6
          clear ne6
          have hI6 := intsAre_of P6
          repeat' ((fail_if_success (with_reducible show wpAny _ _ (call (Value.ref 251) _ _) _ _ _)); (first | (k_unfold; (try dsimp only)) | (k_end; wrow_close) | walk1 | (dsimp only; walk1) | (leave1; walk_say "STEP leave1"; try dsimp only) | fail "no step"))
          k_dflt (refine' lawOne_c hnm ?k0 ?k1 ?k2 ?ka ?kb ?kc ?ke ?k3 ?k4 ?k5 ?k6 ?k7 ?kxb ?ktb ?k8 ?k9 ?_)
          case k0 => omega
          case k6 => k_asm
          case k7 => k_asm
          case ka => k_mem
          case kb => k_mem
          case kc => k_mem
          case ke => k_mem
          case k1 => exact Ops.mono (by assumption) (by intro q hq; repeat (first | assumption | apply List.Mem.tail))
          case k2 => omega
          case k3 => decide
          case k4 => decide
          case k5 => k_asm
          case kxb => assumption
          case ktb => assumption
          case k8 => assumption
          case k9 => assumption
          intro v h7 tk7 hone F7 N7
          rw [hL2] at hI6
          rcases one_cases hone hI6 with ⟨rfl, rfl⟩ | ⟨j, t1, t2, rfl, rfl⟩ | ⟨ja, jb, t1, t2, t3, ys', zs', rfl, hI7, hys, rfl⟩
          all_goals clear hone hI6
          all_goals clear P6 N6 F6 N₄ N₅ F₅ hnm hl hops' hrow hnum b1 b2 b3 p2 c1' c2' c4' c5' hp8 hns
          all_goals repeat (rename (_ : Nat) < _ ∧ _ => hk; clear hk)
          all_goals repeat (rename AllLt _ _ => hk; clear hk)
          all_goals repeat (rename IsRange _ _ _ _ _ _ _ _ => hk; clear hk)
          · repeat' ((fail_if_success (first | (with_reducible show PySem.W.UnrPostW _ _ _ _ _ _ _ _))); (first | (k_unfold; (try dsimp only)) | (k_end; wrow_close) | walk1 | (dsimp only; walk1) | (leave1; walk_say "STEP leave1"; try dsimp only) | fail "no step"))
            refine turn_done (by assumption) (by assumption) (by k_mem) (by k_mem) (by assumption) (by intro q hq; repeat (first | assumption | apply List.Mem.tail)) hcI hIb (.head _) ?_ ?_ <;> rfl
          · repeat' ((fail_if_success (first | (with_reducible show PySem.W.UnrPostW _ _ _ _ _ _ _ _))); (first | (k_unfold; (try dsimp only)) | (k_end; wrow_close) | walk1 | (dsimp only; walk1) | (leave1; walk_say "STEP leave1"; try dsimp only) | fail "no step"))
            · exfalso; rename decide _ = true => q; simp at q
            · exfalso; rename _ ≠ _ => q; exact q (by simp)
            · refine turn_done (by assumption) (by assumption) (by k_mem) (by k_mem) (by assumption) (by intro q hq; repeat (first | assumption | apply List.Mem.tail)) hcI hIb (.head _) ?_ ?_ <;> rfl
          · repeat' ((fail_if_success (first | (with_reducible show wpAny _ _ (compareOp CmpOp.IsNot _ _) _ _ _) | (with_reducible show wpAny _ _ (call (Value.builtin "len") [Value.ref _]) _ _ _))); (first | (k_unfold; (try dsimp only)) | (k_end; wrow_close) | walk1 | (dsimp only; walk1) | (leave1; walk_say "STEP leave1"; try dsimp only) | fail "no step"))
            · exfalso; rename decide _ = true => q; simp at q
            refine lenZ_c (z := ys'.length + 2) (by k_asm) (by k_mem) rfl (by omega) ?_
            intro t8 tk8
            repeat' ((fail_if_success (first | (with_reducible show wpAny _ _ (compareOp CmpOp.NotEq _ _) _ _ _) | (with_reducible show wpAny _ _ (call (Value.builtin "len") [Value.ref _]) _ _ _))); (first | (k_unfold; (try dsimp only)) | (k_end; wrow_close) | walk1 | (dsimp only; walk1) | (leave1; walk_say "STEP leave1"; try dsimp only) | fail "no step"))
            · exfalso; rename _ = (1 : Int) => q; omega
            refine lenZ_c (z := ys'.length + 2) (by k_asm) (by k_mem) rfl (by omega) ?_
            intro t9 tk9
            repeat' ((fail_if_success (first | (with_reducible show PySem.W.UnrPostW _ _ _ _ _ _ _ _))); (first | (k_unfold; (try dsimp only)) | (k_end; wrow_close) | walk1 | (dsimp only; walk1) | (leave1; walk_say "STEP leave1"; try dsimp only) | fail "no step"))
            refine turn_done (by assumption) (by assumption) (by k_mem) (by k_mem) (by assumption) (by intro q hq; repeat (first | assumption | apply List.Mem.tail)) hcI hIb (.head _) ?_ ?_ <;> rfl
      case zi2 =>
        clear e1 e2 e3 hI p2
        repeat (with_reducible rename (_ : Nat) < _ ∧ _ => hk; clear hk)
        repeat (with_reducible rename AllLt _ _ => hk; clear hk)
        rintro m₁ nw ⟨o2, v2, rfl, ho2, m1, m2⟩ h₅ tk₅ F₅ N₅
        rw [map_two m1 m2] at F₅
        clear m1 m2 ho2 N₄
        replace N₅ := news_core N₅
        repeat' ((fail_if_success (first | (with_reducible show wpAny _ _ (exec (PySem.Stmt.Assign _ _ _) _) _ _ _) | (with_reducible show wpAny _ _ (exec (PySem.Stmt.Return _ _) _) _ _ _))); (first | (k_unfold; (try dsimp only)) | (k_end; wrow_close) | walk1 | (dsimp only; walk1) | (leave1; walk_say "STEP leave1"; try dsimp only) | fail "no step"))
        · refine' cut_two (n := (rv.length : Int)) (a := "first") (b := "second") (c := "stack") (by assumption) (by assumption) ?zt0 ?zt1 ?zt2
          case zt0 => rfl
          case zt1 =>
            repeat' ((fail_if_success (first | (with_reducible show Cut2 _ _ _ _ _ _ _ _ _ _ _))); (first | (k_unfold; (try dsimp only)) | (k_end; wrow_close) | walk1 | (dsimp only; walk1) | (leave1; walk_say "STEP leave1"; try dsimp only) | fail "no step"))
            exact ⟨rfl, _, _, _, rfl, by assumption, News.sub (by assumption) (fun _ h => .tail _ h), ⟨_, _, rfl, fm1_rng' (by omega) (by omega)⟩, ⟨_, _, rfl, fm1_rng' (by omega) (by omega)⟩, rfl⟩
          case zt2 =>
            intro h₆ tk₆ m₆ i1 t1 i2 t2 F₆ N₆ p1 p2 p3 p4
            have hMk := LateMark.here
            clear N₅
            have hL3 : rv.length = vs.length := hL2.trans hL1.symm
            obtain ⟨k1, k2⟩ := abs_lt (n := vs.length) p1 (by rw [← hL3]; exact p2)
            obtain ⟨k3, k4⟩ := abs_lt (n := vs.length) p3 (by rw [← hL3]; exact p4)
            replace k1 : Hid _ := k1
            replace k2 : Hid _ := k2
            replace k3 : Hid _ := k3
            replace k4 : Hid _ := k4
            repeat' ((fail_if_success (with_reducible show wpAny _ _ (call (Value.ref 208) _ _) _ _ _)); (first | (k_unfold; (try dsimp only)) | (k_end; wrow_close) | walk1 | (dsimp only; walk1) | (leave1; walk_say "STEP leave1"; try dsimp only) | fail "no step"))
            (rename News _ _ _ _ => N₇)
            replace N₇ := news_list N₇ (sw_sw k1 k2)
            repeat' ((fail_if_success (with_reducible show wpAny _ _ (call (Value.ref 173) _ _) _ _ _)); (first | (k_unfold; (try dsimp only)) | (k_end; wrow_close) | walk1 | (dsimp only; walk1) | (leave1; walk_say "STEP leave1"; try dsimp only) | fail "no step"))
            simp only [List.append_nil]
            repeat' ((fail_if_success (with_reducible show wpAny _ _ (call (Value.ref 246) _ _) _ _ _)); (first | (k_unfold; (try dsimp only)) | (k_end; wrow_close) | walk1 | (dsimp only; walk1) | (leave1; walk_say "STEP leave1"; try dsimp only) | fail "no step"))
            (rename News _ _ _ _ => N₈)
            replace N₈ := news_list N₈ take_snoc
            repeat' ((fail_if_success (first | (with_reducible show wpAny _ _ (exec (PySem.Stmt.If _ _ _ _) _) _ _ _))); (first | (k_unfold; (try dsimp only)) | (k_end; wrow_close) | walk1 | (dsimp only; walk1) | (leave1; walk_say "STEP leave1"; try dsimp only) | fail "no step"))
            repeat' ((fail_if_success (first | (with_reducible show wpAny _ _ (execs [] _) _ _ _) | (with_reducible show wpAny _ _ (exec (PySem.Stmt.Return _ _) _) _ _ _))); (first | (k_unfold; (try dsimp only)) | (k_end; wrow_close) | walk1 | (dsimp only; walk1) | (leave1; walk_say "STEP leave1"; try dsimp only) | fail "no step"))
            all_goals (try dsimp only)
            repeat' ((fail_if_success (first | (with_reducible show wpAny _ _ (exec (PySem.Stmt.Return _ _) _) _ _ _))); (first | (k_unfold; (try dsimp only)) | (k_end; wrow_close) | walk1 | (dsimp only; walk1) | (leave1; walk_say "STEP leave1"; try dsimp only) | fail "no step"))
            · rename rv[_]? = some _ => hrA
              rename i1 ≠ i2 => hne
              obtain ⟨cs', hops₂, hrow₂⟩ := last_swap hops' hrow p1 p2 p3 p4 hne hrA (by assumption)
              have hz : (sw (sw (sw vs (-i1).natAbs) (-i2).natAbs) (-i1).natAbs).length ≤ 100 := by simp only [sw_len]; omega
              clear hops' hrow hrA k1 k2 k3 k4 hne p1 p2 p3 p4 hL3 hL1 hL2 hlen16
              k_steps
            · k_steps
        · k_steps)
end
end Mine
theorem PySem.Challenge.cw_fs0002_01_holds : PySem.Challenge.rw_fs0002_01.Holds :=
  Mine.top
