import PyProof.Rows.All
import Wide.All
import OpenK.AllK
import Wide.FinOn
import KE.RegTryLedger
import KE.KWhile
import KE.KFinally
import PySem.Challenge.RW_ik0057_01
set_option Elab.async false
set_option compiler.extract_closed false
set_option maxRecDepth 100000
set_option linter.unusedVariables false
namespace Mine
section
open PySem PySem.W PyProof.Rows
/-- the program's statements by their number: a head over named statements is smaller (each twin of a long text costs the square of its names) -/
def stJ (i : Nat) : Stmt := PySem.Challenge.pw_ik0057_01.main.body.getD i (.Pass ⟨0, 0, 0, 0⟩)
def pwJ : Program := { PySem.Challenge.pw_ik0057_01 with main := { PySem.Challenge.pw_ik0057_01.main with body := [stJ 0, stJ 1, stJ 2, stJ 3, stJ 4, stJ 5, stJ 6, stJ 7, stJ 8, stJ 9, stJ 10, stJ 11, stJ 12, stJ 13, stJ 14, stJ 15, stJ 16, stJ 17, stJ 18, stJ 19, stJ 20, stJ 21, stJ 22, stJ 23, stJ 24, stJ 25, stJ 26, stJ 27, stJ 28, stJ 29, stJ 30] } }
def rwJ : PySem.W.OpenLaw := { PySem.Challenge.rw_ik0057_01 with prog := pwJ }
theorem rwJ_eq : rwJ = PySem.Challenge.rw_ik0057_01 := by rfl
local macro_rules | `(tactic| k_head) => `(tactic| z_head)
set_option maxRecDepth 100000 in
set_option maxHeartbeats 8000000 in
open_top hdz for Mine.rwJ
end
section
open PySem PySem.W PySem.W.X PyProof.Rows PySem.Calls
/-- a big goal out of sight while small things are taken apart: a case split writes the whole goal into its motive -/
theorem hide {X : Prop} (h : ∀ G : Prop, (X → G) → G) : X := h X id
theorem pick_sub {α : Type} (ns : List α) (is : List Nat) (k : Nat) : ∀ p ∈ is.filterMap (fun i => ns[i]?) ++ ns.drop k, p ∈ ns := by
  intro p hp
  rcases List.mem_append.mp hp with hp | hp
  · obtain ⟨i, _, hi⟩ := List.mem_filterMap.mp hp
    exact List.mem_of_getElem? hi
  · exact List.mem_of_mem_drop hp
theorem news_pick {h₀ h : Heap} {L : Addr} {ns : List (Addr × Obj)} (N : News h₀ L h ns) (is : List Nat) (k : Nat) : News h₀ L h (is.filterMap (fun i => ns[i]?) ++ ns.drop k) := fun p hp => N p (pick_sub ns is k p hp)
theorem add_ne (L a b : Nat) (h : Nat.beq a b = false) : @Ne Nat (L + a) (L + b) := fun e => Nat.ne_of_beq_eq_false h (Nat.add_left_cancel e)
theorem mem_i {α : Type} {ns : List α} {x : α} (i : Nat) (h : ns[i]? = some x) : x ∈ ns := List.mem_of_getElem? h
theorem off_c {I : Addr} {p : Addr × Obj} {r : List (Addr × Obj)} (h : (@Ne Nat p.1 I)) (k : ∀ q ∈ r, q.1 ≠ I) : ∀ q ∈ p :: r, q.1 ≠ I := fun q hq => by
  rcases List.mem_cons.mp hq with rfl | hq
  · exact h
  · exact k q hq
theorem off_n {I : Addr} : ∀ q ∈ ([] : List (Addr × Obj)), q.1 ≠ I := fun _ hq => nomatch hq
/-- a big end out of sight while a body is walked -/
theorem absQ {α : Type} {M : Model} {A : Around} {p : Sem α} {Q : α → Shared → Prop} {E : Value → Shared → Prop} {s : Shared} (h : ∀ Q0 : α → Shared → Prop, (∀ f s, Q f s → Q0 f s) → wpAny M A p Q0 E s) : wpAny M A p Q E s := h Q fun _ _ h => h
theorem ex_eq {α β : Type} {r : β} {f : α → β} (h : ∃ t, r = f t) {G : β → Prop} (k : ∀ t, G (f t)) : G r := by
  obtain ⟨t, rfl⟩ := h
  exact k t
end
section
open PySem PySem.W PyProof.Rows
open AutoSeq1 (wpAny_loadPart')
open MeetsSeq MeetsSeq3

/-- the order of lists of texts -/
noncomputable def ltR : List Str → List Str → Bool
  | [], [] => false
  | [], _ :: _ => true
  | _ :: _, [] => false
  | x :: xs, y :: ys => if x = y then ltR xs ys else decide (x.cps.toList < y.cps.toList)

theorem rc_lt_str {prog : Program} {w : World} {A : Around} {E : Value → Shared → Prop} {s : Shared} {x y : Str} {t u : Tok} {Q : Value → Shared → Prop} (h : Q (.bool (decide (x.cps.toList < y.cps.toList))) s) :
    wpAny (model prog w) A (richCompare .Lt (.str x t) (.str y u)) Q E s :=
  richCompare_gives (op := .Lt) (typeIs_str s x t) (typeIs_str s y u) F.slot_str_lt F.entry_str_lt (F.args_str_lt_2 _ _) (PySem.gives_str_lt x y t u) (by simp [Made.takes]) h
theorem rc_gt_str {prog : Program} {w : World} {A : Around} {E : Value → Shared → Prop} {s : Shared} {x y : Str} {t u : Tok} {Q : Value → Shared → Prop} (h : Q (.bool (decide (y.cps.toList < x.cps.toList))) s) :
    wpAny (model prog w) A (richCompare .Gt (.str x t) (.str y u)) Q E s :=
  richCompare_gives (op := .Gt) (typeIs_str s x t) (typeIs_str s y u) F.slot_str_gt F.entry_str_gt (F.args_str_gt_2 _ _) (PySem.gives_str_gt x y t u) (by simp [Made.takes]) h

theorem strsAre_at : ∀ {vs : List Value} {xs : List Str}, StrsAre vs xs → ∀ (i : Nat), (vs[i]? = none ∧ xs[i]? = none) ∨ ∃ x t, vs[i]? = some (.str x t) ∧ xs[i]? = some x := by
  intro vs xs x
  induction x with
  | nil => intro i; exact .inl ⟨rfl, rfl⟩
  | cons y t h ih =>
    intro i
    cases i with
    | zero => exact .inr ⟨y, t, rfl, rfl⟩
    | succ i => exact ih i
theorem drop_some {α : Type} {xs : List α} {i : Nat} {x : α} (h : xs[i]? = some x) : xs.drop i = x :: xs.drop (i + 1) := by
  obtain ⟨hi, rfl⟩ := List.getElem?_eq_some_iff.mp h
  exact List.drop_eq_getElem_cons hi
theorem drop_none {α : Type} {xs : List α} {i : Nat} (h : xs[i]? = none) : xs.drop i = [] := List.drop_eq_nil_of_le (List.getElem?_eq_none_iff.mp h)


theorem strs_len {vs : List Value} {xs : List Str} (h : StrsAre vs xs) : vs.length = xs.length := by
  induction h with
  | nil => rfl
  | cons _ _ _ ih => simp [ih]

theorem lt_loop (l b : Addr) (vs us : List Value) (xs ys : List Str) (n n2 : Nat) (dd dd2 : Option Addr) (sl sl2 : Array (Option Value)) (hx : StrsAre vs xs) (hy : StrsAre us ys) (k : Nat) :
    ∀ i : Nat, xs.length - i = k → i ≤ xs.length → i ≤ ys.length → Meets (Builtin.«list.__eq__.loop» ⟨[.ref l, .ref b, rawInt i, rawInt 0], []⟩)
      (fun _ R s => s.heap.get? l = some { cls := .type "list", dict := dd, data := .seq vs.toArray n, slots := sl } ∧ s.heap.get? b = some { cls := .type "list", dict := dd2, data := .seq us.toArray n2, slots := sl2 } ∧
        R (.ok (.ret (.bool (ltR (xs.drop i) (ys.drop i))))) s) := by
  have lx := strs_len hx
  have ly := strs_len hy
  induction k with
  | zero =>
    intro i hk hi1 hi2 prog w A R s h
    obtain ⟨hp, g, d, tk, os⟩ := s; obtain ⟨hl, hb, h⟩ := h
    wp_walk using wpAny_loadPart' hl, wpAny_loadPart' hb
    have hn1 : vs.toArray[((i : Nat) : Int).toNat]? = none := by rw [Int.toNat_natCast, List.getElem?_toArray]; exact List.getElem?_eq_none (by rw [lx]; exact Nat.le_of_sub_eq_zero hk)
    rw [hn1]
    have hx0 : xs[i]? = none := List.getElem?_eq_none (Nat.le_of_sub_eq_zero hk)
    rw [drop_none hx0] at h
    wp_walk using wpAny_loadPart' hl, wpAny_loadPart' hb
    show R (.ok (.ret (.bool (decide (vs.toArray.size < us.toArray.size))))) _
    rcases strsAre_at hy i with ⟨e1, e2⟩ | ⟨y, t, e1, e2⟩
    · rw [drop_none e2] at h
      have h2 : ys.length ≤ i := List.getElem?_eq_none_iff.mp e2
      have : decide (vs.toArray.size < us.toArray.size) = false := decide_eq_false (by rw [List.size_toArray, List.size_toArray, lx, ly]; exact Nat.not_lt.mpr (Nat.le_trans h2 hi1))
      rw [this]; exact h
    · rw [drop_some e2] at h
      have h2 : i < ys.length := (List.getElem?_eq_some_iff.mp e2).1
      have : decide (vs.toArray.size < us.toArray.size) = true := decide_eq_true (by rw [List.size_toArray, List.size_toArray, lx, ly]; exact Nat.lt_of_le_of_lt (Nat.le_of_sub_eq_zero hk) h2)
      rw [this]; exact h
  | succ k ih =>
    intro i hk hi1 hi2 prog w A R s h
    obtain ⟨hp, g, d, tk, os⟩ := s; obtain ⟨hl, hb, h⟩ := h
    wp_walk using wpAny_loadPart' hl, wpAny_loadPart' hb
    obtain ⟨x, t, e1, e2⟩ : ∃ x t, vs[i]? = some (.str x t) ∧ xs[i]? = some x := by
      rcases strsAre_at hx i with ⟨_, e⟩ | e
      · exact absurd hk (by rw [Nat.sub_eq_zero_of_le (List.getElem?_eq_none_iff.mp e)]; exact fun q => by cases q)
      · exact e
    have f1 : vs.toArray[((i : Nat) : Int).toNat]? = some (.str x t) := by simpa using e1
    rw [f1]
    rw [drop_some e2] at h
    rcases strsAre_at hy i with ⟨d1, d2⟩ | ⟨y, u, d1, d2⟩
    · have f2 : us.toArray[((i : Nat) : Int).toNat]? = none := by simpa using d1
      rw [f2]
      rw [drop_none d2] at h
      wp_walk using wpAny_loadPart' hl, wpAny_loadPart' hb
      show R (.ok (.ret (.bool (decide (vs.toArray.size < us.toArray.size))))) _
      have h2 : ys.length ≤ i := List.getElem?_eq_none_iff.mp d2
      have : decide (vs.toArray.size < us.toArray.size) = false := decide_eq_false (by rw [List.size_toArray, List.size_toArray, lx, ly]; exact Nat.not_lt.mpr (Nat.le_trans h2 hi1))
      rw [this]; exact h
    · have f2 : us.toArray[((i : Nat) : Int).toNat]? = some (.str y u) := by simpa using d1
      rw [f2]
      rw [drop_some d2] at h
      have hi2' : i < ys.length := (List.getElem?_eq_some_iff.mp d2).1
      refine wpAny_bind (eqBool_str ?_)
      have hc : ((i : Int) + 1) = ((i + 1 : Nat) : Int) := by push_cast; rfl
      by_cases hxy : x = y
      · rw [show (x == y) = true from by simp [hxy]]
        have h' : R (.ok (.ret (.bool (ltR (xs.drop (i + 1)) (ys.drop (i + 1)))))) ⟨hp, g, d, tk, os⟩ := by
          simpa [ltR, hxy] using h
        wp_walk
        rw [hc]
        exact ⟨plainId_quiet plain_eq_loop _, codeAny_builtin entry_eq_loop (by
          rw [Around.under_plainId plain_eq_loop _]
          exact ih (i + 1) (by rw [← Nat.sub_sub, hk]; rfl) (List.getElem?_eq_some_iff.mp e2).1 hi2' prog w A R _ ⟨hl, hb, h'⟩)⟩
      · rw [show (x == y) = false from by simp [hxy]]
        have h' : R (.ok (.ret (.bool (decide (x.cps.toList < y.cps.toList))))) ⟨hp, g, d, tk, os⟩ := by
          simpa [ltR, hxy] using h
        wp_walk using wpAny_loadPart' hl, wpAny_loadPart' hb
        rw [f1, f2]
        refine wpAny_bind (rc_lt_str ?_)
        wp_walk
        exact h'

theorem gt_loop (l b : Addr) (vs us : List Value) (xs ys : List Str) (n n2 : Nat) (dd dd2 : Option Addr) (sl sl2 : Array (Option Value)) (hx : StrsAre vs xs) (hy : StrsAre us ys) (k : Nat) :
    ∀ i : Nat, xs.length - i = k → i ≤ xs.length → i ≤ ys.length → Meets (Builtin.«list.__eq__.loop» ⟨[.ref l, .ref b, rawInt i, rawInt 4], []⟩)
      (fun _ R s => s.heap.get? l = some { cls := .type "list", dict := dd, data := .seq vs.toArray n, slots := sl } ∧ s.heap.get? b = some { cls := .type "list", dict := dd2, data := .seq us.toArray n2, slots := sl2 } ∧
        R (.ok (.ret (.bool (ltR (ys.drop i) (xs.drop i))))) s) := by
  have lx := strs_len hx
  have ly := strs_len hy
  induction k with
  | zero =>
    intro i hk hi1 hi2 prog w A R s h
    obtain ⟨hp, g, d, tk, os⟩ := s; obtain ⟨hl, hb, h⟩ := h
    wp_walk using wpAny_loadPart' hl, wpAny_loadPart' hb
    have hn1 : vs.toArray[((i : Nat) : Int).toNat]? = none := by rw [Int.toNat_natCast, List.getElem?_toArray]; exact List.getElem?_eq_none (by rw [lx]; exact Nat.le_of_sub_eq_zero hk)
    rw [hn1]
    have hx0 : xs[i]? = none := List.getElem?_eq_none (Nat.le_of_sub_eq_zero hk)
    rw [drop_none hx0] at h
    wp_walk using wpAny_loadPart' hl, wpAny_loadPart' hb
    show R (.ok (.ret (.bool (decide (vs.toArray.size > us.toArray.size))))) _
    rcases strsAre_at hy i with ⟨e1, e2⟩ | ⟨y, t, e1, e2⟩
    · rw [drop_none e2] at h
      have h2 : ys.length ≤ i := List.getElem?_eq_none_iff.mp e2
      have : decide (vs.toArray.size > us.toArray.size) = false := decide_eq_false (by rw [List.size_toArray, List.size_toArray, lx, ly]; exact Nat.not_lt.mpr (Nat.le_trans (Nat.le_of_sub_eq_zero hk) hi2))
      rw [this]; exact h
    · rw [drop_some e2] at h
      have h2 : i < ys.length := (List.getElem?_eq_some_iff.mp e2).1
      have : decide (vs.toArray.size > us.toArray.size) = false := decide_eq_false (by rw [List.size_toArray, List.size_toArray, lx, ly]; exact Nat.not_lt.mpr (Nat.le_trans (Nat.le_of_sub_eq_zero hk) hi2))
      rw [this]; exact h
  | succ k ih =>
    intro i hk hi1 hi2 prog w A R s h
    obtain ⟨hp, g, d, tk, os⟩ := s; obtain ⟨hl, hb, h⟩ := h
    wp_walk using wpAny_loadPart' hl, wpAny_loadPart' hb
    obtain ⟨x, t, e1, e2⟩ : ∃ x t, vs[i]? = some (.str x t) ∧ xs[i]? = some x := by
      rcases strsAre_at hx i with ⟨_, e⟩ | e
      · exact absurd hk (by rw [Nat.sub_eq_zero_of_le (List.getElem?_eq_none_iff.mp e)]; exact fun q => by cases q)
      · exact e
    have f1 : vs.toArray[((i : Nat) : Int).toNat]? = some (.str x t) := by simpa using e1
    rw [f1]
    rw [drop_some e2] at h
    rcases strsAre_at hy i with ⟨d1, d2⟩ | ⟨y, u, d1, d2⟩
    · have f2 : us.toArray[((i : Nat) : Int).toNat]? = none := by simpa using d1
      rw [f2]
      rw [drop_none d2] at h
      wp_walk using wpAny_loadPart' hl, wpAny_loadPart' hb
      show R (.ok (.ret (.bool (decide (vs.toArray.size > us.toArray.size))))) _
      have h2 : ys.length ≤ i := List.getElem?_eq_none_iff.mp d2
      have : decide (vs.toArray.size > us.toArray.size) = true := decide_eq_true (by rw [List.size_toArray, List.size_toArray, lx, ly]; exact Nat.lt_of_le_of_lt h2 (List.getElem?_eq_some_iff.mp e2).1)
      rw [this]; exact h
    · have f2 : us.toArray[((i : Nat) : Int).toNat]? = some (.str y u) := by simpa using d1
      rw [f2]
      rw [drop_some d2] at h
      have hi2' : i < ys.length := (List.getElem?_eq_some_iff.mp d2).1
      refine wpAny_bind (eqBool_str ?_)
      have hc : ((i : Int) + 1) = ((i + 1 : Nat) : Int) := by push_cast; rfl
      by_cases hxy : x = y
      · rw [show (x == y) = true from by simp [hxy]]
        have h' : R (.ok (.ret (.bool (ltR (ys.drop (i + 1)) (xs.drop (i + 1)))))) ⟨hp, g, d, tk, os⟩ := by
          simpa [ltR, hxy] using h
        wp_walk
        rw [hc]
        exact ⟨plainId_quiet plain_eq_loop _, codeAny_builtin entry_eq_loop (by
          rw [Around.under_plainId plain_eq_loop _]
          exact ih (i + 1) (by rw [← Nat.sub_sub, hk]; rfl) (List.getElem?_eq_some_iff.mp e2).1 hi2' prog w A R _ ⟨hl, hb, h'⟩)⟩
      · rw [show (x == y) = false from by simp [hxy]]
        have h' : R (.ok (.ret (.bool (decide (y.cps.toList < x.cps.toList))))) ⟨hp, g, d, tk, os⟩ := by
          simpa [ltR, Ne.symm hxy] using h
        wp_walk using wpAny_loadPart' hl, wpAny_loadPart' hb
        rw [f1, f2]
        refine wpAny_bind (rc_gt_str ?_)
        wp_walk
        exact h'

theorem list_ltM (l b : Addr) (vs us : List Value) (xs ys : List Str) (n n2 : Nat) (hx : StrsAre vs xs) (hy : StrsAre us ys) :
    Meets (Builtin.«list.__lt__» ⟨[.ref l, .ref b], []⟩)
      (fun _ R s => s.heap.get? l = some { cls := .type "list", dict := none, data := .seq vs.toArray n, slots := #[] } ∧ s.heap.get? b = some { cls := .type "list", dict := none, data := .seq us.toArray n2, slots := #[] } ∧
        R (.ok (.ret (.bool (ltR xs ys)))) s) := by
  intro prog w A R s h
  obtain ⟨hp, g, d, tk, os⟩ := s; obtain ⟨hl, hb, h⟩ := h
  have f3 := AutoSeq1.sub_list_list
  wp_walk using wpAny_loadPart' hl, wpAny_loadPart' hb
  exact ⟨plainId_quiet plain_eq_loop _, codeAny_builtin entry_eq_loop (by
    rw [Around.under_plainId plain_eq_loop _]
    exact lt_loop l b vs us xs ys n n2 _ _ _ _ hx hy _ 0 rfl (Nat.zero_le _) (Nat.zero_le _) prog w A R _ ⟨hl, hb, by simpa using h⟩)⟩
theorem list_gtM (l b : Addr) (vs us : List Value) (xs ys : List Str) (n n2 : Nat) (hx : StrsAre vs xs) (hy : StrsAre us ys) :
    Meets (Builtin.«list.__gt__» ⟨[.ref l, .ref b], []⟩)
      (fun _ R s => s.heap.get? l = some { cls := .type "list", dict := none, data := .seq vs.toArray n, slots := #[] } ∧ s.heap.get? b = some { cls := .type "list", dict := none, data := .seq us.toArray n2, slots := #[] } ∧
        R (.ok (.ret (.bool (ltR ys xs)))) s) := by
  intro prog w A R s h
  obtain ⟨hp, g, d, tk, os⟩ := s; obtain ⟨hl, hb, h⟩ := h
  have f3 := AutoSeq1.sub_list_list
  wp_walk using wpAny_loadPart' hl, wpAny_loadPart' hb
  exact ⟨plainId_quiet plain_eq_loop _, codeAny_builtin entry_eq_loop (by
    rw [Around.under_plainId plain_eq_loop _]
    exact gt_loop l b vs us xs ys n n2 _ _ _ _ hx hy _ 0 rfl (Nat.zero_le _) (Nat.zero_le _) prog w A R _ ⟨hl, hb, by simpa using h⟩)⟩

section
variable {prog : Program} {w : World} {A : Around} {E : Value → Shared → Prop} {s : Shared} {l b : Addr} {vs us : List Value} {xs ys : List Str} {n n2 : Nat} {Q : Value → Shared → Prop}
theorem cmp_lt_rows (hl : s.heap.get? l = some { cls := .type "list", dict := none, data := .seq vs.toArray n, slots := #[] }) (hb : s.heap.get? b = some { cls := .type "list", dict := none, data := .seq us.toArray n2, slots := #[] })
    (hx : StrsAre vs xs) (hy : StrsAre us ys) (hu : A.units < cLine) (h : Q (.bool (ltR xs ys)) s) : wpAny (model prog w) A (compareOp .Lt (.ref l) (.ref b)) Q E s :=
  richCompare_meets_room (op := .Lt) ⟨_, hl, rfl⟩ ⟨_, hb, rfl⟩ F.slot_list_lt F.entry_list_lt (F.args_list_lt_2 _ _) (list_ltM l b vs us xs ys n n2 hx hy)
    ⟨hl, hb, show Value.bool (ltR xs ys) ≠ Value.notImplemented ∧ Q (.bool (ltR xs ys)) s from ⟨(fun x => nomatch x), h⟩⟩ hu
theorem cmp_gt_rows (hl : s.heap.get? l = some { cls := .type "list", dict := none, data := .seq vs.toArray n, slots := #[] }) (hb : s.heap.get? b = some { cls := .type "list", dict := none, data := .seq us.toArray n2, slots := #[] })
    (hx : StrsAre vs xs) (hy : StrsAre us ys) (hu : A.units < cLine) (h : Q (.bool (ltR ys xs)) s) : wpAny (model prog w) A (compareOp .Gt (.ref l) (.ref b)) Q E s :=
  richCompare_meets_room (op := .Gt) ⟨_, hl, rfl⟩ ⟨_, hb, rfl⟩ F.slot_list_gt F.entry_list_gt (F.args_list_gt_2 _ _) (list_gtM l b vs us xs ys n n2 hx hy)
    ⟨hl, hb, show Value.bool (ltR ys xs) ≠ Value.notImplemented ∧ Q (.bool (ltR ys xs)) s from ⟨(fun x => nomatch x), h⟩⟩ hu
end
end
section
open PySem PySem.W PySem.W.X PyProof.Rows
noncomputable def KM : Params → Frag := fun P =>
  (nat_lit 0, hdz.zo_39 P) ::
  (nat_lit 1, hdz.zo_40 P) ::
  (nat_lit 2, hdz.zo_41 P) ::
  (nat_lit 3, hdz.zo_42 P) ::
  (nat_lit 4, hdz.zo_43 P) ::
  (nat_lit 5, hdz.zo_44 P) ::
  (nat_lit 6, hdz.zo_45 P) ::
  (nat_lit 7, hdz.zo_46 P) ::
  (nat_lit 8, hdz.zo_47 P) ::
  (nat_lit 9, hdz.zo_48 P) ::
  (nat_lit 10, hdz.zo_49 P) ::
  (nat_lit 11, hdz.zo_50 P) ::
  (nat_lit 12, hdz.zo_51 P) ::
  (nat_lit 13, hdz.zo_52 P) ::
  (nat_lit 14, hdz.zo_53 P) ::
  (nat_lit 15, hdz.zo_54 P) ::
  (nat_lit 16, hdz.zo_55 P) ::
  (nat_lit 17, hdz.zo_56 P) ::
  (nat_lit 18, hdz.zo_57 P) ::
  (nat_lit 19, hdz.zo_58 P) ::
  (nat_lit 20, hdz.zo_59 P) ::
  (nat_lit 21, hdz.zo_60 P) ::
  (nat_lit 22, hdz.zo_61 P) ::
  (nat_lit 23, hdz.zo_62 P) ::
  (nat_lit 24, hdz.zo_63 P) ::
  (nat_lit 25, hdz.zo_64 P) ::
  (nat_lit 26, hdz.zo_65 P) ::
  (nat_lit 27, hdz.zo_66 P) ::
  (nat_lit 28, hdz.zo_67 P) ::
  (nat_lit 29, hdz.zo_68 P) ::
  (nat_lit 30, hdz.zo_69 P) ::
  (nat_lit 31, hdz.zo_70 P) ::
  (nat_lit 32, hdz.zo_71 P) ::
  (nat_lit 33, hdz.zo_72 P) ::
  (nat_lit 34, hdz.zo_73 P) ::
  (nat_lit 35, hdz.zo_74 P) ::
  (nat_lit 36, hdz.zo_75 P) ::
  (nat_lit 38, hdz.zo_77 P) ::
  (nat_lit 39, hdz.zo_78 P) ::
  (nat_lit 40, hdz.zo_79 P) ::
  (nat_lit 41, hdz.zo_80 P) ::
  (nat_lit 42, hdz.zo_81 P) ::
  (nat_lit 43, hdz.zo_82 P) ::
  (nat_lit 44, hdz.zo_83 P) ::
  (nat_lit 45, hdz.zo_84 P) ::
  (nat_lit 46, hdz.zo_85 P) ::
  (nat_lit 47, hdz.zo_86 P) ::
  (nat_lit 48, hdz.zo_87 P) ::
  (nat_lit 49, hdz.zo_88 P) ::
  (nat_lit 50, hdz.zo_89 P) ::
  (nat_lit 51, hdz.zo_90 P) ::
  (nat_lit 52, hdz.zo_91 P) ::
  (nat_lit 53, hdz.zo_92 P) ::
  (nat_lit 54, hdz.zo_93 P) ::
  (nat_lit 55, hdz.zo_94 P) ::
  (nat_lit 56, hdz.zo_95 P) ::
  (nat_lit 57, hdz.zo_96 P) ::
  (nat_lit 58, hdz.zo_97 P) ::
  (nat_lit 59, hdz.zo_98 P) ::
  (nat_lit 66, hdz.zo_99 P) ::
  (nat_lit 67, hdz.zo_100 P) ::
  (nat_lit 68, hdz.zo_101 P) ::
  (nat_lit 69, hdz.zo_102 P) ::
  (nat_lit 70, hdz.zo_103 P) ::
  (nat_lit 71, hdz.zo_104 P) ::
  (nat_lit 72, hdz.zo_105 P) ::
  (nat_lit 73, hdz.zo_106 P) ::
  (nat_lit 74, hdz.zo_107 P) ::
  (nat_lit 75, hdz.zo_108 P) ::
  (nat_lit 78, hdz.zo_109 P) ::
  (nat_lit 85, hdz.zo_110 P) ::
  (nat_lit 86, hdz.zo_111 P) ::
  (nat_lit 87, hdz.zo_112 P) ::
  (nat_lit 88, hdz.zo_113 P) ::
  (nat_lit 89, hdz.zo_114 P) ::
  (nat_lit 90, hdz.zo_115 P) ::
  (nat_lit 91, hdz.zo_116 P) ::
  (nat_lit 92, hdz.zo_117 P) ::
  (nat_lit 93, hdz.zo_118 P) ::
  (nat_lit 94, hdz.zo_119 P) ::
  (nat_lit 95, hdz.zo_120 P) ::
  (nat_lit 96, hdz.zo_121 P) ::
  (nat_lit 97, hdz.zo_122 P) ::
  (nat_lit 98, hdz.zo_123 P) ::
  (nat_lit 99, hdz.zo_124 P) ::
  (nat_lit 100, hdz.zo_125 P) ::
  (nat_lit 101, hdz.zo_126 P) ::
  (nat_lit 102, hdz.zo_127 P) ::
  (nat_lit 103, hdz.zo_128 P) ::
  (nat_lit 104, hdz.zo_129 P) ::
  (nat_lit 105, hdz.zo_130 P) ::
  (nat_lit 106, hdz.zo_131 P) ::
  (nat_lit 107, hdz.zo_132 P) ::
  (nat_lit 108, hdz.zo_133 P) ::
  (nat_lit 111, hdz.zo_134 P) ::
  (nat_lit 112, hdz.zo_135 P) ::
  (nat_lit 113, hdz.zo_136 P) ::
  (nat_lit 114, hdz.zo_137 P) ::
  (nat_lit 115, hdz.zo_138 P) ::
  (nat_lit 116, hdz.zo_139 P) ::
  (nat_lit 117, hdz.zo_140 P) ::
  (nat_lit 118, hdz.zo_141 P) ::
  (nat_lit 119, hdz.zo_142 P) ::
  (nat_lit 120, hdz.zo_143 P) ::
  (nat_lit 121, hdz.zo_144 P) ::
  (nat_lit 122, hdz.zo_145 P) ::
  (nat_lit 123, hdz.zo_146 P) ::
  (nat_lit 124, hdz.zo_147 P) ::
  (nat_lit 125, hdz.zo_148 P) ::
  (nat_lit 126, hdz.zo_149 P) ::
  (nat_lit 127, hdz.zo_150 P) ::
  (nat_lit 128, hdz.zo_151 P) ::
  (nat_lit 129, hdz.zo_152 P) ::
  (nat_lit 130, hdz.zo_153 P) ::
  (nat_lit 131, hdz.zo_154 P) ::
  (nat_lit 132, hdz.zo_155 P) ::
  (nat_lit 133, hdz.zo_156 P) ::
  (nat_lit 134, hdz.zo_157 P) ::
  (nat_lit 135, hdz.zo_158 P) ::
  (nat_lit 136, hdz.zo_159 P) ::
  (nat_lit 137, hdz.zo_160 P) ::
  (nat_lit 138, hdz.zo_161 P) ::
  (nat_lit 139, hdz.zo_162 P) ::
  (nat_lit 140, hdz.zo_163 P) ::
  (nat_lit 141, hdz.zo_164 P) ::
  (nat_lit 142, hdz.zo_165 P) ::
  (nat_lit 143, hdz.zo_166 P) ::
  (nat_lit 144, hdz.zo_167 P) ::
  (nat_lit 145, hdz.zo_168 P) ::
  (nat_lit 146, hdz.zo_169 P) ::
  (nat_lit 147, hdz.zo_170 P) ::
  (nat_lit 148, hdz.zo_171 P) ::
  (nat_lit 149, hdz.zo_172 P) ::
  (nat_lit 150, hdz.zo_173 P) ::
  (nat_lit 151, hdz.zo_174 P) ::
  (nat_lit 152, hdz.zo_175 P) ::
  (nat_lit 153, hdz.zo_176 P) ::
  (nat_lit 154, hdz.zo_177 P) ::
  (nat_lit 155, hdz.zo_178 P) ::
  (nat_lit 156, hdz.zo_179 P) ::
  (nat_lit 157, hdz.zo_180 P) ::
  (nat_lit 158, hdz.zo_181 P) ::
  (nat_lit 159, hdz.zo_182 P) ::
  (nat_lit 160, hdz.zo_183 P) ::
  (nat_lit 161, hdz.zo_184 P) ::
  (nat_lit 162, hdz.zo_185 P) ::
  (nat_lit 163, hdz.zo_186 P) ::
  (nat_lit 164, hdz.zo_187 P) ::
  (nat_lit 165, hdz.zo_188 P) ::
  (nat_lit 166, hdz.zo_189 P) ::
  (nat_lit 167, hdz.zo_190 P) ::
  (nat_lit 168, hdz.zo_191 P) ::
  (nat_lit 169, hdz.zo_192 P) ::
  (nat_lit 170, hdz.zo_193 P) ::
  (nat_lit 171, hdz.zo_194 P) ::
  (nat_lit 172, hdz.zo_195 P) ::
  (nat_lit 173, hdz.zo_196 P) ::
  (nat_lit 174, hdz.zo_197 P) ::
  (nat_lit 175, hdz.zo_198 P) ::
  (nat_lit 176, hdz.zo_199 P) ::
  (nat_lit 177, hdz.zo_200 P) ::
  (nat_lit 178, hdz.zo_201 P) ::
  (nat_lit 179, hdz.zo_202 P) ::
  (nat_lit 180, hdz.zo_203 P) ::
  (nat_lit 181, hdz.zo_204 P) ::
  (nat_lit 182, hdz.zo_205 P) ::
  (nat_lit 183, hdz.zo_206 P) ::
  (nat_lit 184, hdz.zo_207 P) ::
  (nat_lit 185, hdz.zo_208 P) ::
  (nat_lit 186, hdz.zo_209 P) ::
  (nat_lit 187, hdz.zo_210 P) ::
  (nat_lit 188, hdz.zo_211 P) ::
  (nat_lit 189, hdz.zo_212 P) ::
  (nat_lit 190, hdz.zo_213 P) ::
  (nat_lit 191, hdz.zo_214 P) :: []
set_option linter.unusedVariables false
theorem km_sub (P : Params) : KM P = (hdz.heap_214 P).filter fun p => !(Nat.beq p.1 37) := by kernel_rfl
theorem lookup_filter {K : Frag} {q : Addr × Obj → Bool} (hq : ∀ p p' : Addr × Obj, p.1 = p'.1 → q p = q p') : ∀ {a : Addr} {o : Obj}, (K.filter q).lookup a = some o → K.lookup a = some o := by
  induction K with
  | nil => intro a o h; cases h
  | cons p K ih =>
    intro a o h
    obtain ⟨b, x⟩ := p
    rw [List.lookup_cons]
    by_cases hp : q (b, x) = true
    · rw [List.filter_cons_of_pos hp, List.lookup_cons] at h
      split at h
      · exact h
      · exact ih h
    · rw [List.filter_cons_of_neg hp] at h
      split
      · rename_i hab
        have : a = b := eq_of_beq hab
        subst this
        have : ∀ {L : Frag} {o : Obj}, (L.filter q).lookup a = some o → False := by
          intro L
          induction L with
          | nil => intro o h; cases h
          | cons r L ih2 =>
            intro o h
            obtain ⟨c, y⟩ := r
            by_cases hr : q (c, y) = true
            · rw [List.filter_cons_of_pos hr, List.lookup_cons] at h
              split at h
              · rename_i hac
                have e : a = c := eq_of_beq hac
                rw [hq (a, x) (c, y) e] at hp
                exact hp hr
              · exact ih2 h
            · rw [List.filter_cons_of_neg hr] at h
              exact ih2 h
        exact (this h).elim
      · exact ih h
theorem km_in {w : World} {h : Heap} (X : InK hdz.heap_214 w h) : (KM w.params).In h := fun a o e => X a o (lookup_filter (q := fun p => !(Nat.beq p.1 37)) (fun p p' e => by rw [e]) (by rw [← km_sub]; exact e))

noncomputable abbrev RP : Program := PySem.Challenge.rw_ik0057_01.row.prog
noncomputable def stAt (i : Nat) : Stmt := (PySem.Challenge.pw_ik0057_01.main.body)[i]?.getD (.Pass ⟨0, 0, 0, 0⟩)
noncomputable def dParams : Stmt → Arguments | .FunctionDef _ a _ _ _ _ _ _ _ _ => a | _ => ⟨[], [], none, [], [], none, []⟩
noncomputable def dBody : Stmt → List Stmt | .FunctionDef _ _ b _ _ _ _ _ _ _ => b | _ => []
noncomputable def dScope : Stmt → Scope | .FunctionDef _ _ _ _ _ _ s _ _ _ => s | _ => default
noncomputable def Lz : List Str := (looseW hdz.view_406 [Str.ofString "_initial_missing", Str.ofString "reduce"]) ++ (recsOf hdz.view_406).map (·.name) ++ (litsOf hdz.view_406).map (·.1) ++ (clssOf hdz.view_406 (looseW hdz.view_406 [Str.ofString "_initial_missing", Str.ofString "reduce"])).map (·.name)

/-- what every contract may lean on -/
structure Gd (w : World) (mg mb : Str → Option Value) (h : Heap) : Prop where
  K : (KM w.params).In h
  T : Top topProg Lz (fun _ => none) mg mb h
theorem Gd.keeps {w : World} {mg mb : Str → Option Value} {h h' : Heap} (G : Gd w mg mb h) (hk : h.StaysIn h') : Gd w mg mb h' := ⟨G.K.keeps hk, G.T.keeps hk⟩

/-- room for k levels of calls -/
structure Fits (k : Nat) (A : Around) : Prop where
  handled : A.handled = none
  depth : A.depth + 20 * k ≤ 500
  units : A.units + 20 * k ≤ 500
theorem Fits.deeper {k : Nat} {A : Around} (f : Fits (k + 1) A) (env : Env) : Fits k (A.deeper env) :=
  ⟨f.handled, by have := f.depth; show A.depth + 1 + _ ≤ _; omega, by have := f.units; show A.units + 3 + _ ≤ _; omega⟩
theorem Fits.room {k : Nat} {A : Around} (f : Fits k A) : A.depth < recursionLimit := by have := f.depth; show _ < 1000; omega
theorem Fits.cl {k : Nat} {A : Around} (f : Fits k A) : A.units < cLine := by have := f.units; show _ < 9900; omega
theorem Fits.le {k j : Nat} {A : Around} (f : Fits k A) (h : j ≤ k) : Fits j A :=
  ⟨f.handled, by have := f.depth; omega, by have := f.units; omega⟩
theorem Fits.in1 {k : Nat} {A : Around} (f : Fits (k + 1) A) : Fits k A.in1 :=
  ⟨f.handled, by have := f.depth; show A.depth + _ ≤ _; omega, by have := f.units; show A.units + 1 + _ ≤ _; omega⟩

/-- a call of f with vs, from heap h: it ends, keeps all that stood, and hands back what Post says -/
noncomputable def Con (w : World) (k : Nat) (f : Value) (vs : List Value) (h : Heap) (Post : Value → Heap → Prop) : Prop :=
  ∀ (A : Around) (g : Array GenState) (d : Drawn) (tk : Nat) (os : OsState) (Q E : Value → Shared → Prop), Fits k A →
    (∀ r h' tk', h.StaysIn h' → Post r h' → Q r ⟨h', g, d, tk', os⟩) → wpAny (model RP w) A (call f vs) Q E ⟨h, g, d, tk, os⟩
theorem Con.mono {w : World} {k j : Nat} {f : Value} {vs : List Value} {h : Heap} {Post Post' : Value → Heap → Prop} (C : Con w j f vs h Post) (hj : j ≤ k) (hp : ∀ r h', Post r h' → Post' r h') : Con w k f vs h Post' :=
  fun A g d tk os Q E hA hret => C A g d tk os Q E (hA.le hj) fun r h' tk' hk p => hret r h' tk' hk (hp r h' p)

theorem grow_fr {h₀ h h' : Heap} {L : Addr} {m : Str → Option Value} (F : Fr h₀ L h m) (hk : h.StaysIn h') : Fr h₀ L h' m := ⟨F.ns.keeps hk, fun b o e => hk _ _ (F.keep b o e), F.above⟩

/-- a contract used inside a body -/
theorem Con.use {w : World} {k j : Nat} {f : Value} {vs : List Value} {h₀ : Heap} {Post : Value → Heap → Prop} {A : Around} {s : Shared} {L : Addr} {m : Str → Option Value} {news : List (Addr × Obj)} {Q E : Value → Shared → Prop}
    (C : Con w j f vs s.heap Post) (hA : Fits k A) (hj : j ≤ k) (F : Fr h₀ L s.heap m) (N : News h₀ L s.heap news)
    (hQ : ∀ r h' tk', Fr h₀ L h' m → News h₀ L h' news → s.heap.StaysIn h' → Post r h' → Q r { s with heap := h', toks := tk' }) : wpAny (model RP w) A (call f vs) Q E s := by
  obtain ⟨h, g, d, tk, os⟩ := s
  exact C A g d tk os Q E (hA.le hj) fun r h' tk' hk p => hQ r h' tk' (grow_fr F hk) (N.grown hk) hk p

theorem enterB {w : World} {k : Nat} {mg mb : Str → Option Value} {h : Heap} {f c : Addr} {vs : List Value} {Post : Value → Heap → Prop} {name : Str} {params : Arguments} {body : List Stmt} {scope : Scope} {dV pm : Value} {PB : List (Str × Value) → Heap → Prop}
    (G : Gd w mg mb h) (ho : (KM w.params).lookup f = some ⟨.type "function", none, .func (fnOf name name params body scope dV .none .none pm none (.ref c) .none), #[]⟩) (hc : codeIn (KM w.params) (.ref c) name = true)
    (hbind : ∀ fd, fd = fnOf name name params body scope dV .none .none pm none (.ref c) .none → ∀ (A : Around) (g : Array GenState) (d : Drawn) (tk : Nat) (os : OsState) (E : Value → Shared → Prop) (Q : List (Str × Value) → Shared → Prop),
      (∀ binds h', h.StaysIn h' → PB binds h' → Q binds ⟨h', g, d, tk, os⟩) → wpAny (model RP w) A (bindArgs fd ⟨vs, []⟩) Q E ⟨h, g, d, tk, os⟩)
    (hloc : ∀ binds h', PB binds h' → (binds.all fun x => decide (scope.names.lookup x.1 = some .local)) = true)
    (hx : ∀ (A : Around) (g : Array GenState) (d : Drawn) (tk : Nat) (os : OsState) (R : Value → Shared → Prop) (L : Addr) (hb h₁ : Heap) (binds : List (Str × Value)), Fits k A → (∀ r h' tk', h.StaysIn h' → Post r h' → R r ⟨h', g, d, tk', os⟩) →
      h.StaysIn hb → Gd w mg mb hb → PB binds hb → Fr hb L h₁ (fun x => binds.reverse.lookup x) → News hb L h₁ [] →
      wpAny (model RP w) A (execs body (envOf name scope L f (.ref c))) (fun fl s' => R (match fl with | .ret v => v | _ => .none) s') (fun _ _ => False) ⟨h₁, g, d, tk, os⟩)
    (hco : scope.isCoroutine = false := by rfl) (hgen : scope.isGenerator = false := by rfl) (hk : scope.kind = .function := by rfl) (hcell : ∀ x ∈ scope.names, x.2 ≠ .cell := by decide) :
    Con w (k + 1) (.ref f) vs h Post := by
  intro A g d tk os Q E hA hret
  refine wpAny_call ?_
  refine codeAny_call_function (fd := fnOf name name params body scope dV .none .none pm none (.ref c) .none) hA.room (G.K _ _ ho) rfl hco hgen rfl (codeRec_of G.K hc) ?_
  refine hbind _ rfl _ _ _ _ _ _ _ fun binds hb hkb pb => ?_
  have Gb := G.keeps hkb
  refine wpAny_newFunctionEnv hcell (locs (hloc _ _ pb)) (fun h₁ hns hsb => ⟨Gb.T.nolimit.fresh _ hsb, ?_⟩) hk
  show codeAny _ _ (.func body (envOf name scope hb.objs.size f (.ref c))) _ _
  have F : Fr hb hb.objs.size h₁ (fun x => binds.reverse.lookup x) := ⟨hns, fun b o e => hsb.extBut b o (Nat.ne_of_lt (Heap.lt_size e)) (Heap.get?_push_of_some _ e), Nat.le_refl _⟩
  exact codeAny_func (wpAny_mono (hx (A.deeper _) g d _ os Q _ hb h₁ binds (hA.deeper _) hret hkb Gb pb F News.nil) (fun _ _ x => x) fun _ _ x => x.elim)

/-- the same for plain positional arguments -/
theorem enter {w : World} {k : Nat} {mg mb : Str → Option Value} {h : Heap} {f c : Addr} {vs : List Value} {Post : Value → Heap → Prop} {name : Str} {params : Arguments} {body : List Stmt} {scope : Scope} {pm : Value} {binds : List (Str × Value)}
    (G : Gd w mg mb h) (ho : (KM w.params).lookup f = some ⟨.type "function", none, .func (fnOf name name params body scope .none .none .none pm none (.ref c) .none), #[]⟩) (hc : codeIn (KM w.params) (.ref c) name = true)
    (hbind : ∀ fd, fd = fnOf name name params body scope .none .none .none pm none (.ref c) .none → bindArgs fd ⟨vs, []⟩ = pure binds) (hloc : (binds.all fun x => decide (scope.names.lookup x.1 = some .local)) = true)
    (hx : ∀ (A : Around) (g : Array GenState) (d : Drawn) (tk : Nat) (os : OsState) (R : Value → Shared → Prop) (L : Addr) (h₁ : Heap), Fits k A → (∀ r h' tk', h.StaysIn h' → Post r h' → R r ⟨h', g, d, tk', os⟩) →
      Fr h L h₁ (fun x => binds.reverse.lookup x) → News h L h₁ [] →
      wpAny (model RP w) A (execs body (envOf name scope L f (.ref c))) (fun fl s' => R (match fl with | .ret v => v | _ => .none) s') (fun _ _ => False) ⟨h₁, g, d, tk, os⟩)
    (hco : scope.isCoroutine = false := by rfl) (hgen : scope.isGenerator = false := by rfl) (hk : scope.kind = .function := by rfl) (hcell : ∀ x ∈ scope.names, x.2 ≠ .cell := by decide) :
    Con w (k + 1) (.ref f) vs h Post := by
  refine enterB (PB := fun b h' => b = binds ∧ h' = h) G ho hc (fun fd e A g d tk os E Q q => ?_) (fun b h' e => by rw [e.1]; exact hloc) (fun A g d tk os R L hb h₁ b hA hret _ _ e F N => ?_) hco hgen hk hcell
  · rw [hbind fd e]
    exact wpAny_pure (q _ _ (fun _ _ x => x) ⟨rfl, rfl⟩)
  · obtain ⟨rfl, rfl⟩ := e
    exact hx A g d tk os R L h₁ hA hret F N

noncomputable def AX : Around := { handled := none, depth := 500, frames := none, guards := none, units := 500 }
theorem wpAny_AX {α : Type} {M : Model} {A : Around} {t : Sem α} {Q : α → Shared → Prop} {E : Value → Shared → Prop} {s : Shared} {k : Nat} (f : Fits k A) (h : wpAny M AX t Q E s) : wpAny M A t Q E s :=
  fun Γ p hΓ => h Γ p ⟨hΓ.1.trans f.handled, Nat.le_trans hΓ.2.1 (Nat.le_trans (Nat.le_add_right _ _) f.depth), (fun _ h => by cases h), (fun _ h => by cases h), Nat.le_trans hΓ.2.2.2.2 (Nat.le_trans (Nat.le_add_right _ _) f.units)⟩
theorem mem_stays {h₀ h : Heap} {news : List (Addr × Obj)} (D : Mem h₀ h [] news) : h₀.StaysIn h := fun b o e => D.keep b o e (by rw [show away [] b = true from rfl, Bool.or_true])

end
section
open PySem PySem.W PySem.W.X PyProof.Rows PySem.Calls
theorem fill18 (P : Params) (h : Heap) : PySem.Challenge.rw_ik0057_01 = PySem.Challenge.rw_ik0057_01 → (KM P).In h → (KM P).In h := by
  k_fill
  intro _ X
  exact X
theorem ent124 (P : Params) : (KM P).lookup 124 = some ⟨.type "function", none, .func (fnOf (Str.ofString "fspath") (Str.ofString "fspath") (dParams (stAt 16)) (dBody (stAt 16)) (dScope (stAt 16)) .none .none .none (.str (Str.ofString "os") 329) none (.ref 123) .none), #[]⟩ := by kernel_rfl
theorem ent138 (P : Params) : (KM P).lookup 138 = some ⟨.type "function", none, .func (fnOf (Str.ofString "_get_sep") (Str.ofString "_get_sep") (dParams (stAt 20)) (dBody (stAt 20)) (dScope (stAt 20)) .none .none .none (.str (Str.ofString "cpy313.posixpath") 354) none (.ref 137) .none), #[]⟩ := by kernel_rfl
theorem c_getsep {w : World} {mg mb : Str → Option Value} {h : Heap} (G : Gd w mg mb h) (x : Str) (t : Tok) : Con w 1 (.ref 138) [.str x t] h (fun r _ => ∃ t', r = .str (Str.ofString "/") t') := by
  refine enter G (ent138 _) (by kernel_rfl) (binds := [(Str.ofString "path", .str x t)]) ?_ (by kernel_rfl) ?_
  · rintro _ rfl
    with_unfolding_all rfl
  · intro A g d tk os R L h₁ hA hret F N
    conv => arg 3; arg 1; whnf
    have T := G.T
    have X := G.K
    k_steps
    exact hret _ _ _ (Fr.keep (by k_asm)) ⟨_, rfl⟩
theorem isn_plain : plainId "issubclass.nested" = true := by decide +kernel
theorem is_sub {D : Addr} : Meets (Builtin.«issubclass» ⟨[.type "str", .ref D], []⟩) (fun _ R s => s.heap.get? D = some { cls := .type "tuple", data := .seq #[.type "str", .type "bytes"] } ∧ R (.ok (.ret (.bool true))) s) := by
  rintro prog w A R ⟨h, g, d, t, os⟩ ⟨hD, hs⟩
  refine issubclass_outer ?_
  have L1 : Looks (model prog w) h (typeOf (.ref D)) (.type "tuple") := (Looks.ld hD).andThen .now
  delta Builtin.«issubclass.nested»
  k_node
  repeat (first | (with_reducible refine wpAny_call ?_) | lk | wp_step)
  refine codeAny_call_builtin isn_plain F.entry_issubclass_nested ?_
  refine wpAny_of_eq (a := ()) (by kernel_rfl) ?_
  show wpAny _ _ (Builtin.«issubclass.nested» ⟨[.type "str", .type "str", _], []⟩) _ _ _
  delta Builtin.«issubclass.nested»
  k_node
  repeat (first | exact hs | lk | wp_step)
theorem c_issub {w : World} {h : Heap} {D : Addr} (hD : h.get? D = some { cls := .type "tuple", data := .seq #[.type "str", .type "bytes"] }) : Con w 0 (.builtin "issubclass") [.type "str", .ref D] h (fun r _ => r = .bool true) :=
  fun A g d tk os Q E hA hret => call_issubclass is_sub ⟨hD, hret _ _ _ (fun _ _ e => e) rfl⟩
theorem c_fspath {w : World} {mg mb : Str → Option Value} {h : Heap} (G : Gd w mg mb h) (x : Str) (t : Tok) : Con w 1 (.ref 124) [.str x t] h (fun r _ => r = .str x t) := by
  refine enter G (ent124 _) (by kernel_rfl) (binds := [(Str.ofString "path", .str x t)]) ?_ (by kernel_rfl) ?_
  · rintro _ rfl
    with_unfolding_all rfl
  · intro A g d tk os R L h₁ hA hret F N
    conv => arg 3; arg 1; whnf
    have T := G.T
    have X := G.K
    k_steps
    refine Con.use (c_issub (News.get (by k_asm) (by k_mem))) hA (by decide) (by k_asm) (by k_asm) ?_
    intro r h' tk' F2 N2 _ e
    subst e
    dsimp only
    k_steps
    exact hret _ _ _ (Fr.keep (by k_asm)) rfl
end
section
open PySem PySem.W PySem.W.X PyProof.Rows
theorem fill1 (P : Params) (h : Heap) : PySem.Challenge.rw_ik0057_01 = PySem.Challenge.rw_ik0057_01 → (KM P).In h → (KM P).In h := by
  k_fill
  intro _ X
  exact X
theorem ent35 (P : Params) : (KM P).lookup 35 = some ⟨.type "function", none, .func (fnOf (Str.ofString "three_way_cmp") (Str.ofString "three_way_cmp") (dParams (stAt 3)) (dBody (stAt 3)) (dScope (stAt 3)) .none .none .none (.str (Str.ofString "cpy313.unittest.util") 194) none (.ref 34) .none), #[]⟩ := by kernel_rfl
theorem ent176 (P : Params) : (KM P).lookup 176 = some ⟨.type "function", none, .func (fnOf (Str.ofString "_law_compared") (Str.ofString "_law_compared") (dParams (stAt 27)) (dBody (stAt 27)) (dScope (stAt 27)) .none .none .none (.str (Str.ofString "law_ik0057_01") 398) none (.ref 175) .none), #[]⟩ := by kernel_rfl

theorem c_three {w : World} {mg mb : Str → Option Value} {h : Heap} (G : Gd w mg mb h) {l b : Addr} {vs us : List Value} {xs ys : List Str} {n n2 : Nat}
   (hl : h.get? l = some { cls := .type "list", dict := none, data := .seq vs.toArray n, slots := #[] }) (hb : h.get? b = some { cls := .type "list", dict := none, data := .seq us.toArray n2, slots := #[] })
    (hx : StrsAre vs xs) (hy : StrsAre us ys) : Con w 1 (.ref 35) [.ref l, .ref b] h (fun r _ => ∃ t, r = .int (b2i (ltR ys xs) - b2i (ltR xs ys)) t) := by
  refine enter G (ent35 _) (by kernel_rfl) (binds := [(Str.ofString "x", .ref l), (Str.ofString "y", .ref b)]) ?_ (by kernel_rfl) ?_
  · rintro _ rfl
    with_unfolding_all rfl
  · intro A g d tk os R L h₁ hA hret F N
    conv => arg 3; arg 1; whnf
    have T := G.T
    have X := G.K
    k_steps
    refine cmp_gt_rows (F.keep _ _ hl) (F.keep _ _ hb) hx hy hA.cl ?_
    try dsimp only
    k_steps
    refine cmp_lt_rows (F.keep _ _ hl) (F.keep _ _ hb) hx hy hA.cl ?_
    try dsimp only
    k_steps
    exact hret _ _ _ F.keep ⟨_, rfl⟩

/-- what three_way_cmp says of two texts' parts -/
noncomputable def cmpP (x y : Str) : Int := b2i (ltR (Txt.split y (Str.ofString "/")) (Txt.split x (Str.ofString "/"))) - b2i (ltR (Txt.split x (Str.ofString "/")) (Txt.split y (Str.ofString "/")))
set_option hygiene false in
local macro_rules | `(tactic| walk_at "call builtin:str.split") => `(tactic| ((with_reducible show wpAny _ _ (call (Value.builtin "str.split") [Value.str _ _, Value.str _ _]) _ _ _); refine KSpl.split1 (by assumption) (by assumption) (by decide) ?_ (by assumption); intro D' l' h' k' e' a' F' N' l1'; rw [e'] at a'; clear e'; (try dsimp only)))
theorem c_compared {w : World} {mg mb : Str → Option Value} {h : Heap} (G : Gd w mg mb h) (x y : Str) (t u : Tok) (hsx : x.length + 2 ≤ sizeLine) (hsy : y.length + 2 ≤ sizeLine) :
   Con w 2 (.ref 176) [.str x t, .str y u] h (fun r _ => ∃ t, r = .int (cmpP x y) t) := by
  refine enter G (ent176 _) (by kernel_rfl) (binds := [(Str.ofString "a", .str x t), (Str.ofString "b", .str y u)]) ?_ (by kernel_rfl) ?_
  · rintro _ rfl
    with_unfolding_all rfl
  · intro A g d tk os R L h₁ hA hret F N
    conv => arg 3; arg 1; whnf
    have T := G.T
    have X := G.K
    k_steps
    refine Con.use (c_three (G.keeps (Fr.keep F')) (News.get N' (by k_mem)) (News.get N' (by k_mem)) (by assumption) (by assumption)) hA (by decide) F' N' ?_
    rintro r h' tk' F N - ⟨t, rfl⟩
    exact hret _ _ _ F.keep ⟨_, rfl⟩
end
section
open PySem PySem.W PySem.W.X PyProof.Rows
/-- entering a def whose locals are captured by a comprehension -/
theorem enterC {w : World} {k : Nat} {mg mb : Str → Option Value} {h : Heap} {f c : Addr} {vs : List Value} {Post : Value → Heap → Prop} {name : Str} {params : Arguments} {body : List Stmt} {scope : Scope} {pm : Value} {binds : List (Str × Value)}
    (G : Gd w mg mb h) (ho : (KM w.params).lookup f = some ⟨.type "function", none, .func (fnOf name name params body scope .none .none .none pm none (.ref c) .none), #[]⟩) (hc : codeIn (KM w.params) (.ref c) name = true)
    (hbind : ∀ fd, fd = fnOf name name params body scope .none .none .none pm none (.ref c) .none → bindArgs fd ⟨vs, []⟩ = pure binds)
    (hkind : (binds.all fun y => scope.names.lookup y.1 == some .local || scope.names.lookup y.1 == some .cell) = true)
    (hnd : ((cellsFrom 0 scope.names []).map (·.1)).Nodup)
    (hx : ∀ (A : Around) (g : Array GenState) (d : Drawn) (tk : Nat) (os : OsState) (R : Value → Shared → Prop) (L : Addr) (h₁ : Heap) (cells : List (Addr × Obj)), Fits k A → (∀ r h' tk', h.StaysIn h' → Post r h' → R r ⟨h', g, d, tk', os⟩) →
      Fr h L h₁ (bindL (envOfC name scope L f (.ref c)).kindOf binds fun _ => none) → News h L h₁ cells → CellsAre (bindC (envOfC name scope L f (.ref c)).kindOf binds fun _ => none) (cellsFrom (L + 1) scope.names []) cells →
      wpAny (model RP w) A (execs body (envOfC name scope L f (.ref c))) (fun fl s' => R (match fl with | .ret v => v | _ => .none) s') (fun _ _ => False) ⟨h₁, g, d, tk, os⟩)
    (hco : scope.isCoroutine = false := by rfl) (hgen : scope.isGenerator = false := by rfl) (hk : scope.kind = .function := by rfl) :
    Con w (k + 1) (.ref f) vs h Post := by
  intro A g d tk os Q E hA hret
  refine wpAny_call ?_
  refine codeAny_call_function (fd := fnOf name name params body scope .none .none .none pm none (.ref c) .none) hA.room (G.K _ _ ho) rfl hco hgen rfl (codeRec_of G.K hc) ?_
  rw [hbind _ rfl]
  refine wpAny_pure ?_
  refine wpAny_newFunctionEnv_cells hk (kindsX hkind _) fun env' he s' x => ?_
  subst he
  refine ⟨G.T.nolimit.keeps x.toInCall.keep, codeAny_func ?_⟩
  obtain ⟨h₁, tk, rfl, _⟩ := x.done
  have hk₁ := x.toInCall.keep
  obtain ⟨cells, NC, Y⟩ := Cl.news (h₀ := h) (Nat.le_refl _) fun n c hm => ⟨x.cell n c (lookup_of_mem_nodup (cellsFrom_names scope.names 0 (h.objs.size + 1) [] [] rfl ▸ hnd) hm), x.above n c hm⟩
  refine wpAny_mono (hx (A.deeper _) g d tk os Q h.objs.size h₁ cells (hA.deeper _) hret ⟨x.toInCall.ns, fun b o e => hk₁ b o e, Nat.le_refl _⟩ NC Y) (fun _ _ x => x) fun _ _ x => x.elim
end
section
open PySem PySem.W PySem.W.X PyProof.Rows
/-- a turn's end -/
noncomputable def Turn (h₀ : Heap) (L I : Addr) (oI : Obj) (s : Shared) (J : (Str → Option Value) → List (Addr × Obj) → Prop) (f : Flow) (s' : Shared) : Prop :=
  (f = .next ∨ f = .cont) ∧ ∃ h' tk' m' news', s' = { s with heap := h', toks := tk' } ∧ Fr h₀ L h' m' ∧ News h₀ L h' ((I, oI) :: news') ∧ J m' news' ∧ ∀ p ∈ news', p.1 ≠ I
theorem Turn.next {h₀ : Heap} {L I : Addr} {oI : Obj} {s : Shared} {J : (Str → Option Value) → List (Addr × Obj) → Prop} {h' : Heap} {tk' : Nat} {m' : Str → Option Value} {all : List (Addr × Obj)} (F : Fr h₀ L h' m') (N : News h₀ L h' all) (news' : List (Addr × Obj)) (sub : ∀ p ∈ (I, oI) :: news', p ∈ all) (off : ∀ p ∈ news', p.1 ≠ I) (j : J m' news') : Turn h₀ L I oI s J .next { s with heap := h', toks := tk' } :=
  ⟨.inl rfl, h', tk', m', news', rfl, F, fun p hp => N p (sub p hp), j, off⟩
theorem Turn.cont {h₀ : Heap} {L I : Addr} {oI : Obj} {s : Shared} {J : (Str → Option Value) → List (Addr × Obj) → Prop} {h' : Heap} {tk' : Nat} {m' : Str → Option Value} {all : List (Addr × Obj)} (F : Fr h₀ L h' m') (N : News h₀ L h' all) (news' : List (Addr × Obj)) (sub : ∀ p ∈ (I, oI) :: news', p ∈ all) (off : ∀ p ∈ news', p.1 ≠ I) (j : J m' news') : Turn h₀ L I oI s J .cont { s with heap := h', toks := tk' } :=
  ⟨.inr rfl, h', tk', m', news', rfl, F, fun p hp => N p (sub p hp), j, off⟩
/-- what a loop keeps, by the steps that are left -/
noncomputable def LoopI (Inv : Nat → (Str → Option Value) → List (Addr × Obj) → Prop) (St : Nat → Heap → Prop) (h₀ : Heap) (L I : Addr) (n : Nat) (s : Shared) (k : Nat) (s' : Shared) : Prop :=
  ∃ h' tk i m' news', s' = { s with heap := h', toks := tk } ∧ i ≤ n ∧ k = n + 1 - i ∧ St i h' ∧ Fr h₀ L h' m' ∧ News h₀ L h' news' ∧ Inv i m' news' ∧ ∀ p ∈ news', p.1 ≠ I
theorem LoopI.mk {Inv : Nat → (Str → Option Value) → List (Addr × Obj) → Prop} {St : Nat → Heap → Prop} {h₀ h' : Heap} {L I : Addr} {n tk i : Nat} {s : Shared} {m' : Str → Option Value} {news' : List (Addr × Obj)} (a : i ≤ n) (b : St i h') (c : Fr h₀ L h' m') (d : News h₀ L h' news') (e : Inv i m' news') (f : ∀ p ∈ news', p.1 ≠ I) :
    LoopI Inv St h₀ L I n s (n + 1 - i) { s with heap := h', toks := tk } := ⟨h', tk, i, m', news', rfl, a, rfl, b, c, d, e, f⟩
theorem LoopI.elim {Inv : Nat → (Str → Option Value) → List (Addr × Obj) → Prop} {St : Nat → Heap → Prop} {h₀ : Heap} {L I : Addr} {n k : Nat} {s s' : Shared} (x : LoopI Inv St h₀ L I n s k s') {G : Nat → Shared → Prop}
    (q : ∀ h' tk i m' news', i ≤ n → St i h' → Fr h₀ L h' m' → News h₀ L h' news' → Inv i m' news' → (∀ p ∈ news', p.1 ≠ I) → G (n + 1 - i) { s with heap := h', toks := tk }) : G k s' := by
  obtain ⟨h', tk, i, m', news', rfl, a, rfl, b, c, d, e, f⟩ := x
  exact q h' tk i m' news' a b c d e f
theorem Turn.elim {h₀ : Heap} {L I : Addr} {oI : Obj} {s s' : Shared} {P : (Str → Option Value) → List (Addr × Obj) → Prop} {f : Flow} (x : Turn h₀ L I oI s P f s') {G : Flow → Shared → Prop}
    (q : ∀ f h' tk m' news', f = .next ∨ f = .cont → Fr h₀ L h' m' → News h₀ L h' ((I, oI) :: news') → P m' news' → (∀ p ∈ news', p.1 ≠ I) → G f { s with heap := h', toks := tk }) : G f s' := by
  obtain ⟨hf, h₄, tk₄, m₄, news₄, rfl, F₄, N₄, hI₄, off₄⟩ := x
  exact q f h₄ tk₄ m₄ news₄ hf F₄ N₄ hI₄ off₄
/-- a for loop by an invariant over the turn, the locals and the ledger -/
theorem loop_inv {prog : Program} {w : World} {A : Around} {x : Str} {px : Pos} {body : List Stmt} {env : Env} {I : Addr} {fp : List Addr} {n : Nat} {P : Nat → Value → Prop} {St : Nat → Heap → Prop} {h₀ : Heap} {m : Str → Option Value} {news : List (Addr × Obj)} {s : Shared} {R : Result → Shared → Prop}
    (Inv : Nat → (Str → Option Value) → List (Addr × Obj) → Prop) (S : List (Addr × Obj) → Prop) (hS : ∀ i m news, Inv i m news → S news)
    (W : Walks prog w A I fp [I] n P St) (hIo : ∀ i h, St i h → ∃ o, h.get? I = some o)
    (hSt : ∀ i h h' o nw, St i h → h.get? I = some o → h'.get? I = some o → (∀ b o, h₀.get? b = some o → h'.get? b = some o) → News h₀ env.locals h' nw → S nw → St i h')
    (hx : env.kindOf x = some .local) (hp : (env.scope.kind == .class || (env.scope.kind == .module && env.locals != env.globals)) = false)
    (hst : St 0 s.heap) (F : Fr h₀ env.locals s.heap m) (N : News h₀ env.locals s.heap news) (hIL : env.locals ≠ I) (hI₀ : h₀.get? I = none) (off : ∀ p ∈ news, p.1 ≠ I) (h0 : Inv 0 m news)
    (turn : ∀ i v m news oI h tk (E' : Value → Shared → Prop), i < n → P i v → Inv i m news → Fr h₀ env.locals h (fun y => if y = x then some v else m y) → News h₀ env.locals h ((I, oI) :: news) → (∀ p ∈ news, p.1 ≠ I) →
      wpAny (model prog w) A (execs body env) (Turn h₀ env.locals I oI { s with heap := h, toks := tk } (Inv (i + 1))) E' { s with heap := h, toks := tk })
    (fin : ∀ m news h tk, Inv n m news → Fr h₀ env.locals h m → News h₀ env.locals h news → R (.ok .next) { s with heap := h, toks := tk }) :
    codeAny (model prog w) A (.forLoop (.Name x px) (.ref I) body [] env) R s := by
  refine codeAny_forLoop (LoopI Inv St h₀ env.locals I n s) ?_ (n + 1) (LoopI.mk (i := 0) (tk := s.toks) (Nat.zero_le _) hst F N h0 off)
  intro k s' hq1
  apply LoopI.elim hq1
  clear hq1
  intro h' tk i m' news' hi hst' F' N' hI offI
  by_cases hlt : i < n
  · refine W.item i _ _ _ hlt hst' fun v h₂ tk₂ hPv hst₂ hk₂ => ?_
    have F₂ : Fr h₀ env.locals h₂ m' := LCg.fr_but F' hk₂ hIL hI₀
    have N₂ := LCg.news_but N' hk₂ offI
    refine wpAny_assign_Name (wpAny_storeName_local hx F₂.ns (fun h₃ hn₃ hs₃ => ?_) hp)
    have hL₀ : h₀.get? env.locals = none := Heap.get?_none_of_le F'.above
    have hst₃ : St (i + 1) h₃ := by
      obtain ⟨o, e⟩ := hIo _ _ hst₂
      exact hSt _ _ _ o news' hst₂ e ((hs₃.2 I (Ne.symm hIL)).trans e) (fun b o e => (hs₃.2 b fun q => by rw [q, hL₀] at e; cases e).trans (F₂.keep b o e)) (fun p hp => ⟨(hs₃.2 _ (N₂ p hp).2.1).trans (N₂ p hp).1, (N₂ p hp).2⟩) (hS _ _ _ hI)
    obtain ⟨oI, eI⟩ := hIo _ _ hst₃
    have F₃ : Fr h₀ env.locals h₃ (fun y => if y = x then some v else m' y) := ⟨hn₃, fun b o e => (hs₃.2 b fun q => by rw [q, hL₀] at e; cases e).trans (F₂.keep b o e), F'.above⟩
    have N₃ : News h₀ env.locals h₃ ((I, oI) :: news') := fun p hp => by
      rcases List.mem_cons.mp hp with rfl | hp
      · exact ⟨eI, Ne.symm hIL, hI₀⟩
      · exact ⟨(hs₃.2 _ (N₂ p hp).2.1).trans (N₂ p hp).1, (N₂ p hp).2⟩
    refine wpAny_mono (turn i v m' news' oI h₃ _ _ hlt hPv hI F₃ N₃ offI) (fun f s₄ hq => ?_) fun _ _ e => e
    apply Turn.elim hq
    clear hq
    intro f h₄ tk₄ m₄ news₄ hf F₄ N₄ hI₄ off₄
    have z : ∃ mm, mm < n + 1 - i ∧ LoopI Inv St h₀ env.locals I n s mm { s with heap := h₄, toks := tk₄ } :=
      ⟨n + 1 - (i + 1), Nat.sub_lt_sub_left (Nat.lt_succ_of_lt hlt) (Nat.lt_succ_self i), LoopI.mk hlt (hSt _ _ _ oI news₄ hst₃ eI (N₄ _ (.head _)).1 F₄.keep (fun p hp => N₄ p (.tail _ hp)) (hS _ _ _ hI₄)) F₄ (fun p hp => N₄ p (.tail _ hp)) hI₄ off₄⟩
    rcases hf with rfl | rfl <;> exact z
  · obtain rfl : i = n := Nat.le_antisymm hi (Nat.not_lt.mp hlt)
    refine W.done _ _ _ hst' fun h₂ tk₂ hk₂ => ?_
    exact wpAny_execs_nil (fin m' news' h₂ tk₂ hI (LCg.fr_but F' hk₂ hIL hI₀) (LCg.news_but N' hk₂ offI))
theorem for_tup {prog : Program} {w : World} {A : Around} {E : Value → Shared → Prop} {x : Str} {px pos : Pos} {iter : Expr} {body : List Stmt} {env : Env} {p : Addr} {items : Array Value} {h₀ : Heap} {m : Str → Option Value} {news : List (Addr × Obj)} {s : Shared} {Q : Flow → Shared → Prop}
    (hh : A.handled = none) (Inv : Nat → (Str → Option Value) → List (Addr × Obj) → Prop) (hev : ∀ {Q' : Value → Shared → Prop}, Q' (.ref p) s → wpAny (model prog w) A (eval iter env) Q' E s) (ht : h₀.IsTuple p items)
    (hx : env.kindOf x = some .local) (hp : (env.scope.kind == .class || (env.scope.kind == .module && env.locals != env.globals)) = false)
    (F : Fr h₀ env.locals s.heap m) (N : News h₀ env.locals s.heap news) (h0 : Inv 0 m news)
    (turn : ∀ i v m news I oI h tk (E' : Value → Shared → Prop), items[i]? = some v → Inv i m news → Fr h₀ env.locals h (fun y => if y = x then some v else m y) → News h₀ env.locals h ((I, oI) :: news) → (∀ p ∈ news, p.1 ≠ I) →
      wpAny (model prog w) A (execs body env) (Turn h₀ env.locals I oI { s with heap := h, toks := tk } (Inv (i + 1))) E' { s with heap := h, toks := tk })
    (fin : ∀ m news h tk, Inv items.size m news → Fr h₀ env.locals h m → News h₀ env.locals h news → Q .next { s with heap := h, toks := tk })
    (hs : ∀ x, foldedSetIterable iter env x = pure x := by intro _; rfl) :
    wpAny (model prog w) A (exec (.For (.Name x px) iter body [] pos) env) Q E s := by
  refine wpAny_For (hev ?_) hs
  have hT : s.heap.IsTuple p items := ht.at fun o e => F.keep _ _ e
  refine wpAny_pyIter_tuple hT ?_
  have hlt : p < s.heap.objs.size := by obtain ⟨o, e, _⟩ := hT; exact Heap.lt_size e
  have up : ∀ b o, s.heap.get? b = some o → (s.heap.push { cls := .type "tuple_iterator", data := .fields #[.ref p, .int 0 0] }).get? b = some o := fun b o e => Heap.get?_push_of_some _ e
  refine loop_inv (s := { s with heap := s.heap.push { cls := .type "tuple_iterator", data := .fields #[.ref p, .int 0 0] } }) Inv (fun _ => True) (fun _ _ _ _ => trivial) (Walks.tuple hh s.heap.objs.size p (Nat.ne_of_lt hlt) items) (fun i h st => by obtain ⟨o, e, _⟩ := st.1; exact ⟨o, e⟩)
    (fun i h h' o nw st e e' k _ _ => ⟨by obtain ⟨o', q, r⟩ := st.1; rw [e] at q; cases q; exact ⟨o, e', r⟩, ht.at fun o e => k _ _ e⟩) hx hp
    ⟨⟨_, Heap.get?_push_size _ rfl, rfl, rfl⟩, hT.at fun o e => up _ _ e⟩ (F.keeps up) (N.grown up) (Nat.ne_of_lt F.ns.lt) (Heap.get?_none_of_le (Nat.le_trans F.above (Nat.le_of_lt F.ns.lt))) (fun p hp => Nat.ne_of_lt (Heap.lt_size (N p hp).1)) h0 ?_ ?_
  · intro i v m news oI h tk E' hi hv hI F' N' of'
    exact turn i v m news _ oI h tk E' hv hI F' N' of'
  · intro m news h tk hI F' N'
    exact fin m news h tk hI F' N'
/-- a for statement over a list, of the base or of the ledger -/
theorem for_list {prog : Program} {w : World} {A : Around} {E : Value → Shared → Prop} {x : Str} {px pos : Pos} {iter : Expr} {body : List Stmt} {env : Env} {p : Addr} {items : Array Value} {h₀ : Heap} {m : Str → Option Value} {news : List (Addr × Obj)} {s : Shared} {Q : Flow → Shared → Prop}
    (hh : A.handled = none) (Inv : Nat → (Str → Option Value) → List (Addr × Obj) → Prop) (hS : ∀ i m news, Inv i m news → LCg.SrcAt h₀ p items news) (hev : ∀ {Q' : Value → Shared → Prop}, Q' (.ref p) s → wpAny (model prog w) A (eval iter env) Q' E s)
    (hx : env.kindOf x = some .local) (hp : (env.scope.kind == .class || (env.scope.kind == .module && env.locals != env.globals)) = false)
    (F : Fr h₀ env.locals s.heap m) (N : News h₀ env.locals s.heap news) (h0 : Inv 0 m news)
    (turn : ∀ i v m news I oI h tk (E' : Value → Shared → Prop), items[i]? = some v → Inv i m news → Fr h₀ env.locals h (fun y => if y = x then some v else m y) → News h₀ env.locals h ((I, oI) :: news) → (∀ p ∈ news, p.1 ≠ I) →
      wpAny (model prog w) A (execs body env) (Turn h₀ env.locals I oI { s with heap := h, toks := tk } (Inv (i + 1))) E' { s with heap := h, toks := tk })
    (fin : ∀ m news h tk, Inv items.size m news → Fr h₀ env.locals h m → News h₀ env.locals h news → Q .next { s with heap := h, toks := tk })
    (hs : ∀ x, foldedSetIterable iter env x = pure x := by intro _; rfl) :
    wpAny (model prog w) A (exec (.For (.Name x px) iter body [] pos) env) Q E s := by
  refine wpAny_For (hev ?_) hs
  have hT : s.heap.IsList p items := (hS _ _ _ h0).list F.keep N
  refine wpAny_pyIter_list hT ?_
  have hlt : p < s.heap.objs.size := by obtain ⟨o, e, _⟩ := hT; exact Heap.lt_size e
  have up : ∀ b o, s.heap.get? b = some o → (s.heap.push { cls := .type "list_iterator", data := .fields #[.ref p, .int 0 0] }).get? b = some o := fun b o e => Heap.get?_push_of_some _ e
  refine loop_inv (s := { s with heap := s.heap.push { cls := .type "list_iterator", data := .fields #[.ref p, .int 0 0] } }) Inv (LCg.SrcAt h₀ p items) hS (Walks.list hh s.heap.objs.size p (Nat.ne_of_lt hlt) items) (fun i h st => by obtain ⟨o, e, _⟩ := st.1; exact ⟨o, e⟩)
    LCg.list_st hx hp
    ⟨⟨_, Heap.get?_push_size _ rfl, rfl, rfl⟩, hT.push _⟩ (F.keeps up) (N.grown up) (Nat.ne_of_lt F.ns.lt) (Heap.get?_none_of_le (Nat.le_trans F.above (Nat.le_of_lt F.ns.lt))) (fun p hp => Nat.ne_of_lt (Heap.lt_size (N p hp).1)) h0 ?_ ?_
  · intro i v m news oI h tk E' hi hv hI F' N' of'
    exact turn i v m news _ oI h tk E' hv hI F' N' of'
  · intro m news h tk hI F' N'
    exact fin m news h tk hI F' N'
/-- a for statement over a list's iterator that stands in the ledger -/
theorem for_it {prog : Program} {w : World} {A : Around} {E : Value → Shared → Prop} {x : Str} {px pos : Pos} {iter : Expr} {body : List Stmt} {env : Env} {I p : Addr} {items : Array Value} {h₀ : Heap} {m : Str → Option Value} {news : List (Addr × Obj)} {s : Shared} {Q : Flow → Shared → Prop}
    (hh : A.handled = none) (Inv : Nat → (Str → Option Value) → List (Addr × Obj) → Prop) (hS : ∀ i m news, Inv i m news → LCg.SrcAt h₀ p items news) (hev : ∀ {Q' : Value → Shared → Prop}, Q' (.ref I) s → wpAny (model prog w) A (eval iter env) Q' E s)
    (hx : env.kindOf x = some .local) (hp : (env.scope.kind == .class || (env.scope.kind == .module && env.locals != env.globals)) = false)
    (F : Fr h₀ env.locals s.heap m) (hit : s.heap.IsListIter I p 0) (hIL : I ≠ env.locals) (hI0 : h₀.get? I = none) (hIp : p ≠ I) (N : News h₀ env.locals s.heap news) (off : ∀ p ∈ news, p.1 ≠ I) (h0 : Inv 0 m news)
    (turn : ∀ i v m news oI h tk (E' : Value → Shared → Prop), items[i]? = some v → Inv i m news → Fr h₀ env.locals h (fun y => if y = x then some v else m y) → News h₀ env.locals h ((I, oI) :: news) → (∀ p ∈ news, p.1 ≠ I) →
      wpAny (model prog w) A (execs body env) (Turn h₀ env.locals I oI { s with heap := h, toks := tk } (Inv (i + 1))) E' { s with heap := h, toks := tk })
    (fin : ∀ m news h tk, Inv items.size m news → Fr h₀ env.locals h m → News h₀ env.locals h news → Q .next { s with heap := h, toks := tk })
    (hs : ∀ x, foldedSetIterable iter env x = pure x := by intro _; rfl) :
    wpAny (model prog w) A (exec (.For (.Name x px) iter body [] pos) env) Q E s := by
  refine wpAny_For (hev ?_) hs
  have hT : s.heap.IsList p items := (hS _ _ _ h0).list F.keep N
  refine wpAny_pyIter_listiter hit ?_
  refine loop_inv (s := s) Inv (LCg.SrcAt h₀ p items) hS (Walks.list hh I p hIp items) (fun i h st => by obtain ⟨o, e, _⟩ := st.1; exact ⟨o, e⟩)
    LCg.list_st hx hp ⟨hit, hT⟩ F N (Ne.symm hIL) hI0 off h0 ?_ ?_
  · intro i v m news oI h tk E' hi hv hI F' N' of'
    exact turn i v m news oI h tk E' hv hI F' N' of'
  · intro m news h tk hI F' N'
    exact fin m news h tk hI F' N'
/-- a contract whose answer is a new object -/
noncomputable def ConO (w : World) (k : Nat) (f : Value) (vs : List Value) (h : Heap) (P : Addr → Heap → Prop) : Prop := Con w k f vs h (fun r h' => ∃ a, r = .ref a ∧ h.get? a = none ∧ P a h')
theorem ConO.use {w : World} {k j : Nat} {f : Value} {vs : List Value} {h₀ : Heap} {P : Addr → Heap → Prop} {A : Around} {s : Shared} {L : Addr} {m : Str → Option Value} {news : List (Addr × Obj)} {Q E : Value → Shared → Prop}
    (C : ConO w j f vs s.heap P) (hA : Fits k A) (hj : j ≤ k) (F : Fr h₀ L s.heap m) (N : News h₀ L s.heap news)
    (hQ : ∀ a h' tk', Fr h₀ L h' m → (∀ o, h'.get? a = some o → News h₀ L h' ((a, o) :: news)) → (∀ p ∈ news, p.1 ≠ a) → P a h' → Q (.ref a) { s with heap := h', toks := tk' }) : wpAny (model RP w) A (call f vs) Q E s := by
  refine Con.use C hA hj F N ?_
  rintro r h' tk' F' N' - hq3
  refine hide fun G3 hG3 => ?_
  obtain ⟨a, rfl, hn, p⟩ := hq3
  refine hG3 ?_
  clear hG3
  refine hQ a h' tk' F' (fun o e q hq => ?_) (fun q hq e => ?_) p
  · rcases List.mem_cons.mp hq with rfl | hq
    · refine ⟨e, fun q => ?_, ?_⟩
      · refine hide fun G4 hG4 => ?_
        obtain ⟨o', _, _, ho, _⟩ := F.ns
        refine hG4 ?_
        clear hG4
        have q' : a = L := q
        rw [q', ho] at hn
        cases hn
      · cases e' : h₀.get? a with
        | none => rfl
        | some o' => rw [F.keep _ _ e'] at hn; cases hn
    · exact N' q hq
  · have z := (N q hq).1
    rw [e, hn] at z
    cases z
/-- a mark at which the walk stops -/
noncomputable def Here (P : Prop) : Prop := P
theorem here {P : Prop} (h : Here P) : P := h
theorem there {P : Prop} (h : P) : Here P := h
theorem fr_eqm {h₀ h : Heap} {L : Addr} {m m' : Str → Option Value} (F : Fr h₀ L h m) (e : ∀ z, m z = m' z) : Fr h₀ L h m' := by
  obtain rfl : m = m' := funext e
  exact F
/-- what a comprehension's loop keeps, by the turns that are left -/
noncomputable def CmpI (J : Nat → Heap → (Str → Option Value) → Prop) (size : Nat) (s : Shared) (n : Nat) (s' : Shared) : Prop := ∃ j h' tk m', s' = { s with heap := h', toks := tk } ∧ j ≤ size ∧ n = size - j ∧ J j h' m'
theorem CmpI.mk {J : Nat → Heap → (Str → Option Value) → Prop} {size j tk : Nat} {s : Shared} {h' : Heap} {m' : Str → Option Value} (a : j ≤ size) (b : J j h' m') : CmpI J size s (size - j) { s with heap := h', toks := tk } := ⟨j, h', tk, m', rfl, a, rfl, b⟩
theorem CmpI.elim {J : Nat → Heap → (Str → Option Value) → Prop} {size n : Nat} {s s' : Shared} (x : CmpI J size s n s') {G : Nat → Shared → Prop} (q : ∀ j h' tk m', j ≤ size → J j h' m' → G (size - j) { s with heap := h', toks := tk }) : G n s' := by
  obtain ⟨j, h', tk, m', rfl, a, rfl, b⟩ := x
  exact q j h' tk m' a b
end
section
open PySem PySem.W PySem.W.X PyProof.Rows
theorem fill2 (P : Params) (h : Heap) : PySem.Challenge.rw_ik0057_01 = PySem.Challenge.rw_ik0057_01 → (KM P).In h → (KM P).In h := by
  k_fill
  intro _ X
  exact X
theorem ent164 (P : Params) : (KM P).lookup 164 = some ⟨.type "function", none, .func (fnOf (Str.ofString "_law_row") (Str.ofString "_law_row") (dParams (stAt 25)) (dBody (stAt 25)) (dScope (stAt 25)) .none .none .none (.str (Str.ofString "law_ik0057_01") 398) none (.ref 163) .none), #[]⟩ := by kernel_rfl

/-- a stop for the walk -/
noncomputable def Halt (Q : Value → Shared → Prop) (y : Value) (s : Shared) : Prop := Q y s
theorem halt {M : Model} {A : Around} {S : Sem Value} {Q E : Value → Shared → Prop} {s : Shared} (h : wpAny M A S (Halt Q) E s) : wpAny M A S Q E s := wpAny_mono h (fun _ _ x => x) fun _ _ x => x

theorem rest_ind {prog : Program} {w : World} {A : Around} {h₀ : Heap} {L : Addr} {m : Str → Option Value} {env : Env} {elt : Expr} {x : Str} {scope : Scope} {cl : List (Str × Addr)} {s : Shared} {S : List (Addr × Obj) → Prop} {P : Nat → Value → Prop} {Fin : List Value → List (Addr × Obj) → Prop} {news : List (Addr × Obj)} {n : Nat}
    (Inv : Nat → List Value → List (Addr × Obj) → Prop) (base : Inv 0 [] news)
    (turn : ∀ i ys news v I oI C oC D m₂ h tk (E' : Value → Shared → Prop), i < n → Inv i ys news → P i v → LCg.NsObj oC m₂ → m₂ x = some v → Fr h₀ L h m → News h₀ L h ((I, oI) :: (C, oC) :: (D, LCg.lst ys) :: news) → LCg.Off3 I C D news → ((@Ne Nat I C) ∧ (@Ne Nat I D) ∧ (@Ne Nat C D)) →
      wpAny (model prog w) A (eval elt (compEnvC scope cl C env)) (Halt (LCg.CompEnd h₀ L m { s with heap := h, toks := tk } I oI C oC D (LCg.lst ys) S (fun y news' => Inv (i + 1) (ys ++ [y]) news'))) E' { s with heap := h, toks := tk })
    (fin : ∀ ys news, Inv n ys news → Fin ys news) : LCg.CompRest prog w A h₀ L m env elt x scope cl s S P Fin n 0 [] news := by
  have key : ∀ (j i : Nat) (ys : List Value) (news : List (Addr × Obj)), i + j = n → Inv i ys news → LCg.CompRest prog w A h₀ L m env elt x scope cl s S P Fin j i ys news := by
    intro j
    induction j with
    | zero =>
      intro i ys news hi hy
      obtain rfl : i = n := by omega
      exact LCg.CompRest.zero (fin ys news hy)
    | succ j ih =>
      intro i ys news hi hy
      refine LCg.CompRest.succ ?_
      intro v I oI C oC D m₂ h tk E' hv hC hx F N off ne
      refine wpAny_mono (halt (turn i ys news v I oI C oC D m₂ h tk E' (by omega) hy hv hC hx F N off ne)) (fun y s₂ hq => ?_) fun _ _ e => e
      refine hide fun G1 hG1 => ?_
      obtain ⟨h', tk', nw, e, F', N', off', hS, hn⟩ := hq
      refine hG1 ?_
      clear hG1
      exact ⟨h', tk', nw, e, F', N', off', hS, ih (i + 1) _ _ (by omega) hn⟩
  exact key n 0 [] news (by omega) base

theorem rangeKs_snoc (n : Nat) : rangeKs 0 (n + 1) = rangeKs 0 n ++ [(n : Int)] := by
  simp [rangeKs, List.range_succ]
theorem strs_snoc {y : Str} {t : Tok} : ∀ {vs : List Value} {ys : List Str}, StrsAre vs ys → StrsAre (vs ++ [.str y t]) (ys ++ [y]) := by
  intro vs xs x
  induction x with
  | nil => exact .cons y t .nil
  | cons z u r ih => exact .cons z u ih
noncomputable def nameOf (i : Int) : Str := if i = 0 then Str.ofString "a" else if i = 1 then Str.ofString "a-" else Str.ofString "b"
noncomputable def figOf (x k : Int) : Int := ((x.fdiv 12).fdiv (3 ^ k.toNat)).fmod 3
noncomputable def rowOf (x : Int) : List Str := (rangeKs 0 (x.fmod 4).toNat).map fun k => nameOf (figOf x k)

noncomputable def IsStrs (h : Heap) (a : Addr) (xs : List Str) : Prop := ∃ vs n, h.get? a = some { cls := .type "list", dict := none, data := .seq (vs : List Value).toArray n, slots := #[] } ∧ StrsAre vs xs
theorem IsStrs.keeps {h h' : Heap} {a : Addr} {xs : List Str} (x : IsStrs h a xs) (k : h.StaysIn h') : IsStrs h' a xs := let ⟨vs, n, e, s⟩ := x; ⟨vs, n, k _ _ e, s⟩

theorem strs_elim {h : Heap} {a : Addr} {xs : List Str} (x : IsStrs h a xs) {G : Prop} (k : ∀ us n, h.get? a = some { cls := .type "list", dict := none, data := .seq (us : List Value).toArray n, slots := #[] } → StrsAre us xs → G) : G := by
  refine hide fun G2 hG2 => ?_
  obtain ⟨us, n, e, s⟩ := x
  refine hG2 ?_
  clear hG2
  exact k us n e s
theorem small3 {y : Int} (h0 : 0 ≤ y) (h1 : y < 4) {i : Nat} (hi : i < y.toNat) : i = 0 ∨ i = 1 ∨ i = 2 := by omega
theorem c_row {w : World} {mg mb : Str → Option Value} {h : Heap} (G : Gd w mg mb h) (x : Int) (t : Tok) :
   ConO w 2 (.ref 164) [.int x t] h (fun a h' => IsStrs h' a (rowOf x)) := by
  refine enterC G (ent164 _) (by kernel_rfl) (binds := [(Str.ofString "x", .int x t)]) ?_ (by kernel_rfl) (by decide +kernel) ?_
  · rintro _ rfl
    with_unfolding_all rfl
  · intro A g d tk os R L h₁ cells hA hret F N Y
    conv => arg 3; arg 1; whnf
    have T := G.T
    have X := G.K
    k_cells Y
    have h4a : 0 ≤ x.fmod 4 := Int.fmod_nonneg_of_pos x (by decide)
    have h4b : x.fmod 4 < 4 := Int.fmod_lt_of_pos x (by decide)
    k_steps
    have hh := hA.handled
    refine LCg.CompSrc.range (n := (x.fmod 4).toNat) hh (by k_asm) (by k_asm) (by assumption) (small_one (by decide) (by decide) (Int.le_trans (by decide) h4a) (Int.lt_trans h4b (by decide))) (by rw [rangeSize_nat]; simp) (by rw [PySem.sizeLine_eq]; omega) ?_
    intro g'
    refine rest_ind (fun i ys news => news = [(L + 1, _)] ∧ StrsAre ys ((rangeKs 0 i).map fun k => nameOf (figOf x k))) ⟨rfl, .nil⟩ ?_ ?_
    · rintro i ys news v' I' oI' C' oC' D' m' h' tk' E' hi ⟨rfl, hys⟩ ⟨t', rfl⟩ hC' hx' F' N' off' ne'
      simp only [LCg.Off3, and_true] at off'
      have hk3 : i = 0 ∨ i = 1 ∨ i = 2 := small3 h4a h4b hi
      have e3 : ∀ p : Int, p = 3 ^ ((0 : Int) + i).toNat → p = 1 ∨ p = 3 ∨ p = 9 := by rintro p rfl; rcases hk3 with rfl | rfl | rfl <;> simp
      have off0 := off'
      k_steps
      generalize hpw : (3 : Int) ^ ((0 : Int) + i).toNat = pw
      have e3 := e3 pw hpw.symm
      refine floordiv_int (by clear hpw; rcases e3 with rfl | rfl | rfl <;> decide) ?_ (Or.inl (PyProof.noPylong_of_log2 (by rcases e3 with rfl | rfl | rfl <;> decide)))
      try dsimp only
      k_steps
      all_goals (
        unfold Halt
        refine LCg.CompEnd.intro (by assumption) (by assumption) [(L + 1, _)] (by lcg_sub) (by simpa [LCg.Off3] using off0) trivial ⟨rfl, ?_⟩
        rw [rangeKs_snoc, List.map_append]
        refine (congrArg (StrsAre _) ?_).mp (strs_snoc hys)
        congr 2
        rename (Int.fmod _ 3 = _) => kE
        have fE : figOf x i = ((x.fdiv 12).fdiv pw).fmod 3 := by rw [← hpw, Int.zero_add]; rfl
        show _ = nameOf (figOf x i)
        rw [fE]
        rw [kE]
        rfl)
    · rintro ys _ ⟨rfl, hys⟩ D h' tk' F' N' o1
      try dsimp only
      exact hret _ _ _ F'.keep ⟨_, rfl, (N' _ (.head _)).2.2, ys, _, N'.get (by k_mem), hys⟩
end
section
open PySem PySem.W PySem.W.X PyProof.Rows
/-- the ledger of the class statement: all that stood is kept but for 37 and P; the new objects are written out -/
structure LD (h₀ : Heap) (P : Addr → Prop) (h : Heap) (news : List (Addr × Obj)) : Prop where
  keep : ∀ b o, ¬ P b → h₀.get? b = some o → h.get? b = some o
  nw : ∀ p ∈ news, h.get? p.1 = some p.2 ∧ h₀.get? p.1 = none ∧ ¬ P p.1
  ord : (news.map (·.1)).Nodup
  big : ∀ b, P b → b < h.objs.size
section
variable {h₀ h h' : Heap} {P : Addr → Prop} {news : List (Addr × Obj)}
theorem LD.at (D : LD h₀ P h news) (i : Nat) {a : Addr} {o : Obj} (hi : news[i]? = some (a, o)) : h.get? a = some o := (D.nw _ (List.mem_of_getElem? hi)).1
theorem LD.fresh (D : LD h₀ P h news) {a : Addr} (ha : h.objs.size ≤ a) : h₀.get? a = none := by
  cases e : h₀.get? a with
  | none => rfl
  | some o =>
    by_cases hp : P a
    · exact absurd (D.big a hp) (Nat.not_lt.mpr ha)
    · exact absurd (Heap.lt_size (D.keep a o hp e)) (Nat.not_lt.mpr ha)
theorem LD.alloc (D : LD h₀ P h news) {o : Obj} (hf : o.isFreed = false) : LD h₀ P (h.push o) ((h.objs.size, o) :: news) := by
  refine ⟨fun b o' h1 e => Heap.get?_push_of_some _ (D.keep b o' h1 e), fun p hp => ?_, ?_, fun b hb => by rw [Heap.size_push]; exact Nat.lt_succ_of_lt (D.big b hb)⟩
  · rcases List.mem_cons.mp hp with rfl | hp
    · exact ⟨Heap.get?_push_size _ hf, D.fresh (Nat.le_refl _), fun hp => Nat.lt_irrefl _ (D.big _ hp)⟩
    · exact ⟨Heap.get?_push_of_some _ (D.nw p hp).1, (D.nw p hp).2⟩
  · rw [List.map_cons, List.nodup_cons]
    refine ⟨fun hb => ?_, D.ord⟩
    obtain ⟨⟨b', ob⟩, hp, e⟩ := List.mem_map.mp hb
    exact Nat.lt_irrefl _ (e ▸ Heap.lt_size (D.nw _ hp).1)
theorem LD.update (D : LD h₀ P h news) {i : Nat} {a : Addr} {o : Obj} {f : Obj → Obj} (hi : news[i]? = some (a, o)) (hf : (f o).isFreed = false) : LD h₀ P (h.update a f) (news.set i (a, f o)) := by
  have ho := D.at i hi
  have sp := pairwise_split hi
  have z := D.nw (a, o) (List.mem_of_getElem? hi)
  have hs : Heap.SameBut a h (h.update a f) := Heap.SameBut.update ..
  have ord' := D.ord
  rw [sp, List.map_append, List.map_cons] at ord'
  have p1 : ∀ p ∈ news.take i, p.1 ≠ a := fun p hp => (List.pairwise_append.mp ord').2.2 p.1 (List.mem_map_of_mem hp) a (.head _)
  have p2 : ∀ p ∈ news.drop (i + 1), p.1 ≠ a := fun p hp => Ne.symm ((List.pairwise_cons.mp (List.pairwise_append.mp ord').2.1).1 p.1 (List.mem_map_of_mem hp))
  have ge : (h.update a f).get? a = some (f o) := by first | exact Heap.get?_update_self f ho hf | exact Heap.get?_update_self _ ho hf
  have e : news.set i (a, f o) = news.take i ++ (a, f o) :: news.drop (i + 1) := by
    obtain ⟨hl, _⟩ := List.getElem?_eq_some_iff.mp hi
    exact List.set_eq_take_append_cons_drop.trans (if_pos hl)
  have ne : ∀ b o', h₀.get? b = some o' → b ≠ a := fun b o' e' z' => by subst z'; rw [e'] at z; cases z.2.1
  refine ⟨fun b o' h1 e' => (hs.2 b (ne b o' e')).trans (D.keep b o' h1 e'), fun p hp => ?_, ?_, fun b hb => by rw [Heap.size_after_update]; exact D.big b hb⟩
  · rw [e] at hp
    rcases List.mem_append.mp hp with hp | hp
    · have y := D.nw p (by rw [sp]; exact List.mem_append.mpr (.inl hp))
      exact ⟨(hs.2 _ (p1 p hp)).trans y.1, y.2⟩
    · rcases List.mem_cons.mp hp with rfl | hp
      · exact ⟨ge, z.2⟩
      · have y := D.nw p (by rw [sp]; exact List.mem_append.mpr (.inr (.tail _ hp)))
        exact ⟨(hs.2 _ (p2 p hp)).trans y.1, y.2⟩
  · rw [e, List.map_append, List.map_cons]; exact ord'
/-- a step that changes nothing but what is left out, and adds -/
theorem LD.ext (D : LD h₀ P h news) (hx : ∀ b o, ¬ P b → h.get? b = some o → h'.get? b = some o) (hbig : ∀ b, P b → b < h'.objs.size) : LD h₀ P h' news :=
  ⟨fun b o h1 e => hx b o h1 (D.keep b o h1 e), fun p hp => ⟨hx _ _ (D.nw p hp).2.2 (D.nw p hp).1, (D.nw p hp).2⟩, D.ord, hbig⟩
theorem LD.cast {news' : List (Addr × Obj)} (D : LD h₀ P h news) (e : news = news') : LD h₀ P h news' := e ▸ D
theorem LD.start (h : Heap) : LD h (fun _ => False) h [] := ⟨fun _ _ _ e => e, fun _ hp => (nomatch hp), List.nodup_nil, fun _ hb => hb.elim⟩
/-- the ledger takes up an object that was made on the way -/
theorem LD.take (D : LD h₀ P h' news) {a : Addr} {o : Obj} (e : h'.get? a = some o) (h0 : h₀.get? a = none) (hP : ¬ P a) (hlt : ∀ p ∈ news, p.1 ≠ a) : LD h₀ P h' ((a, o) :: news) := by
  refine ⟨D.keep, fun p hp => ?_, ?_, D.big⟩
  · rcases List.mem_cons.mp hp with rfl | hp
    · exact ⟨e, h0, hP⟩
    · exact D.nw p hp
  · rw [List.map_cons, List.nodup_cons]
    refine ⟨fun hb => ?_, D.ord⟩
    obtain ⟨q, hp, e⟩ := List.mem_map.mp hb
    exact hlt q hp e
end
section
variable {M : Model} {A : Around} {E : Value → Shared → Prop} {h₀ h : Heap} {P : Addr → Prop} {news : List (Addr × Obj)} {g : Array GenState} {d : Drawn} {t : Nat} {os : OsState}
theorem ld_alloc {o : Obj} {Q : Addr → Shared → Prop} (D : LD h₀ P h news) (hf : o.isFreed = false) (k : ∀ a h', LD h₀ P h' ((a, o) :: news) → Q a ⟨h', g, d, t, os⟩) : wpAny M A (alloc o) Q E ⟨h, g, d, t, os⟩ :=
  wpAny_alloc (k _ _ (D.alloc hf))
theorem ld_update {a : Addr} {o : Obj} {part : Option Value} {f : Obj → Obj} {Q : Unit → Shared → Prop} (D : LD h₀ P h news) (i : Nat) (hi : news[i]? = some (a, o)) (hf : (f o).isFreed = false)
    (k : ∀ h', LD h₀ P h' (news.set i (a, f o)) → Q () ⟨h', g, d, t, os⟩) : wpAny M A (updatePart a part f) Q E ⟨h, g, d, t, os⟩ :=
  wpAny_updatePart (D.at i hi) (k _ (D.update hi hf))
theorem ld_load {a : Addr} {o : Obj} {part : Option Value} {Q : Obj → Shared → Prop} (D : LD h₀ P h news) (i : Nat) (hi : news[i]? = some (a, o)) (k : Q o ⟨h, g, d, t, os⟩) : wpAny M A (loadPart a part) Q E ⟨h, g, d, t, os⟩ :=
  wpAny_loadPart (D.at i hi) k

noncomputable def okSet (name : Str) (o : Obj) : Bool := match o.data with | .dict es _ => !aRefKeyMayBeTheName name es | _ => false
theorem ld_nsSet {a : Addr} {o : Obj} {name : Str} {v : Value} {Q : Unit → Shared → Prop} (D : LD h₀ P h news) (i : Nat) (hi : news[i]? = some (a, o)) (hok : okSet name o = true) (hf : ∀ hv, (Obj.putName name hv (.str name t) v o).isFreed = false)
    (k : ∀ h' hv, LD h₀ P h' (news.set i (a, Obj.putName name hv (.str name t) v o)) → Q () ⟨h', g, d, t + 1, os⟩) : wpAny M A (nsSet a name v) Q E ⟨h, g, d, t, os⟩ := by
  unfold nsSet strHash
  refine wpAny_bind (wpAny_bind (nd_ask ?_))
  refine wpAny_pure (wpAny_pure ?_)
  refine wpAny_bind (wpAny_mkText ?_)
  refine wpAny_bind (ld_load D i hi ?_)
  unfold okSet at hok
  split at hok
  · rename_i es n hd
    rw [hd]
    dsimp only
    rw [if_neg (by simpa using hok)]
    exact ld_update D i hi (hf _) fun h' D' => k h' _ D'
  · cases hok
theorem ld_nsGet {a : Addr} {o : Obj} {name : Str} {r : Option Value} {Q : Option Value → Shared → Prop} {s : Shared} (ho : s.heap.get? a = some o) (hl : nsLook name o = pure r) (k : Q r s) : wpAny M A (nsGet a name) Q E s := by
  unfold nsGet
  refine wpAny_bind (wpAny_loadPart ho ?_)
  rw [hl]
  exact wpAny_pure k
theorem ld_nsDel {a : Addr} {o : Obj} {name : Str} {Q : Bool → Shared → Prop} (D : LD h₀ P h news) (i : Nat) (hi : news[i]? = some (a, o)) (hl : nsHas name o = pure true) (hf : (Obj.dropName name o).isFreed = false)
    (k : ∀ h', LD h₀ P h' (news.set i (a, Obj.dropName name o)) → Q true ⟨h', g, d, t, os⟩) : wpAny M A (nsDel a name) Q E ⟨h, g, d, t, os⟩ := by
  unfold nsDel
  refine wpAny_bind (ld_load D i hi ?_)
  rw [hl]
  refine wpAny_bind (wpAny_pure ?_)
  rw [if_pos rfl]
  refine wpAny_bind (ld_update D i hi hf fun h' D' => ?_)
  exact wpAny_pure (k h' D')
noncomputable def putSlot (i : Nat) (v : Option Value) (o : Obj) : Obj := { o with slots := (o.slots ++ Array.replicate (i + 1 - o.slots.size) none).setIfInBounds i v }
theorem ld_setSlot {a : Addr} {o : Obj} {j : Nat} {v : Option Value} {Q : Unit → Shared → Prop} (D : LD h₀ P h news) (i : Nat) (hi : news[i]? = some (a, o)) (hj : j < sizeLine) (hf : (putSlot j v o).isFreed = false)
    (k : ∀ h', LD h₀ P h' (news.set i (a, putSlot j v o)) → Q () ⟨h', g, d, t, os⟩) : wpAny M A (setSlotAt a j v) Q E ⟨h, g, d, t, os⟩ := by
  unfold setSlotAt
  rw [if_neg (by omega)]
  refine wpAny_bind (wpAny_pure ?_)
  exact ld_update D i hi hf fun h' D' => k h' D'
theorem ld_updateCls {a : Addr} {o : Obj} {f : ClassData → ClassData} {Q : Unit → Shared → Prop} (D : LD h₀ P h news) (i : Nat) (hi : news[i]? = some (a, o)) (hc : notCls o = false) (hf : (Obj.mapCls f o).isFreed = false) (hp : (Obj.mapCls f o).data.pastItsLine = none)
    (k : ∀ h', LD h₀ P h' (news.set i (a, Obj.mapCls f o)) → Q () ⟨h', g, d, t, os⟩) : wpAny M A (updateCls a f) Q E ⟨h, g, d, t, os⟩ := by
  unfold updateCls
  refine wpAny_bind (wpAny_load (D.at i hi) ?_)
  unfold notCls at hc
  split at hc
  · rename_i cd hd
    rw [hd]
    dsimp only
    refine wpAny_bind (wpAny_update (D.at i hi) ?_)
    have D' := D.update hi hf
    unfold lookBehind
    refine wpAny_bind (wpAny_loadPart (o := Obj.mapCls f o) (D'.at i (by rw [List.getElem?_set_self (List.getElem?_eq_some_iff.mp hi).1])) ?_)
    rw [hp]
    exact wpAny_pure (k _ D')
  · cases hc
theorem ld_newFields {ty : String} {vs : List Value} {Q : Value → Shared → Prop} (D : LD h₀ P h news) (hsz : sizeOk (.fields vs.toArray)) (k : ∀ a h', LD h₀ P h' ((a, { cls := .type ty, data := .fields vs.toArray }) :: news) → Q (.ref a) ⟨h', g, d, t, os⟩) :
    wpAny M A (newFields ty vs) Q E ⟨h, g, d, t, os⟩ := by
  unfold newFields
  exact wpAny_newObj_type (k _ _ (D.alloc rfl)) hsz
theorem ld_newObj {ty : String} {data : Data} {Q : Value → Shared → Prop} (D : LD h₀ P h news) (hsz : sizeOk data) (hf : ({ cls := .type ty, data := data } : Obj).isFreed = false) (k : ∀ a h', LD h₀ P h' ((a, { cls := .type ty, data := data }) :: news) → Q (.ref a) ⟨h', g, d, t, os⟩) :
    wpAny M A (newObj (.type ty) data) Q E ⟨h, g, d, t, os⟩ := wpAny_newObj_type (k _ _ (D.alloc hf)) hsz
theorem wp_forIn_unit {β : Type} {l : List β} {f : β → PUnit → Sem (ForInStep PUnit)} {Q : PUnit → Shared → Prop} {s : Shared} (hb : ∀ x ∈ l, ∀ Q' : ForInStep PUnit → Shared → Prop, Q' (.yield ⟨⟩) s → wpAny M A (f x ⟨⟩) Q' E s) (k : Q ⟨⟩ s) : wpAny M A (forIn l (⟨⟩ : PUnit) f) Q E s := by
  induction l with
  | nil => rw [List.forIn_nil]; exact wpAny_pure k
  | cons x l ih =>
    rw [List.forIn_cons]
    refine wpAny_bind (hb x List.mem_cons_self _ ?_)
    exact ih fun y hy => hb y (List.mem_cons_of_mem _ hy)
end
end
section
open PySem PySem.W PySem.W.X PyProof.Rows
noncomputable abbrev tO : Value := .type "object"
theorem p1 : isSubtype (.type "tuple") (.type "tuple") = pure true := by kernel_rfl
theorem p2 : isSubtype (.type "dict") (.type "dict") = pure true := by kernel_rfl
theorem p3 : typeOf tO = pure (.type "type") := by kernel_rfl
theorem p4 : isSubtype (.type "type") (.type "type") = pure true := by kernel_rfl
theorem p5 : Builtin.notOverATurnedClass [tO] = pure () := by kernel_rfl
theorem p6 : Builtin.extendedBase [tO] = pure tO := by kernel_rfl
theorem p7 : typeLookup (.type "dict") "__iter__" = pure (some (.builtin "dict.__iter__")) := by kernel_rfl
theorem p8 : Builtin.mroHook? (.type "type") = pure none := by kernel_rfl
theorem p9 : Builtin.linearize [tO] mroOf = pure [tO] := by kernel_rfl
theorem p10 : Builtin.Slots.bestBase [tO] = pure tO := by kernel_rfl
theorem p11 : Builtin.Slots.slotNamesOf tO = pure [] := by kernel_rfl
theorem p12 : Builtin.Slots.givesDict tO = pure false := by kernel_rfl
theorem p13 : Builtin.Slots.givesWeak tO = pure false := by kernel_rfl
theorem p14 : Builtin.Slots.varSize tO = pure false := by kernel_rfl
theorem p15 : Bind.madeBy tO = pure (some "object.__new__") := by kernel_rfl
theorem p16 (a : Addr) : Builtin.noteSubclassOfBuiltin "object" a = pure () := by kernel_rfl
theorem p17 : typeLookup (.type "str") "__set_name__" = pure none := by kernel_rfl
theorem p18 : typeLookup (.type "int") "__set_name__" = pure none := by kernel_rfl
theorem p19 : typeLookup (.type "NoneType") "__set_name__" = pure none := by kernel_rfl
theorem p20 : typeLookup (.type "list") "__set_name__" = pure none := by kernel_rfl
theorem p21 : typeLookup (.type "tuple") "__set_name__" = pure none := by kernel_rfl
theorem p22 : typeLookup (.type "function") "__set_name__" = pure none := by kernel_rfl
theorem p23 : typeLookup (.type "member_descriptor") "__set_name__" = pure none := by kernel_rfl
theorem p24 : mroOf tO = pure [tO] := by kernel_rfl
end
section
open PySem PySem.W PySem.W.X PyProof.Rows
theorem bindP {α β : Type} {M : Model} {A : Around} {t : Sem α} {a : α} {f : α → Sem β} {Q : β → Shared → Prop} {E : Value → Shared → Prop} {s : Shared} (e : t = pure a) (h : wpAny M A (f a) Q E s) : wpAny M A (t >>= f) Q E s := by rw [e]; exact wpAny_bind (wpAny_pure h)
/-- the names that the class body lays down -/
noncomputable def esK (hs : Nat → Int) (ts : Nat → Tok) (q : Str) (sl f1 f2 f3 f4 f5 f6 st : Addr) : Array DictEntry :=
  #[⟨hs 0, .str (Str.ofString "__module__") (ts 0), .str (Str.ofString "cpy313.functools") (ts 12)⟩, ⟨hs 1, .str (Str.ofString "__qualname__") (ts 1), .str q (ts 13)⟩,
     ⟨hs 2, .str (Str.ofString "__firstlineno__") (ts 2), .int 42 (ts 14)⟩, ⟨hs 3, .str (Str.ofString "__slots__") (ts 3), .ref sl⟩, ⟨hs 4, .str (Str.ofString "__init__") (ts 4), .ref f1⟩, ⟨hs 5, .str (Str.ofString "__lt__") (ts 5), .ref f2⟩,
     ⟨hs 6, .str (Str.ofString "__gt__") (ts 6), .ref f3⟩, ⟨hs 7, .str (Str.ofString "__eq__") (ts 7), .ref f4⟩, ⟨hs 8, .str (Str.ofString "__le__") (ts 8), .ref f5⟩, ⟨hs 9, .str (Str.ofString "__ge__") (ts 9), .ref f6⟩,
     ⟨hs 10, .str (Str.ofString "__hash__") (ts 10), .none⟩, ⟨hs 11, .str (Str.ofString "__static_attributes__") (ts 11), .ref st⟩]
noncomputable def dictO (es : Array DictEntry) (n : Nat) : Obj := ⟨.type "dict", none, .dict es n, #[]⟩
noncomputable def seqO (c : String) (vs : Array Value) (n : Nat) : Obj := ⟨.type c, none, .seq vs n, #[]⟩
noncomputable def funO (F : FuncData) : Obj := ⟨.type "function", none, .func F, #[]⟩

theorem wp_typeOf {M : Model} {A : Around} {Q : Value → Shared → Prop} {E : Value → Shared → Prop} {s : Shared} {a : Addr} {o : Obj} (ho : s.heap.get? a = some o) (h : Q o.cls s) : wpAny M A (typeOf (.ref a)) Q E s := by
  unfold typeOf
  exact wpAny_bind (wpAny_loadPart (part := none) ho (wpAny_pure h))
theorem wp_isInstance {M : Model} {A : Around} {Q : Bool → Shared → Prop} {E : Value → Shared → Prop} {s : Shared} {a : Addr} {o : Obj} {b : Value} {r : Bool} (ho : s.heap.get? a = some o) (hs : isSubtype o.cls b = pure r) (h : Q r s) : wpAny M A (isInstance (.ref a) b) Q E s := by
  unfold isInstance
  refine wpAny_bind (wp_typeOf ho ?_)
  rw [hs]; exact wpAny_pure h
theorem wp_specialOf {M : Model} {A : Around} {Q : Option Value → Shared → Prop} {E : Value → Shared → Prop} {s : Shared} {a : Addr} {o : Obj} {b : Str} {r : Option Value} (ho : s.heap.get? a = some o) (hs : typeLookup o.cls b = pure r) (h : Q r s) : wpAny M A (specialOf (.ref a) b) Q E s := by
  unfold specialOf
  refine wpAny_bind (wp_typeOf ho ?_)
  rw [hs]; exact wpAny_pure h
theorem wp_dictEntries {M : Model} {A : Around} {Q : Array DictEntry → Shared → Prop} {E : Value → Shared → Prop} {s : Shared} {a : Addr} {es : Array DictEntry} {n : Nat} {part : Option Value} (ho : s.heap.get? a = some (dictO es n)) (h : Q es s) : wpAny M A (dictEntries a part) Q E s := by
  unfold dictEntries
  exact wpAny_bind (wpAny_loadPart ho (wpAny_pure h))
set_option maxHeartbeats 0 in
theorem wp_read {w : World} {A : Around} {Q : Builtin.Slots.Plan → Shared → Prop} {E : Value → Shared → Prop} {s : Shared} {hs : Nat → Int} {ts : Nat → Tok} {q : Str} {sl f1 f2 f3 f4 f5 f6 st : Addr} {t15 : Tok} {n2 : Nat}
   (hsl : s.heap.get? sl = some (seqO "list" #[.str (Str.ofString "obj") t15] n2))
   (h : ∀ h' tk, s.heap.StaysIn h' → Q { names := ["obj"], dict := false, weak := false, inherited := [] } { s with heap := h', toks := tk }) :
   wpAny (model RP w) A (Builtin.Slots.read (Str.ofString "K") [tO] (esK hs ts q sl f1 f2 f3 f4 f5 f6 st)) Q E s := by
  delta Builtin.Slots.read
  refine bindP p10 ?_
  refine bindP p11 ?_
  refine bindP p12 ?_
  refine bindP p13 ?_
  refine bindP p14 ?_
  have hfind : (esK hs ts q sl f1 f2 f3 f4 f5 f6 st).find? (·.key.isStr (Str.ofString "__slots__")) = some ⟨hs 3, .str (Str.ofString "__slots__") (ts 3), .ref sl⟩ := by kernel_rfl
  rw [hfind]
  k_node
  refine wpAny_bind (wpAny_rule ?_)
  refine wpAny_bind (KPt.asStr_ref hsl rfl ?_)
  k_node
  k_node
  k_node
  refine wpAny_bind (wpAny_collect_seq sl (.inl rfl) hsl rfl rfl (fun h' hk => ?_))
  refine wpAny_of_eq (a := { names := [Str.ofString "obj"], dict := false, weak := false, inherited := [] }) (by kernel_rfl) ?_
  exact h h' _ hk
end
section
open PySem PySem.W PySem.W.X PyProof.Rows
section
variable {M : Model} {A : Around} {E : Value → Shared → Prop} {s : Shared}
theorem wp_classData {C : Addr} {oC : Obj} {cd : ClassData} {Q : ClassData → Shared → Prop} (hC : s.heap.get? C = some oC) (hcd : oC.data = .cls cd) (k : Q cd s) : wpAny M A (classData C) Q E s := by
  unfold classData
  refine wpAny_bind (wpAny_load hC ?_)
  rw [hcd]; exact wpAny_pure k
theorem wp_lookC {C : Addr} {oC on : Obj} {cd : ClassData} {name : Str} {r : Option Value} {Q : Option Value → Shared → Prop} (hC : s.heap.get? C = some oC) (hcd : oC.data = .cls cd) (hm : cd.mro = [.ref C, tO]) (hns : s.heap.get? cd.ns = some on)
    (hl : nsLook name on = pure r) (k : Q (r.orElse fun _ => builtinOwn "object" name) s) : wpAny M A (typeLookup (.ref C) name) Q E s := by
  delta typeLookup
  refine wpAny_bind ?_
  delta mroOf
  refine wpAny_bind (wp_classData hC hcd (wpAny_pure ?_))
  rw [hm]
  refine wpAny_bind ?_
  rw [List.forIn_cons]
  refine wpAny_bind (wpAny_bind ?_)
  delta classOwn
  refine wpAny_bind (wp_classData hC hcd ?_)
  refine ld_nsGet hns hl ?_
  cases r with
  | some v => exact wpAny_pure (wpAny_pure (wpAny_pure k))
  | none =>
    refine wpAny_pure ?_
    dsimp only
    rw [List.forIn_cons]
    have kk : Q (builtinOwn "object" name) s := k
    refine wpAny_bind (wpAny_bind (wpAny_pure ?_))
    cases hb : builtinOwn "object" name with
    | some v => rw [hb] at kk; exact wpAny_pure (wpAny_pure (wpAny_pure kk))
    | none => rw [hb] at kk; exact wpAny_pure (wpAny_pure (wpAny_pure kk))
theorem wp_slotAt {a : Addr} {o : Obj} {i : Nat} {Q : Option Value → Shared → Prop} (ho : s.heap.get? a = some o) (k : Q (o.slots[i]?).join s) : wpAny M A (slotAt a i) Q E s := by
  delta slotAt
  exact wpAny_bind (wpAny_loadPart ho (wpAny_pure k))
/-- the maker stays what it is: no __new__ of its own -/
theorem wp_refresh {C : Addr} {oC on : Obj} {cd : ClassData} {Q : Unit → Shared → Prop} (hC : s.heap.get? C = some oC) (hcd : oC.data = .cls cd) (hm : cd.mro = [.ref C, tO]) (hns : s.heap.get? cd.ns = some on)
    (hl : nsLook (Str.ofString "__new__") on = pure none) (hs : (oC.slots[4]?).join.isNone = false) (k : Q () s) : wpAny M A (Bind.refreshMaker C) Q E s := by
  delta Bind.refreshMaker
  refine wpAny_bind (wp_slotAt hC ?_)
  rw [hs]
  k_node
  k_node
  refine wpAny_bind (wp_lookC hC hcd hm hns hl ?_)
  refine wpAny_of_eq (a := ()) (by kernel_rfl) k
end
section
variable {M : Model} {A : Around} {E : Value → Shared → Prop} {h₀ h : Heap} {P : Addr → Prop} {news : List (Addr × Obj)} {g : Array GenState} {d : Drawn} {t : Nat} {os : OsState}
noncomputable def smallD (o : Obj) : Bool := match o.data with | .dict es _ => Nat.ble es.size sizeLine | _ => false
theorem ld_nsSetBy {a : Addr} {o : Obj} {name : Str} {v : Value} {Q : Unit → Shared → Prop} (D : LD h₀ P h news) (i : Nat) (hi : news[i]? = some (a, o)) (hok : okSet name o = true) (hsz : smallD o = true) (hf : ∀ hv, (Obj.putName name hv (.str name t) v o).isFreed = false)
    (k : ∀ h' hv, LD h₀ P h' (news.set i (a, Obj.putName name hv (.str name t) v o)) → Q () ⟨h', g, d, t + 1, os⟩) : wpAny M A (nsSetByValue a name v) Q E ⟨h, g, d, t, os⟩ := by
  delta nsSetByValue
  refine wpAny_bind (ld_load D i hi ?_)
  obtain ⟨oc, od, dt, sl⟩ := o
  cases dt with
  | dict es n =>
    dsimp only
    have hsz' : es.size ≤ sizeLine := Nat.le_of_ble_eq_true hsz
    rw [if_neg (by simp; omega)]
    exact ld_nsSet D i hi hok hf k
  | _ => exact absurd hok (by simp [okSet])
set_option maxHeartbeats 0 in
theorem ld_install {C ns : Addr} {oC on : Obj} {cd : ClassData} {Q : Unit → Shared → Prop} (D : LD h₀ P h [(C, oC), (ns, on)]) (hcd : oC.data = .cls cd) (hl : nsLook (Str.ofString "obj") on = pure none) (hok : okSet (Str.ofString "obj") on = true) (hsz : smallD on = true)
    (hc : notCls oC = false) (hf : ∀ hv v, (Obj.putName (Str.ofString "obj") hv (.str (Str.ofString "obj") (t + 1)) v on).isFreed = false) (hf' : (Obj.mapCls (fun c => { c with hasDict := false, slotNames := [Str.ofString "obj"] }) oC).isFreed = false)
    (hp : (Obj.mapCls (fun c => { c with hasDict := false, slotNames := [Str.ofString "obj"] }) oC).data.pastItsLine = none)
    (k : ∀ h' dm hv, LD h₀ P h' [(dm, { cls := .type "member_descriptor", data := .fields #[.str (Str.ofString "obj") t, .ref C, .builtin "proto.slot", .builtin "proto.slot#set", rawInt 0] }), (C, Obj.mapCls (fun c => { c with hasDict := false, slotNames := [Str.ofString "obj"] }) oC), (ns, Obj.putName (Str.ofString "obj") hv (.str (Str.ofString "obj") (t + 1)) (.ref dm) on)] → Q () ⟨h', g, d, t + 2, os⟩) :
    wpAny M A (Builtin.Slots.install (.ref C) ns [tO] { names := [Str.ofString "obj"], dict := false, weak := false, inherited := [] }) Q E ⟨h, g, d, t, os⟩ := by
  delta Builtin.Slots.install
  refine wpAny_bind ?_
  rw [List.forIn_cons]
  refine wpAny_bind (wpAny_bind (ld_nsGet (D.at 1 rfl) hl ?_))
  k_node
  refine wpAny_bind (wpAny_mkStr ?_)
  refine wpAny_bind (ld_newFields D (Nat.le_of_ble_eq_true rfl) fun dm h₁ D1 => ?_)
  refine wpAny_bind (ld_nsSetBy D1 2 rfl hok hsz (fun hv => hf hv _) fun h₂ hv D2 => ?_)
  refine wpAny_pure ?_
  refine wpAny_pure ?_
  k_node
  refine bindP (a := false) (by kernel_rfl) ?_
  refine wpAny_ite_false (by kernel_rfl) ?_
  refine ld_updateCls D2 1 rfl hc hf' hp fun h₃ D3 => ?_
  exact k h₃ dm hv D3
end
end
section
open PySem PySem.W PySem.W.X PyProof.Rows
set_option hygiene false in
local macro_rules | `(tactic| x_close) => `(tactic| exact hret _ _ _ (mem_stays (by assumption)) (Mem.at (by assumption) 0 _ _ rfl))
set_option maxHeartbeats 8000000 in
theorem xs2 {w : World} (h : Heap) (g : Array GenState) (d : Drawn) (tk : Nat) (os : OsState) (Q E : Value → Shared → Prop)
   (C ns bt : Addr) (t0 tq : Tok) (X : (KM w.params).In h)
   (hC : h.get? C = some { cls := .type "type", data := .cls { name := Str.ofString "K", bases := [.type "object"], mro := [.ref C, .type "object"], ns := ns, qualname := Str.ofString "cmp_to_key.<locals>.K", hasDict := false, slotNames := [Str.ofString "obj"] }, slots := #[some (.ref bt), none, some (.str (Str.ofString "K") t0), some (.str (Str.ofString "cmp_to_key.<locals>.K") tq), some (.builtin "object.__new__"), some (.bool false)] })
   (hret : ∀ m h' tk', h.StaysIn h' → h'.get? m = some { cls := .type "builtin_function_or_method", data := .fields #[.builtin "object.__init_subclass__", .ref C] } → Q (.ref m) ⟨h', g, d, tk', os⟩) :
   wpAny (model PySem.Challenge.rw_ik0057_01.row.prog w) AX (call (.builtin "classmethod_descriptor.__get__") [.builtin "object.__init_subclass__", .none, .ref C]) Q E ⟨h, g, d, tk, os⟩ := by
  x_run
set_option hygiene false in
local macro_rules | `(tactic| x_close) => `(tactic| first | exact hret _ _ (mem_stays (by assumption)) | exact hret _ _ (fun _ _ e => e))
set_option maxHeartbeats 8000000 in
theorem xs3 {w : World} (h : Heap) (g : Array GenState) (d : Drawn) (tk : Nat) (os : OsState) (Q E : Value → Shared → Prop)
   (C ns bt m : Addr) (t0 tq : Tok) (X : (KM w.params).In h)
   (hC : h.get? C = some { cls := .type "type", data := .cls { name := Str.ofString "K", bases := [.type "object"], mro := [.ref C, .type "object"], ns := ns, qualname := Str.ofString "cmp_to_key.<locals>.K", hasDict := false, slotNames := [Str.ofString "obj"] }, slots := #[some (.ref bt), none, some (.str (Str.ofString "K") t0), some (.str (Str.ofString "cmp_to_key.<locals>.K") tq), some (.builtin "object.__new__"), some (.bool false)] })
   (hm : h.get? m = some { cls := .type "builtin_function_or_method", data := .fields #[.builtin "object.__init_subclass__", .ref C] })
   (hret : ∀ h' tk', h.StaysIn h' → Q .none ⟨h', g, d, tk', os⟩) :
   wpAny (model PySem.Challenge.rw_ik0057_01.row.prog w) AX (call (.ref m) []) Q E ⟨h, g, d, tk, os⟩ := by
  x_run
theorem sub_self {w : World} {h : Heap} {C : Addr} {o : Obj} {cd : ClassData} (ho : h.get? C = some o) (hd : o.data = .cls cd) (hm : cd.mro.contains (.ref C) = true) (he : cd.mro.isEmpty = false) : Looks (model RP w) h (isSubtype (.ref C) (.ref C)) true := by
  have K : Frag.In [(C, o)] h := by
    intro a o' e
    rcases List.mem_cons.mp (List.lookup_eq_some_iff.mp e |> fun ⟨l1, l2, q, _⟩ => (by rw [q]; simp : (a, o') ∈ [(C, o)])) with e | e
    · cases e; exact ho
    · cases e
  refine looks_mroIn K ?_
  unfold mroIn clsIn
  obtain ⟨oc, od, odt, os⟩ := o
  dsimp only at hd
  subst hd
  simp only [List.lookup_cons, BEq.rfl]
  show (if cd.mro.isEmpty = true then none else some (cd.mro.contains (.ref C))) = some true
  rw [he, hm]
  rfl
theorem w_super {w : World} {A : Around} {h : Heap} {g : Array GenState} {d : Drawn} {t : Nat} {os : OsState} {C : Addr} {oC : Obj} {cd : ClassData} {Q : Value → Shared → Prop} {E : Value → Shared → Prop}
    (hC : h.get? C = some oC) (hCt : oC.data = .cls cd) (hm : cd.mro.contains (.ref C) = true) (he : cd.mro.isEmpty = false)
    (hq : ∀ h', h'.get? h.objs.size = some { cls := .type "super", dict := none, data := .fields #[.ref C, .ref C, .ref C], slots := #[] } → (∀ y o, h.get? y = some o → h'.get? y = some o) → Q (.ref h.objs.size) ⟨h', g, d, t, os⟩) :
    wpAny (model RP w) A (call (.type "super") [.ref C, .ref C]) Q E ⟨h, g, d, t, os⟩ := by
  refine ks_callType_codesW (Q₁ := fun obj s₁ => obj = .ref h.objs.size ∧ s₁ = ⟨h.push { cls := .type "super", data := .fields #[.none, .none, .none] }, g, d, t, os⟩) F.ks_called_super (ks_wpAny_checkTypeCall_super hC hCt) F.ks_entry_super_init
    (ks_code_super_new _ _ ⟨rfl, rfl⟩) fun obj s₁ h₁ => ?_
  obtain ⟨rfl, rfl⟩ := h₁
  have up : ∀ y o, h.get? y = some o → (h.push { cls := .type "super", data := .fields #[.none, .none, .none] }).get? y = some o := fun y o e => Heap.get?_push_of_some _ e
  have hso : (h.push { cls := .type "super", data := .fields #[.none, .none, .none] }).get? h.objs.size = some { cls := .type "super", dict := none, data := .fields #[.none, .none, .none], slots := #[] } := Heap.get?_push_at rfl rfl
  have hC' := up _ _ hC
  have hs' := sub_self (w := w) hC' hCt hm he
  refine ⟨⟨_, hso, rfl⟩, F.ks_initArgs_super _ _ _, ?_⟩
  unfold Builtin.«super.__init__» noKeywords
  repeat (first | (with_reducible refine ks_wpAny_isType_cls hC' hCt ?_) | (with_reducible refine Looks.at hs' ?_) | (with_reducible refine ks_wpAny_super_set3 hso ?_) | wp_step)
  all_goals first
    | (intro h' e k; exact ⟨rfl, hq h' e fun y o ey => k y o (Nat.ne_of_lt (Heap.lt_size ey)) (up y o ey)⟩)
    | (refine ks_wpAny_super_set3 hso ?_; intro h' e k; exact ⟨rfl, hq h' e fun y o ey => k y o (Nat.ne_of_lt (Heap.lt_size ey)) (up y o ey)⟩)
theorem r1 : typeOf (.builtin "object.__init_subclass__") = pure (.type "classmethod_descriptor") := by kernel_rfl
theorem r2 : typeLookup (.type "classmethod_descriptor") "__get__" = pure (some (.builtin "classmethod_descriptor.__get__")) := by kernel_rfl
theorem r3 : builtinOwn "object" (Str.ofString "__init_subclass__") = some (.builtin "object.__init_subclass__") := by kernel_rfl
end
section
open PySem PySem.W PySem.W.X PyProof.Rows
noncomputable def qK : Str := Str.ofString "cmp_to_key.<locals>.K"
theorem kmst (P : Params) : nsIn (KM P) cStatics "thirdparty.any" = some none := by kernel_rfl
theorem wp_superGa {w : World} {A : Around} {h : Heap} {g : Array GenState} {d : Drawn} {tk : Nat} {os : OsState} {Q : PySem.Fin → Shared → Prop} {E : Value → Shared → Prop}
   {C ns bt su : Addr} {t0 tq tn : Tok} (hA : Fits 0 A) (X : (KM w.params).In h)
   (hC : h.get? C = some { cls := .type "type", data := .cls { name := Str.ofString "K", bases := [.type "object"], mro := [.ref C, .type "object"], ns := ns, qualname := Str.ofString "cmp_to_key.<locals>.K", hasDict := false, slotNames := [Str.ofString "obj"] }, slots := #[some (.ref bt), none, some (.str (Str.ofString "K") t0), some (.str (Str.ofString "cmp_to_key.<locals>.K") tq), some (.builtin "object.__new__"), some (.bool false)] })
   (hso : h.get? su = some { cls := .type "super", data := .fields #[.ref C, .ref C, .ref C] })
   (hret : ∀ m h' tk', h.StaysIn h' → h'.get? m = some { cls := .type "builtin_function_or_method", data := .fields #[.builtin "object.__init_subclass__", .ref C] } → Q (.done (.ret (.ref m))) ⟨h', g, d, tk', os⟩) :
   wpAny (model RP w) A (Builtin.«super.__getattribute__» ⟨[.ref su, .str (Str.ofString "__init_subclass__") tn], []⟩) Q E ⟨h, g, d, tk, os⟩ := by
  have hdt : ({ cls := .type "super", dict := none, data := .fields #[.ref C, .ref C, .ref C], slots := #[] } : Obj).data = .fields #[.ref C, .ref C, .ref C] := rfl
  have f0 : (#[.ref C, .ref C, .ref C] : Array Value)[0]? = some (.ref C) := rfl
  have f1 : (#[.ref C, .ref C, .ref C] : Array Value)[1]? = some (.ref C) := rfl
  have f2 : (#[.ref C, .ref C, .ref C] : Array Value)[2]? = some (.ref C) := rfl
  have hno : Looks (model RP w) h (opaqueClassAbove (.ref C)) none := looks_opaque X (kmst _)
  have hM : ∀ {Q' E'}, Q' [.ref C, .type "object"] ⟨h, g, d, tk, os⟩ → wpAny (model RP w) A (mroOf (.ref C)) Q' E' ⟨h, g, d, tk, os⟩ := fun x => by
    delta mroOf
    exact wpAny_bind (wp_classData hC rfl (wpAny_pure x))
  delta Builtin.«super.__getattribute__»
  k_node
  refine bindP (a := some (Str.ofString "__init_subclass__")) rfl ?_
  refine bindP (a := some (Str.ofString "__init_subclass__")) rfl ?_
  k_node
  k_node
  k_node
  refine wpAny_bind (wpAny_field hso hdt f0 ?_)
  refine wpAny_bind (wpAny_field hso hdt f1 ?_)
  refine wpAny_bind (wpAny_field hso hdt f2 ?_)
  refine wpAny_ite_false (by kernel_rfl) ?_
  refine wpAny_bind (ks_wpAny_notOpaque hno ?_)
  k_node
  refine wpAny_ite_false (by kernel_rfl) ?_
  k_node
  refine wpAny_bind (hM ?_)
  have hl : List.drop 1 (List.dropWhile (fun x => x != Value.ref C) [.ref C, .type "object"]) = [.type "object"] := by simp
  k_node
  rw [hl]
  refine wpAny_bind ?_
  rw [List.forIn_cons]
  refine wpAny_bind (wpAny_bind (wpAny_of_eq (a := some (.builtin "object.__init_subclass__")) (congrArg pure r3) ?_))
  k_node
  refine bindP r1 ?_
  refine bindP r2 ?_
  k_node
  have hii : (if (Value.ref C == Value.ref C) = true then Value.none else Value.ref C) = Value.none := by simp
  rw [hii]
  refine wpAny_bind (wpAny_holding (wpAny_AX hA (xs2 h g d tk os _ _ C ns bt t0 tq X hC fun m h' tk' hk hm => ?_)))
  refine wpAny_bind (wpAny_pure ?_)
  refine wpAny_pure ?_
  refine wpAny_pure ?_
  refine wpAny_pure ?_
  exact hret m h' tk' hk hm
/-- the class's hook of the base: nothing happens -/
theorem wp_super {w : World} {A : Around} {h : Heap} {g : Array GenState} {d : Drawn} {tk : Nat} {os : OsState} {Q : Unit → Shared → Prop} {E : Value → Shared → Prop}
   {C ns bt : Addr} {t0 tq : Tok} (hA : Fits 1 A) (X : (KM w.params).In h)
   (hC : h.get? C = some { cls := .type "type", data := .cls { name := Str.ofString "K", bases := [.type "object"], mro := [.ref C, .type "object"], ns := ns, qualname := Str.ofString "cmp_to_key.<locals>.K", hasDict := false, slotNames := [Str.ofString "obj"] }, slots := #[some (.ref bt), none, some (.str (Str.ofString "K") t0), some (.str (Str.ofString "cmp_to_key.<locals>.K") tq), some (.builtin "object.__new__"), some (.bool false)] })
   (hret : ∀ h' tk', h.StaysIn h' → Q () ⟨h', g, d, tk', os⟩) :
   wpAny (model RP w) A (do let sup ← call (.type "super") [.ref C, .ref C]; let f ← holding [sup] (getAttr sup (Str.ofString "__init_subclass__")); let _ ← call f [] []; pure ()) Q E ⟨h, g, d, tk, os⟩ := by
  refine wpAny_bind (w_super hC rfl (by simp) rfl fun h₁ hso hk₁ => ?_)
  replace hk₁ : h.StaysIn h₁ := hk₁
  generalize h.objs.size = su at *
  generalize htk : tk = tk₁ at *
  have hlk := F.ks_slot_super_ga.lookup
  have hT : ∀ t', (⟨h₁, g, d, t', os⟩ : Shared).TypeIs (.ref su) "super" := fun _ => ⟨_, hso, rfl⟩
  refine wpAny_bind (wpAny_holding ?_)
  unfold getAttr getAttrBy
  refine wpAny_bind (wpAny_mkText (wpAny_holding (wpAny_bind (wpAny_typeOf (hT _) (wpAny_bind (wpAny_of_eq hlk ?_))))))
  show wpAny _ _ (getAttrByItsOwn (.ref su) (.str _ tk₁) (.type "super") (.builtin "super.__getattribute__") true false) _ _ _
  unfold getAttrByItsOwn hookBefore callGetattribute boundAndCalled
  refine wpAny_bind (wpAny_of_eq (show (if onTheHeap (.type "super") then typeLookup (.type "super") "__getattr__" else pure none) = pure none from rfl) ?_)
  refine wpAny_bind (wpAny_attempt (wpAny_holding ?_))
  show wpAny _ _ (bindSpecial (.builtin "super.__getattribute__") (.ref su) >>= _) _ _ _
  refine wpAny_bind (wpAny_of_eq (F.ks_slot_super_ga.bind _) ?_)
  refine wpAny_call_entry F.ks_slot_super_ga (hT _) F.ks_entry_super_ga (wp_superGa hA.in1 (X.keeps hk₁) (hk₁ _ _ hC) hso fun m h₂ tk₂ hk₂ hm => ⟨_, rfl, ?_⟩) (F.ks_gaArgs_super _ _)
  refine wpAny_pure ?_
  refine wpAny_bind ?_
  exact wpAny_AX hA (xs3 h₂ g d tk₂ os _ _ C ns bt m t0 tq (X.keeps fun b o e => hk₂ _ _ (hk₁ _ _ e)) (hk₂ _ _ (hk₁ _ _ hC)) hm fun h₃ tk₃ hk₃ => wpAny_pure (hret h₃ tk₃ fun b o e => hk₃ _ _ (hk₂ _ _ (hk₁ _ _ e))))
end
section
open PySem PySem.W PySem.W.X PyProof.Rows
/-- the class as it stands at the end -/
noncomputable def cK (C ns bt : Addr) (q : Str) (t0 tq : Tok) (hd : Bool) (sn : List Str) (more : Array (Option Value)) : Obj :=
  { cls := .type "type", data := .cls { name := Str.ofString "K", bases := [tO], mro := [.ref C, tO], ns := ns, qualname := q, hasDict := hd, slotNames := sn },
    slots := #[some (.ref bt), none, some (.str (Str.ofString "K") t0), some (.str q tq)] ++ more }
/-- the names of the class as they stand at the end -/
noncomputable def esN (hs : Nat → Int) (ts : Nat → Tok) (sl f1 f2 f3 f4 f5 f6 st : Addr) : Array DictEntry :=
  #[⟨hs 0, .str (Str.ofString "__module__") (ts 0), .str (Str.ofString "cpy313.functools") (ts 12)⟩,
     ⟨hs 2, .str (Str.ofString "__firstlineno__") (ts 2), .int 42 (ts 14)⟩, ⟨hs 3, .str (Str.ofString "__slots__") (ts 3), .ref sl⟩, ⟨hs 4, .str (Str.ofString "__init__") (ts 4), .ref f1⟩, ⟨hs 5, .str (Str.ofString "__lt__") (ts 5), .ref f2⟩,
     ⟨hs 6, .str (Str.ofString "__gt__") (ts 6), .ref f3⟩, ⟨hs 7, .str (Str.ofString "__eq__") (ts 7), .ref f4⟩, ⟨hs 8, .str (Str.ofString "__le__") (ts 8), .ref f5⟩, ⟨hs 9, .str (Str.ofString "__ge__") (ts 9), .ref f6⟩,
     ⟨hs 10, .str (Str.ofString "__hash__") (ts 10), .none⟩, ⟨hs 11, .str (Str.ofString "__static_attributes__") (ts 11), .ref st⟩]
/-- with the slot and the doc -/
noncomputable def esF (hs : Nat → Int) (ts : Nat → Tok) (sl f1 f2 f3 f4 f5 f6 st dm : Addr) (hv hv' : Int) (t t' : Tok) : Array DictEntry :=
  (esN hs ts sl f1 f2 f3 f4 f5 f6 st).push ⟨hv, .str (Str.ofString "obj") t, .ref dm⟩ |>.push ⟨hv', .str (Str.ofString "__doc__") t', .none⟩
theorem wp_forIn_unitA {M : Model} {A : Around} {E : Value → Shared → Prop} {β : Type} {l : Array β} {f : β → PUnit → Sem (ForInStep PUnit)} {Q : PUnit → Shared → Prop} {s : Shared} (hb : ∀ x ∈ l.toList, ∀ Q' : ForInStep PUnit → Shared → Prop, Q' (.yield ⟨⟩) s → wpAny M A (f x ⟨⟩) Q' E s) (k : Q ⟨⟩ s) : wpAny M A (forIn l (⟨⟩ : PUnit) f) Q E s := by
  rw [← Array.forIn_toList]
  exact wp_forIn_unit hb k
set_option maxHeartbeats 0 in
theorem x_new {w : World} (h : Heap) (g : Array GenState) (d : Drawn) (tk : Nat) (os : OsState) (Q E : Value → Shared → Prop) (A : Around) (hA : Fits 1 A) (X : (KM w.params).In h)
   (bt na f1 f2 f3 f4 f5 f6 sl st : Addr) (t0 t15 t16 : Tok) (hs : Nat → Int) (ts : Nat → Tok) (n n1 n2 n3 : Nat)
   (F1 F2 F3 F4 F5 F6 : FuncData) (hna : (na == sysModules) = false)
   (hb : h.get? bt = some (seqO "tuple" #[tO] n1))
   (hn : h.get? na = some (dictO (esK hs ts qK sl f1 f2 f3 f4 f5 f6 st) n))
   (hsl : h.get? sl = some (seqO "list" #[.str (Str.ofString "obj") t15] n2))
   (hst : h.get? st = some (seqO "tuple" #[.str (Str.ofString "obj") t16] n3))
   (e1 : h.get? f1 = some (funO F1)) (e2 : h.get? f2 = some (funO F2)) (e3 : h.get? f3 = some (funO F3))
   (e4 : h.get? f4 = some (funO F4)) (e5 : h.get? f5 = some (funO F5)) (e6 : h.get? f6 = some (funO F6))
   (hret : ∀ (C ns dm : Addr) (hv hv' : Int) (ta tb tc : Tok) (h' : Heap) (tk' : Nat), h.StaysIn h' → h.get? C = none → h'.get? C = some (cK C ns bt qK t0 (ts 13) false [Str.ofString "obj"] #[some (.builtin "object.__new__"), some (.bool false)]) →
     h'.get? ns = some (dictO (esF hs ts sl f1 f2 f3 f4 f5 f6 st dm hv hv' tb tc) 3) → h'.get? dm = some { cls := .type "member_descriptor", data := .fields #[.str (Str.ofString "obj") ta, .ref C, .builtin "proto.slot", .builtin "proto.slot#set", rawInt 0] } →
     Q (.ref C) ⟨h', g, d, tk', os⟩) :
   wpAny (model RP w) A (Builtin.«type.__new__» ⟨[.type "type", .str (Str.ofString "K") t0, .ref bt, .ref na], []⟩) (fun fin s' => match fin with | .done (.ret v) => Q v s' | _ => False) E ⟨h, g, d, tk, os⟩ := by
  have i1 : ∀ {Q E} , Q true ⟨h, g, d, tk, os⟩ → wpAny (model RP w) A (isInstance (.ref bt) (.type "tuple")) Q E ⟨h, g, d, tk, os⟩ := fun x => wp_isInstance hb p1 x
  have i2 : ∀ {Q E} , Q true ⟨h, g, d, tk, os⟩ → wpAny (model RP w) A (isInstance (.ref na) (.type "dict")) Q E ⟨h, g, d, tk, os⟩ := fun x => wp_isInstance hn p2 x
  delta Builtin.«type.__new__»
  refine wpAny_bind ?_
  refine wpAny_pure ?_
  k_node
  refine wpAny_bind (i1 ?_)
  k_node
  k_node
  refine wpAny_bind (i2 ?_)
  k_node
  k_node
  k_node
  refine wpAny_bind (wpAny_seqItems hb rfl ?_)
  k_node
  k_node
  refine bindP (a := ⟨⟩) (by kernel_rfl) ?_
  refine bindP (a := .type "type") (by kernel_rfl) ?_
  k_node
  k_node
  k_node
  refine bindP (a := ⟨⟩) (by kernel_rfl) ?_
  refine bindP (a := tO) (by kernel_rfl) ?_
  k_node
  refine wpAny_ite_false (by rw [hna]; rfl) ?_
  refine wpAny_bind (wp_dictEntries hn ?_)
  refine wpAny_bind (wp_specialOf hn p7 ?_)
  k_node
  refine wpAny_bind (wpAny_pure ?_)
  k_node
  k_node
  refine wpAny_bind (wpAny_holding (wp_read hsl fun h₁ tk₁ hk₁ => ?_))
  have D0 : LD h (fun _ => False) h₁ [] := (LD.start h).ext (fun b o _ e => hk₁ b o e) fun _ x => x.elim
  refine wpAny_bind (ld_newObj D0 (Nat.le_of_ble_eq_true rfl) rfl fun ns h₂ D1 => ?_)
  k_node
  refine wpAny_ite_false (by kernel_rfl) ?_
  k_node
  refine bindP (a := ()) (by kernel_rfl) ?_
  k_node
  refine wpAny_ite_false (by kernel_rfl) ?_
  k_node
  have g1 : nsLook (Str.ofString "__qualname__") { cls := .type "dict", data := .dict (esK hs ts qK sl f1 f2 f3 f4 f5 f6 st) } = pure (some (.str qK (ts 13))) := by kernel_rfl
  refine wpAny_bind (ld_nsGet (D1.at 0 rfl) g1 ?_)
  k_node
  refine wpAny_bind (ld_nsGet (D1.at 0 rfl) g1 ?_)
  k_node
  k_node
  refine bindP (a := some qK) rfl ?_
  k_node
  refine bindP (a := qK) rfl ?_
  k_node
  have g2 : nsLook (Str.ofString "__doc__") { cls := .type "dict", data := .dict (esK hs ts qK sl f1 f2 f3 f4 f5 f6 st) } = pure none := by kernel_rfl
  refine wpAny_bind (ld_nsGet (D1.at 0 rfl) g2 ?_)
  k_node
  k_node
  k_node
  refine wpAny_bind (ld_alloc D1 rfl fun C h₃ D2 => ?_)
  k_node
  k_node
  k_node
  refine wpAny_bind (ld_setSlot D2 0 rfl (Nat.le_of_ble_eq_true rfl) rfl fun h₄ D3 => ?_)
  k_node
  refine wpAny_bind (ld_setSlot D3 0 rfl (Nat.le_of_ble_eq_true rfl) rfl fun h₅ D4 => ?_)
  k_node
  k_node
  refine wpAny_bind (ld_setSlot D4 0 rfl (Nat.le_of_ble_eq_true rfl) rfl fun h₆ D5 => ?_)
  k_node
  have g3 : nsHas (Str.ofString "__qualname__") { cls := .type "dict", data := .dict (esK hs ts qK sl f1 f2 f3 f4 f5 f6 st) } = pure true := by kernel_rfl
  refine wpAny_bind (ld_nsDel D5 1 rfl g3 rfl fun h₇ D6 => ?_)
  have g4 : ∀ x ∈ [Str.ofString "__new__", Str.ofString "__init_subclass__", Str.ofString "__class_getitem__", Str.ofString "__classcell__", Str.ofString "__classdictcell__"], nsLook x (Obj.dropName (Str.ofString "__qualname__") { cls := .type "dict", data := .dict (esK hs ts qK sl f1 f2 f3 f4 f5 f6 st) }) = pure none := by
    intro x hx
    simp only [List.mem_cons, List.not_mem_nil, or_false] at hx
    rcases hx with rfl | rfl | rfl | rfl | rfl <;> kernel_rfl
  refine wpAny_bind (ld_nsGet (D6.at 1 rfl) (g4 _ (by simp)) ?_)
  k_node
  k_node
  refine wpAny_bind (wp_forIn_unit (fun x hx Q' hq => wpAny_bind (ld_nsGet (D6.at 1 rfl) (g4 _ (by simp only [List.mem_cons, List.not_mem_nil, or_false] at hx; rcases hx with rfl | rfl <;> simp)) (wpAny_pure hq))) ?_)
  refine wpAny_bind (ld_nsGet (D6.at 1 rfl) (g4 _ (by simp)) ?_)
  k_node
  k_node
  refine wpAny_bind (ld_nsGet (D6.at 1 rfl) (g4 _ (by simp)) ?_)
  k_node
  k_node
  refine bindP p8 ?_
  k_node
  k_node
  refine bindP (a := [tO]) (by kernel_rfl) ?_
  refine bindP (a := [.ref C, tO]) rfl ?_
  k_node
  have hfil : ([.ref C, tO] : List Value).filter (fun x => x != .ref C) = [tO] := by simp
  refine bindP (a := false) (by rw [hfil]; kernel_rfl) ?_
  refine wpAny_bind (ld_updateCls D6 0 rfl rfl rfl rfl fun h₈ D7 => ?_)
  refine bindP p15 ?_
  refine wpAny_bind (ld_setSlot D7 0 rfl (Nat.le_of_ble_eq_true rfl) rfl fun h₉ D8 => ?_)
  have D9 : LD h (fun _ => False) h₉ [(C, cK C ns bt qK t0 (ts 13) true [] #[some (.builtin "object.__new__")]), (ns, dictO (esN hs ts sl f1 f2 f3 f4 f5 f6 st) 1)] := D8.cast (by kernel_rfl)
  have g5 : nsLook (Str.ofString "__new__") (dictO (esN hs ts sl f1 f2 f3 f4 f5 f6 st) 1) = pure none := by kernel_rfl
  refine wpAny_bind (wp_refresh (D9.at 0 rfl) rfl rfl (D9.at 1 rfl) g5 rfl ?_)
  have g6 : nsLook (Str.ofString "obj") (dictO (esN hs ts sl f1 f2 f3 f4 f5 f6 st) 1) = pure none := by kernel_rfl
  refine wpAny_bind (ld_install D9 rfl g6 (by kernel_rfl) (by kernel_rfl) rfl (fun _ _ => rfl) rfl rfl fun h₁₀ dm hv D10 => ?_)
  refine bindP p13 ?_
  refine wpAny_bind (ld_setSlot D10 1 rfl (Nat.le_of_ble_eq_true rfl) rfl fun h₁₁ D11 => ?_)
  k_node
  refine wpAny_ite_false (by kernel_rfl) ?_
  k_node
  refine wpAny_ite_false (by kernel_rfl) ?_
  k_node
  have g7 : nsLook (Str.ofString "__doc__") (Obj.putName (Str.ofString "obj") hv (.str (Str.ofString "obj") (tk₁ + 1)) (.ref dm) (dictO (esN hs ts sl f1 f2 f3 f4 f5 f6 st) 1)) = pure none := by kernel_rfl
  refine wpAny_bind (ld_nsGet (D11.at 2 rfl) g7 ?_)
  k_node
  k_node
  refine wpAny_bind (ld_nsSet D11 2 rfl (by kernel_rfl) (fun _ => rfl) fun h₁₂ hv' D12 => ?_)
  have D13 : LD h (fun _ => False) h₁₂ [(dm, { cls := .type "member_descriptor", data := .fields #[.str (Str.ofString "obj") tk₁, .ref C, .builtin "proto.slot", .builtin "proto.slot#set", rawInt 0] }), (C, cK C ns bt qK t0 (ts 13) false [Str.ofString "obj"] #[some (.builtin "object.__new__"), some (.bool false)]),
    (ns, dictO (esF hs ts sl f1 f2 f3 f4 f5 f6 st dm hv hv' (tk₁ + 1) (tk₁ + 2)) 3)] := D12.cast (by kernel_rfl)
  k_node
  have g8 : nsLook (Str.ofString "__eq__") (dictO (esF hs ts sl f1 f2 f3 f4 f5 f6 st dm hv hv' (tk₁ + 1) (tk₁ + 2)) 3) = pure (some (.ref f4)) := by kernel_rfl
  refine wpAny_bind (ld_nsGet (D13.at 2 rfl) g8 ?_)
  k_node
  k_node
  have g9 : nsLook (Str.ofString "__hash__") (dictO (esF hs ts sl f1 f2 f3 f4 f5 f6 st dm hv hv' (tk₁ + 1) (tk₁ + 2)) 3) = pure (some .none) := by kernel_rfl
  refine wpAny_bind (ld_nsGet (D13.at 2 rfl) g9 ?_)
  k_node
  k_node
  refine bindP (a := ⟨⟩) (by kernel_rfl) ?_
  k_node
  refine wpAny_bind (wpAny_tryCatch (wpAny_holding ?_))
  refine wpAny_bind (wp_dictEntries (D13.at 2 rfl) ?_)
  refine bindP (a := false) (by kernel_rfl) ?_
  k_node
  refine wpAny_ite_false rfl ?_
  k_node
  refine wpAny_bind (wp_dictEntries (D13.at 2 rfl) ?_)
  refine wpAny_bind (wp_forIn_unitA ?_ ?_)
  · intro x hx Q' hq
    have hx' : x ∈ [(⟨hs 0, .str (Str.ofString "__module__") (ts 0), .str (Str.ofString "cpy313.functools") (ts 12)⟩ : DictEntry),
     ⟨hs 2, .str (Str.ofString "__firstlineno__") (ts 2), .int 42 (ts 14)⟩, ⟨hs 3, .str (Str.ofString "__slots__") (ts 3), .ref sl⟩, ⟨hs 4, .str (Str.ofString "__init__") (ts 4), .ref f1⟩, ⟨hs 5, .str (Str.ofString "__lt__") (ts 5), .ref f2⟩,
     ⟨hs 6, .str (Str.ofString "__gt__") (ts 6), .ref f3⟩, ⟨hs 7, .str (Str.ofString "__eq__") (ts 7), .ref f4⟩, ⟨hs 8, .str (Str.ofString "__le__") (ts 8), .ref f5⟩, ⟨hs 9, .str (Str.ofString "__ge__") (ts 9), .ref f6⟩,
     ⟨hs 10, .str (Str.ofString "__hash__") (ts 10), .none⟩, ⟨hs 11, .str (Str.ofString "__static_attributes__") (ts 11), .ref st⟩, ⟨hv, .str (Str.ofString "obj") (tk₁ + 1), .ref dm⟩, ⟨hv', .str (Str.ofString "__doc__") (tk₁ + 2), .none⟩] := hx
    simp only [List.mem_cons, List.not_mem_nil, or_false] at hx'
    rcases hx' with rfl | rfl | rfl | rfl | rfl | rfl | rfl | rfl | rfl | rfl | rfl | rfl | rfl
    · exact wpAny_of_eq (a := .yield ⟨⟩) (by kernel_rfl) hq
    · exact wpAny_of_eq (a := .yield ⟨⟩) (by kernel_rfl) hq
    · exact wpAny_ite_false (by kernel_rfl) (wpAny_bind (wp_specialOf (D13.keep _ _ (fun x => x) hsl) p20 (wpAny_pure hq)))
    · exact wpAny_ite_false (by kernel_rfl) (wpAny_bind (wp_specialOf (D13.keep _ _ (fun x => x) e1) p22 (wpAny_pure hq)))
    · exact wpAny_ite_false (by kernel_rfl) (wpAny_bind (wp_specialOf (D13.keep _ _ (fun x => x) e2) p22 (wpAny_pure hq)))
    · exact wpAny_ite_false (by kernel_rfl) (wpAny_bind (wp_specialOf (D13.keep _ _ (fun x => x) e3) p22 (wpAny_pure hq)))
    · exact wpAny_ite_false (by kernel_rfl) (wpAny_bind (wp_specialOf (D13.keep _ _ (fun x => x) e4) p22 (wpAny_pure hq)))
    · exact wpAny_ite_false (by kernel_rfl) (wpAny_bind (wp_specialOf (D13.keep _ _ (fun x => x) e5) p22 (wpAny_pure hq)))
    · exact wpAny_ite_false (by kernel_rfl) (wpAny_bind (wp_specialOf (D13.keep _ _ (fun x => x) e6) p22 (wpAny_pure hq)))
    · exact wpAny_of_eq (a := .yield ⟨⟩) (by kernel_rfl) hq
    · exact wpAny_ite_false (by kernel_rfl) (wpAny_bind (wp_specialOf (D13.keep _ _ (fun x => x) hst) p21 (wpAny_pure hq)))
    · exact wpAny_ite_false (by kernel_rfl) (wpAny_bind (wp_specialOf (D13.at 0 rfl) p23 (wpAny_pure hq)))
    · exact wpAny_of_eq (a := .yield ⟨⟩) (by kernel_rfl) hq
  have k13 : h.StaysIn h₁₂ := fun b o e => D13.keep b o (fun x => x) e
  have hCx : h₁₂.get? C = some { cls := .type "type", data := .cls { name := Str.ofString "K", bases := [.type "object"], mro := [.ref C, .type "object"], ns := ns, qualname := Str.ofString "cmp_to_key.<locals>.K", hasDict := false, slotNames := [Str.ofString "obj"] }, slots := #[some (.ref bt), none, some (.str (Str.ofString "K") t0), some (.str (Str.ofString "cmp_to_key.<locals>.K") (ts 13)), some (.builtin "object.__new__"), some (.bool false)] } := (D13.at 1 rfl).trans (congrArg some (by kernel_rfl))
  refine wp_super hA (X.keeps k13) hCx fun h₁₃ tk₁₃ hk₁₃ => ?_
  refine wpAny_pure ?_
  exact hret C ns dm hv hv' tk₁ (tk₁ + 1) (tk₁ + 2) h₁₃ tk₁₃ (fun b o e => hk₁₃ _ _ (k13 _ _ e)) (D13.nw _ (.tail _ (.head _))).2.1 (hk₁₃ _ _ (D13.at 1 rfl)) (hk₁₃ _ _ (D13.at 2 rfl)) (hk₁₃ _ _ (D13.at 0 rfl))
end
section
open PySem PySem.W PySem.W.X PyProof.Rows
local macro_rules | `(tactic| walk_at "no such key 0") => `(tactic| skip)
local macro_rules | `(tactic| walk_at "no such key 1") => `(tactic| skip)
set_option hygiene false in
local macro_rules | `(tactic| x_close) => `(tactic| first | exact hret _ _ (mem_stays (by assumption)) | exact hret _ _ (fun _ _ e => e))
set_option maxHeartbeats 8000000 in
theorem xs4 {w : World} (h : Heap) (g : Array GenState) (d : Drawn) (tk : Nat) (os : OsState) (Q E : Value → Shared → Prop)
   (C ns bt na : Addr) (t0 t1 tq : Tok) (X : (KM w.params).In h)
   (hC : h.get? C = some { cls := .type "type", data := .cls { name := Str.ofString "K", bases := [.type "object"], mro := [.ref C, .type "object"], ns := ns, qualname := Str.ofString "cmp_to_key.<locals>.K", hasDict := false, slotNames := [Str.ofString "obj"] }, slots := #[some (.ref bt), none, some (.str (Str.ofString "K") t0), some (.str (Str.ofString "cmp_to_key.<locals>.K") tq), some (.builtin "object.__new__"), some (.bool false)] })
   (hret : ∀ h' tk', h.StaysIn h' → Q .none ⟨h', g, d, tk', os⟩) :
   wpAny (model PySem.Challenge.rw_ik0057_01.row.prog w) AX (call (.builtin "type.__init__") [.ref C, .str (Str.ofString "K") t1, .ref bt, .ref na]) Q E ⟨h, g, d, tk, os⟩ := by
  x_run
theorem v1 : Builtin.Slots.bestBase [tO] = pure tO := p10
theorem v2 : mroOf (.type "type") = pure [.type "type", .type "object"] := by kernel_rfl
theorem v3 : Bind.madeBy (.type "type") = pure (some "type.__new__") := by kernel_rfl
theorem v4 (a : Value) (b c : Value) : checkTypeCall "type" ⟨[a, b, c], []⟩ = pure () := by kernel_rfl
theorem v5 (a : Str) (t : Tok) (b c : Value) : checkBuiltinCall "type.__new__" ⟨[.type "type", .str a t, b, c], []⟩ = pure () := by kernel_rfl
theorem v6 : typeLookup (.type "type") "__init__" = pure (some (.builtin "type.__init__")) := by kernel_rfl
theorem v7 (s : Value) : bindSpecial (.builtin "type.__init__") s = pure (.builtin "type.__init__", [s]) := by kernel_rfl
theorem v8 : entryFor table "type.__new__" = some Builtin.«type.__new__» := entryFor_of_tree (by kernel_rfl)
theorem v9 : plainId "type.__new__" = true := by decide +kernel
end
section
open PySem PySem.W PySem.W.X PyProof.Rows
/-- what stands when the class is made -/
noncomputable def MadeK (h : Heap) (bt f1 f2 f3 f4 f5 f6 sl st : Addr) (t0 : Tok) (hs : Nat → Int) (ts : Nat → Tok) (C : Addr) (h' : Heap) : Prop :=
  h.StaysIn h' ∧ h.get? C = none ∧ ∃ (ns dm : Addr) (hv hv' : Int) (ta tb tc : Tok), h'.get? C = some (cK C ns bt qK t0 (ts 13) false [Str.ofString "obj"] #[some (.builtin "object.__new__"), some (.bool false)]) ∧
     h'.get? ns = some (dictO (esF hs ts sl f1 f2 f3 f4 f5 f6 st dm hv hv' tb tc) 3) ∧ h'.get? dm = some { cls := .type "member_descriptor", data := .fields #[.str (Str.ofString "obj") ta, .ref C, .builtin "proto.slot", .builtin "proto.slot#set", rawInt 0] }
theorem MadeK.keeps {h h' h'' : Heap} {bt f1 f2 f3 f4 f5 f6 sl st : Addr} {t0 : Tok} {hs : Nat → Int} {ts : Nat → Tok} {C : Addr} (x : MadeK h bt f1 f2 f3 f4 f5 f6 sl st t0 hs ts C h') (k : h'.StaysIn h'') : MadeK h bt f1 f2 f3 f4 f5 f6 sl st t0 hs ts C h'' := by
  obtain ⟨a, b, ns, dm, hv, hv', ta, tb, tc, c, d, e⟩ := x
  exact ⟨fun y o q => k _ _ (a _ _ q), b, ns, dm, hv, hv', ta, tb, tc, k _ _ c, k _ _ d, k _ _ e⟩
/-- type(name, bases, ns) makes the class -/
theorem wp_typeCall {w : World} (h : Heap) (g : Array GenState) (d : Drawn) (tk : Nat) (os : OsState) (Q E : Value → Shared → Prop) (A : Around) (hA : Fits 3 A) (X : (KM w.params).In h)
   (bt na f1 f2 f3 f4 f5 f6 sl st : Addr) (t0 t15 t16 : Tok) (hs : Nat → Int) (ts : Nat → Tok) (n n1 n2 n3 : Nat)
   (F1 F2 F3 F4 F5 F6 : FuncData) (hna : (na == sysModules) = false)
   (hb : h.get? bt = some (seqO "tuple" #[tO] n1))
   (hn : h.get? na = some (dictO (esK hs ts qK sl f1 f2 f3 f4 f5 f6 st) n))
   (hsl : h.get? sl = some (seqO "list" #[.str (Str.ofString "obj") t15] n2))
   (hst : h.get? st = some (seqO "tuple" #[.str (Str.ofString "obj") t16] n3))
   (e1 : h.get? f1 = some (funO F1)) (e2 : h.get? f2 = some (funO F2)) (e3 : h.get? f3 = some (funO F3))
   (e4 : h.get? f4 = some (funO F4)) (e5 : h.get? f5 = some (funO F5)) (e6 : h.get? f6 = some (funO F6))
   (hret : ∀ C h' tk', MadeK h bt f1 f2 f3 f4 f5 f6 sl st t0 hs ts C h' → Q (.ref C) ⟨h', g, d, tk', os⟩) :
   wpAny (model RP w) A (call (.type "type") [.str (Str.ofString "K") t0, .ref bt, .ref na]) Q E ⟨h, g, d, tk, os⟩ := by
  refine wpAny_call (codeAny_of_tree ?_)
  show wpAny _ _ (callAny (.type "type") _) _ _ _
  refine wpAny_pure ⟨Code.quiet_builtin _ (by decide +kernel), codeAny_builtin F.entry_type_call ?_⟩
  rw [Around.under_plain (weight_type_call_type "type" _ []) rfl]
  delta Builtin.«type.__call__»
  k_node
  k_node
  k_node
  k_node
  k_node
  k_node
  k_node
  k_node
  k_node
  k_node
  k_node
  refine bindP v2 ?_
  k_node
  k_node
  refine bindP v3 ?_
  k_node
  k_node
  refine bindP rfl ?_
  k_node
  refine wpAny_bind (wpAny_holding (wpAny_call (codeAny_call_builtin v9 v8 (wpAny_of_eq (v5 _ _ _ _) ?_))))
  refine wpAny_mono (x_new h g d tk os (fun v s' => ∃ C h' tk', v = .ref C ∧ s' = ⟨h', g, d, tk', os⟩ ∧ MadeK h bt f1 f2 f3 f4 f5 f6 sl st t0 hs ts C h') (fun _ _ => False) A.in1.in1 hA.in1.in1 X bt na f1 f2 f3 f4 f5 f6 sl st t0 t15 t16 hs ts n n1 n2 n3 F1 F2 F3 F4 F5 F6 hna hb hn hsl hst e1 e2 e3 e4 e5 e6
    fun C ns dm hv hv' ta tb tc h' tk' k0 k1 k2 k3 k4 => ⟨C, h', tk', rfl, rfl, k0, k1, ns, dm, hv, hv', ta, tb, tc, k2, k3, k4⟩) (fun fin s' hq => ?_) fun _ _ x => x.elim
  rcases fin with (_ | _ | _ | v) | _ <;> try exact hq.elim
  refine hide fun G1 hG1 => ?_
  obtain ⟨C, h', tk', rfl, rfl, hm⟩ := hq
  refine hG1 ?_
  clear hG1
  refine hide fun G2 hG2 => ?_
  obtain ⟨k0, k1, ns, dm, hv, hv', ta, tb, tc, k2, k3, k4⟩ := id hm
  refine hG2 ?_
  clear hG2
  show wpAny _ _ _ _ _ _
  refine wpAny_bind (wp_isInstance k2 p4 ?_)
  k_node
  k_node
  have hCx : h'.get? C = some { cls := .type "type", data := .cls { name := Str.ofString "K", bases := [.type "object"], mro := [.ref C, .type "object"], ns := ns, qualname := Str.ofString "cmp_to_key.<locals>.K", hasDict := false, slotNames := [Str.ofString "obj"] }, slots := #[some (.ref bt), none, some (.str (Str.ofString "K") t0), some (.str (Str.ofString "cmp_to_key.<locals>.K") (ts 13)), some (.builtin "object.__new__"), some (.bool false)] } := k2.trans (congrArg some (by kernel_rfl))
  refine wpAny_bind (wpAny_holding ?_)
  delta callSpecial?
  refine wpAny_bind (wp_specialOf k2 v6 ?_)
  k_node
  refine wpAny_holding ?_
  refine bindP (v7 _) ?_
  k_node
  refine wpAny_bind ?_
  refine wpAny_AX hA.in1 (xs4 h' g d tk' os _ _ C ns bt na t0 t0 (ts 13) (X.keeps k0) hCx fun h₂ tk₂ hk₂ => ?_)
  refine wpAny_pure ?_
  k_node
  k_node
  k_node
  exact wpAny_pure (hret C h₂ tk₂ (hm.keeps hk₂))
end
section
open PySem PySem.W PySem.W.X PyProof.Rows
local macro_rules | `(tactic| walk_at "no such key 0") => `(tactic| skip)
local macro_rules | `(tactic| walk_at "no such key 1") => `(tactic| skip)
local macro_rules | `(tactic| walk_at "no such key 2") => `(tactic| skip)
set_option hygiene false in
local macro_rules | `(tactic| x_close) => `(tactic| exact hret _ _ _ (mem_stays (by assumption)) (Mem.at (by assumption) 0 _ _ rfl) (Mem.nw (by assumption) _ (.head _)).2)
set_option maxHeartbeats 8000000 in
theorem xs5 {w : World} (h : Heap) (g : Array GenState) (d : Drawn) (tk : Nat) (os : OsState) (Q E : Value → Shared → Prop) (t : Tok) (X : (KM w.params).In h)
   (hret : ∀ m h' tk', h.StaysIn h' → h'.get? m = some { cls := .type "builtin_function_or_method", data := .fields #[.builtin "type.__prepare__", .type "type"] } → h.get? m = none → Q (.ref m) ⟨h', g, d, tk', os⟩) :
   wpAny (model PySem.Challenge.rw_ik0057_01.row.prog w) AX (call (.builtin "type.__getattribute__") [.type "type", .str (Str.ofString "__prepare__") t]) Q E ⟨h, g, d, tk, os⟩ := by
  x_run
set_option maxHeartbeats 8000000 in
theorem xs6 {w : World} (h : Heap) (g : Array GenState) (d : Drawn) (tk : Nat) (os : OsState) (Q E : Value → Shared → Prop) (t : Tok) (m bt : Addr) (X : (KM w.params).In h)
   (hm : h.get? m = some { cls := .type "builtin_function_or_method", data := .fields #[.builtin "type.__prepare__", .type "type"] })
   (hret : ∀ a h' tk', h.StaysIn h' → h'.get? a = some { cls := .type "dict", data := .dict #[] 0 } → h.get? a = none → Q (.ref a) ⟨h', g, d, tk', os⟩) :
   wpAny (model PySem.Challenge.rw_ik0057_01.row.prog w) AX (call (.ref m) [.str (Str.ofString "K") t, .ref bt]) Q E ⟨h, g, d, tk, os⟩ := by
  x_run
theorem km37 (P : Params) : (KM P).lookup 37 = none := by kernel_rfl
theorem LD.km {w : World} {h h' : Heap} {ex : Addr → Prop} {news : List (Addr × Obj)} (D : LD h ex h' news) (X : (KM w.params).In h) (hex : ∀ b, ex b → (KM w.params).lookup b = none) : (KM w.params).In h' := fun b o e => by
  refine D.keep b o (fun hb => ?_) (X b o e)
  rw [hex b hb] at e
  cases e
theorem p3' : typeOf (.type "type") = pure (.type "type") := by kernel_rfl
theorem u1 : typeLookup (.type "type") "__getattribute__" = pure (some (.builtin "type.__getattribute__")) := by kernel_rfl
theorem u2 : bindSpecial (.builtin "type.__getattribute__") (.type "type") = pure (.builtin "type.__getattribute__", [.type "type"]) := by kernel_rfl
theorem wp_prep {w : World} {A : Around} {h : Heap} {g : Array GenState} {d : Drawn} {tk : Nat} {os : OsState} {Q : Option Value → Shared → Prop} {E : Value → Shared → Prop} (hA : Fits 0 A) (X : (KM w.params).In h)
   (hret : ∀ m h' tk', h.StaysIn h' → h'.get? m = some { cls := .type "builtin_function_or_method", data := .fields #[.builtin "type.__prepare__", .type "type"] } → h.get? m = none → Q (some (.ref m)) ⟨h', g, d, tk', os⟩) :
   wpAny (model RP w) A (getAttr? (.type "type") (Str.ofString "__prepare__")) Q E ⟨h, g, d, tk, os⟩ := by
  unfold getAttr? getAttrBy?
  refine wpAny_bind (wpAny_mkText ?_)
  refine wpAny_bind (wpAny_attempt ?_)
  unfold getAttrBy
  refine wpAny_holding (wpAny_bind (wpAny_of_eq p3' (wpAny_bind (wpAny_of_eq u1 ?_))))
  show wpAny _ _ (getAttrByItsOwn (.type "type") (.str _ tk) (.type "type") (.builtin "type.__getattribute__") false false) _ _ _
  unfold getAttrByItsOwn hookBefore callGetattribute boundAndCalled
  refine wpAny_bind (wpAny_of_eq (show (if onTheHeap (.type "type") then typeLookup (.type "type") "__getattr__" else pure none) = pure none from rfl) ?_)
  refine wpAny_bind (wpAny_attempt (wpAny_holding ?_))
  show wpAny _ _ (bindSpecial (.builtin "type.__getattribute__") (.type "type") >>= _) _ _ _
  refine wpAny_bind (wpAny_of_eq u2 ?_)
  refine wpAny_AX hA (xs5 h g d _ os _ _ tk X fun m h' tk' hk hm hf => ?_)
  refine wpAny_pure ?_
  exact wpAny_pure (hret m h' tk' hk hm hf)
end
section
open PySem PySem.W PySem.W.X PyProof.Rows
section
variable {M : Model} {A : Around} {E : Value → Shared → Prop} {s : Shared}
/-- the class's code, made anew -/
theorem wp_classCode {env : Env} {c P : Addr} {pos : Pos} {firstLine : Nat} {name qualname : Str} {scope : Scope} {Q : Value → Shared → Prop} {ps : Array Value} (hc : env.code = .ref c) (C : CodeHd s.heap c P) (hP : s.heap.get? P = some (tabObj ps)) (hnf : codeAmong pos ps.toList = none) (ht : TriplesOk ps.toList)
    (k : ∀ c' P' h' tk, Heap.ExtBut P s.heap h' → s.heap.objs.size ≤ c' → s.heap.objs.size ≤ P' → CodeHd h' c' P' → h'.get? P' = some (tabObj #[]) → h'.get? P = some (tabObj (ps ++ #[rawInt pos.line, rawInt pos.col, .ref c'])) → Q (.ref c') { s with heap := h', toks := tk }) :
    wpAny M A (classCode env pos firstLine name qualname scope) Q E s := by
  refine hide fun G1 hG1 => ?_
  obtain ⟨o, vs, file, tf, flags, tg, inF, text, tt, e1, e2, e3, e4, f3, f4, f5, f6, f7, f11⟩ := id C
  refine hG1 ?_
  clear hG1
  unfold classCode codeAt
  rw [hc, if_neg (show ¬ ((Value.ref c == Value.none) = true) from Bool.false_ne_true)]
  refine wpAny_bind (wpAny_fieldsOf e1 e3 ?_)
  rw [f3]
  refine wpAny_bind (wpAny_fieldsOf hP rfl ?_)
  rw [hnf, f4, f5, f6, f7]
  refine wpAny_bind (wpAny_newCodeX fun c' P' h' tk hk hc' hP' hcode' htab' hrec' => ?_)
  have hop := hk _ _ hP
  have hPlt := Heap.lt_size hP
  refine wpAny_bind (wpAny_updateFieldsOfTheText hop rfl ?_)
  generalize hF : (fun vs : Array Value => if (codeAmong pos vs.toList).isSome = true then vs else vs ++ #[rawInt pos.line, rawInt pos.col, .ref c']) = F
  have hnew : Obj.mapFields F (tabObj ps) = tabObj (ps ++ #[rawInt pos.line, rawInt pos.col, .ref c']) := by
    rw [← hF]; simp only [Obj.mapFields, hnf]; rfl
  have hget : (h'.update P (Obj.mapFields F)).get? P = some (tabObj (ps ++ #[rawInt pos.line, rawInt pos.col, .ref c'])) := by
    have q := Heap.get?_update_self (h := h') (Obj.mapFields F) hop (by rw [hnew]; rfl)
    rw [q, hnew]
  have hs : Heap.SameBut P h' (h'.update P (Obj.mapFields F)) := Heap.SameBut.update ..
  refine wpAny_bind (wpAny_fieldsOf hget rfl ?_)
  have hl : (ps ++ #[rawInt pos.line, rawInt pos.col, Value.ref c']).toList = ps.toList ++ [rawInt pos.line, rawInt pos.col, .ref c'] := by simp
  rw [hl, codeAmong_snoc _ ht hnf]
  have ncP : c' ≠ P := Nat.ne_of_gt (Nat.lt_of_lt_of_le hPlt hc')
  have nPP : P' ≠ P := Nat.ne_of_gt (Nat.lt_of_lt_of_le hPlt hP')
  have D := CodeHd.of hcode' htab'
  refine wpAny_pure (k c' P' _ _ (fun b o' hb e => (hs.2 b hb).trans (hk b o' e)) hc' hP' ?_ ((hs.2 _ nPP).trans htab'.2) hget)
  refine hide fun G2 hG2 => ?_
  obtain ⟨o, vs, file, tf, flags, tg, inF, text, tt, e1, r⟩ := D
  refine hG2 ?_
  clear hG2
  exact ⟨o, vs, file, tf, flags, tg, inF, text, tt, (hs.2 _ ncP).trans e1, r⟩
/-- the class's code, found -/
theorem wp_classCode_hit {env : Env} {c P : Addr} {pos : Pos} {firstLine : Nat} {name qualname : Str} {scope : Scope} {Q : Value → Shared → Prop} {ps : Array Value} {cv : Value} (hc : env.code = .ref c) (C : CodeHd s.heap c P) (hP : s.heap.get? P = some (tabObj ps)) (hf : codeAmong pos ps.toList = some cv)
    (k : Q cv s) : wpAny M A (classCode env pos firstLine name qualname scope) Q E s := by
  refine hide fun G3 hG3 => ?_
  obtain ⟨o, vs, file, tf, flags, tg, inF, text, tt, e1, e2, e3, e4, f3, f4, f5, f6, f7, f11⟩ := id C
  refine hG3 ?_
  clear hG3
  unfold classCode codeAt
  rw [hc, if_neg (show ¬ ((Value.ref c == Value.none) = true) from Bool.false_ne_true)]
  refine wpAny_bind (wpAny_fieldsOf e1 e3 ?_)
  rw [f3]
  refine wpAny_bind (wpAny_fieldsOf hP rfl ?_)
  rw [hf]
  exact wpAny_pure k
end
end
section
open PySem PySem.W PySem.W.X PyProof.Rows
/-- the class code's table: its methods, three lines apart -/
noncomputable def psF : Nat → List Addr → List Value
  | _, [] => []
  | i, c :: r => rawInt ((46 + 3 * i : Nat) : Int) :: rawInt ((8 : Nat) : Int) :: .ref c :: psF (i + 1) r
theorem psF_ok : ∀ (k : Nat) (cs : List Addr), TriplesOk (psF k cs)
  | _, [] => trivial
  | k, c :: r => psF_ok (k + 1) r
theorem psF_snoc : ∀ (k : Nat) (cs : List Addr) (c : Addr), psF k (cs ++ [c]) = psF k cs ++ [rawInt ((46 + 3 * (k + cs.length) : Nat) : Int), rawInt ((8 : Nat) : Int), .ref c]
  | k, [], c => rfl
  | k, x :: r, c => by
    show _ :: _ :: _ :: psF (k + 1) (r ++ [c]) = _
    rw [psF_snoc (k + 1) r c]
    show _ = rawInt _ :: rawInt _ :: .ref x :: (psF (k + 1) r ++ _)
    rw [List.length_cons, show k + 1 + r.length = k + (r.length + 1) by omega]
theorem psF_among {p : Pos} (hc : p.col = 8) : ∀ (k i : Nat) (cs : List Addr), p.line = 46 + 3 * (k + i) → codeAmong p (psF k cs) = (cs[i]?).map Value.ref
  | k, i, [], h => rfl
  | k, 0, c :: r, h => by
    show (if _ then _ else _) = _
    rw [if_pos (by rw [h, hc]; simp)]; rfl
  | k, i + 1, c :: r, h => by
    show (if _ then _ else _) = _
    rw [if_neg (by rw [h, hc]; simp; omega), psF_among hc (k + 1) i r (by omega)]; rfl

/-- the methods' codes: as many as are made, or all six from before -/
noncomputable def PSt (h₀ : Heap) (ck P : Addr) (qs : List Str) (h : Heap) (j : Nat) : Prop :=
  CodeHd h ck P ∧ ∃ cs : List Addr, h.get? P = some (tabObj (psF 0 cs).toArray) ∧ (∀ (i : Nat) (c : Addr) (q : Str), cs[i]? = some c → qs[i]? = some q → h.CodeRec (.ref c) q) ∧
    ((cs.length = j ∧ h₀.get? P = none) ∨ (cs.length = 6 ∧ h₀.get? P = some (tabObj (psF 0 cs).toArray)))
section
variable {M : Model} {A : Around} {E : Value → Shared → Prop} {h₀ h : Heap} {ex : Addr → Prop} {news : List (Addr × Obj)} {g : Array GenState} {d : Drawn} {t : Nat} {os : OsState} {mg : Str → Option Value} {ck P : Addr} {qs : List Str}
theorem CodeRec_keeps {h h' : Heap} {c : Addr} {q : Str} (x : h.CodeRec (.ref c) q) (k : ∀ o, h.get? c = some o → (∃ vs t, o.data = .fields vs ∧ vs[1]? = some (.str q t)) → h'.get? c = some o) : h'.CodeRec (.ref c) q := by
  refine hide fun G1 hG1 => ?_
  obtain ⟨c₂, oc, vs, t, e, hoc, hd, hv⟩ := x
  refine hG1 ?_
  clear hG1
  cases e
  exact ⟨c, oc, vs, t, rfl, k _ hoc ⟨vs, t, hd, hv⟩, hd, hv⟩
/-- a def of the class body -/
theorem ld_def {j : Nat} {name qual : Str} {params : Arguments} {body : List Stmt} {scope : Scope} {env : Env} {pos : Pos} {firstLine : Nat} {clos : List (Str × Addr)} {Q : Value → Shared → Prop}
    (D : LD h₀ ex h news) (hexP : ex P) (Z : PSt h₀ ck P qs h j) (hj : j < 6) (hq : qs[j]? = some qual) (hcl : closureFor scope env = pure clos) (hge : env.globals = mainGlobals) (hg : h.Ns mainGlobals mg) (hcode : env.code = .ref ck)
    (hgP : mainGlobals ≠ P) (hb : h.BuiltinsAt mg P) (hcol : pos.col = 8) (hline : pos.line = 46 + 3 * j)
    (k : ∀ f c ctv doc h' tk, (∀ b o, b ≠ P → h.get? b = some o → h'.get? b = some o) → LD h₀ ex h' ((f, fnMade name qual params body scope clos doc ((mg "__name__").getD .none) c ctv) :: news) → PSt h₀ ck P qs h' (j + 1) → h'.CodeRec (.ref c) qual → Q (.ref f) ⟨h', g, d, tk, os⟩) :
    wpAny M A (makeFunction name qual params (.stmts body) scope env [] [] [] pos firstLine) Q E ⟨h, g, d, t, os⟩ := by
  refine hide fun G2 hG2 => ?_
  obtain ⟨Z1, cs, Z2, Z3, Z4⟩ := Z
  refine hG2 ?_
  clear hG2
  have hltP := Heap.lt_size Z2
  have ham := psF_among (p := pos) hcol 0 j cs (by rw [hline, Nat.zero_add])
  have hckP : ck ≠ P := by obtain ⟨_, _, _, _, _, _, _, _, _, _, _, _, _, _, _, _, _, _, r⟩ := Z1; exact r
  rcases Z4 with ⟨hl, hn⟩ | ⟨hl, hn⟩
  · have h0 : cs[j]? = none := by rw [List.getElem?_eq_none_iff]; omega
    rw [h0] at ham
    refine makeFunction_K (mg := mg) hcl hge hg hcode Z1 Z2 (psF_ok 0 cs) ham hgP hb fun c' ctv doc h' tk hx hge' hlt hrec htb => ?_
    have hcP : c' ≠ P := Nat.ne_of_gt (Nat.lt_of_lt_of_le hltP hge')
    have hfP : h'.objs.size ≠ P := Nat.ne_of_gt (Nat.lt_of_lt_of_le hltP (Nat.le_of_lt (Nat.lt_of_le_of_lt hge' hlt)))
    have kp : ∀ b o, b ≠ P → h.get? b = some o → (h'.push (fnMade name qual params body scope clos doc ((mg "__name__").getD .none) c' ctv)).get? b = some o := fun b o hb e => Heap.get?_push_of_some _ (hx b o hb e)
    have hsz : h.objs.size ≤ h'.objs.size := Nat.le_of_lt (Nat.lt_of_le_of_lt hge' hlt)
    have hfr : h₀.get? h'.objs.size = none := D.fresh hsz
    refine k h'.objs.size c' ctv doc _ tk kp ?_ ?_ ?_
    · refine LD.take (D.ext (fun b o hb e => kp b o (fun q => hb (q ▸ hexP)) e) fun b hb => by rw [Heap.size_push]; exact Nat.lt_succ_of_le (Nat.le_trans (Nat.le_of_lt (D.big b hb)) hsz)) (Heap.get?_push_size _ rfl) hfr (fun hb => ?_) fun p hp e => ?_
      · exact absurd (D.big _ hb) (Nat.not_lt.mpr hsz)
      · exact absurd (Heap.lt_size (D.nw p hp).1) (by rw [e]; exact Nat.not_lt.mpr hsz)
    · refine ⟨?_, cs ++ [c'], ?_, fun i c q hi hqi => ?_, .inl ⟨by rw [List.length_append, hl]; rfl, hn⟩⟩
      · refine hide fun G3 hG3 => ?_
        obtain ⟨o, vs, file, tf, flags, tg, inF, text, tt, e1, r⟩ := Z1
        refine hG3 ?_
        clear hG3
        exact ⟨o, vs, file, tf, flags, tg, inF, text, tt, kp _ _ hckP e1, r⟩
      · rw [psF_snoc]
        refine (Heap.get?_push_of_some _ htb).trans ?_
        rw [hline, hcol, hl, Nat.zero_add]
        simp
      · by_cases hic : i < cs.length
        · rw [List.getElem?_append_left hic] at hi
          refine CodeRec_keeps (Z3 i c q hi hqi) fun o ho hf => kp _ _ (fun e => ?_) ho
          refine hide fun G4 hG4 => ?_
          obtain ⟨vs, t, hd, hv⟩ := hf
          refine hG4 ?_
          clear hG4
          rw [e, Z2] at ho
          cases ho
          cases hd
          cases cs with
          | nil => cases hv
          | cons x r => cases hv
        · have : i = cs.length := by
            have := (List.getElem?_eq_some_iff.mp hi).1
            rw [List.length_append, List.length_singleton] at this
            omega
          subst this
          rw [List.getElem?_concat_length] at hi
          cases hi
          rw [hl, hq] at hqi
          cases hqi
          exact CodeRec_keeps hrec fun o ho _ => Heap.get?_push_of_some _ ho
    · exact CodeRec_keeps hrec fun o ho _ => Heap.get?_push_of_some _ ho
  · obtain ⟨c, hc⟩ : ∃ c, cs[j]? = some c := ⟨_, List.getElem?_eq_getElem (by omega)⟩
    rw [hc] at ham
    refine makeFunction_hit (mg := mg) hcl hge hg hcode Z1 Z2 (psF_ok 0 cs) ham hb fun ctv doc h' tk hk hsz => ?_
    have kp : ∀ b o, h.get? b = some o → (h'.push (fnMade name qual params body scope clos doc ((mg "__name__").getD .none) c ctv)).get? b = some o := fun b o e => Heap.get?_push_of_some _ (hk b o e)
    have hfr : h₀.get? h'.objs.size = none := D.fresh hsz
    refine k h'.objs.size c ctv doc _ tk (fun b o _ e => kp b o e) ?_ ?_ ?_
    · refine LD.take (D.ext (fun b o hb e => kp b o e) fun b hb => by rw [Heap.size_push]; exact Nat.lt_succ_of_le (Nat.le_trans (Nat.le_of_lt (D.big b hb)) hsz)) (Heap.get?_push_size _ rfl) hfr (fun hb => ?_) fun p hp e => ?_
      · exact absurd (D.big _ hb) (Nat.not_lt.mpr hsz)
      · exact absurd (Heap.lt_size (D.nw p hp).1) (by rw [e]; exact Nat.not_lt.mpr hsz)
    · refine ⟨Z1.keeps kp, cs, kp _ _ Z2, fun i c q hi hqi => CodeRec_keeps (Z3 i c q hi hqi) fun o ho _ => kp _ _ ho, .inr ⟨hl, hn⟩⟩
    · exact CodeRec_keeps (Z3 j c qual hc hq) fun o ho _ => kp _ _ ho
end
end
section
open PySem PySem.W PySem.W.X PyProof.Rows
noncomputable def stC : Stmt := (dBody (stAt 5))[0]?.getD (.Pass ⟨0, 0, 0, 0⟩)
noncomputable def cBody : List Stmt := match stC with | .ClassDef _ _ _ b _ _ _ _ _ _ _ => b | _ => []
noncomputable def cScope : Scope := match stC with | .ClassDef _ _ _ _ _ _ s _ _ _ _ => s | _ => default
noncomputable def cStatics : List Str := match stC with | .ClassDef _ _ _ _ _ _ _ _ _ s _ => s | _ => []
noncomputable def cPos : Pos := match stC with | .ClassDef _ _ _ _ _ _ _ _ _ _ s => s | _ => ⟨0, 0, 0, 0⟩
theorem stC_eq : stC = .ClassDef (Str.ofString "K") [.Name (Str.ofString "object") ⟨42, 12, 42, 18⟩] [] cBody [] [] cScope none (Str.ofString "K") cStatics cPos := by kernel_rfl
noncomputable abbrev envK (L : Addr) : Env := envOfC (Str.ofString "cmp_to_key") (dScope (stAt 5)) L 42 (.ref 41)
/-- the class body's frame -/
noncomputable def cEnv (L na ck fr : Addr) : Env :=
  { scope := cScope, locals := na, globals := mainGlobals, cells := [(Str.ofString "mycmp", L + 1)], qual := qualnameIn (envK L) (Str.ofString "K") (Str.ofString "K") ++ Str.ofString ".", code := .ref ck, frame := some fr, builtins := builtinsNs }
noncomputable def mName (i : Nat) : Str := (["__init__", "__lt__", "__gt__", "__eq__", "__le__", "__ge__"] : List Str).getD i ""
noncomputable def mSt (i : Nat) : Stmt := cBody[i + 2]?.getD (.Pass ⟨0, 0, 0, 0⟩)
noncomputable def mPos (i : Nat) : Pos := match mSt i with | .FunctionDef _ _ _ _ _ _ _ _ _ p => p | _ => ⟨0, 0, 0, 0⟩
noncomputable def qM (i : Nat) : Str := qualnameIn (cEnv 0 0 0 0) (mName i) (mName i)
noncomputable def qsK : List Str := [qM 0, qM 1, qM 2, qM 3, qM 4, qM 5]
noncomputable def mClos (L : Addr) (i : Nat) : List (Str × Addr) := match i with | 0 => [] | _ => [(Str.ofString "mycmp", L + 1)]
theorem mSt_eq : ∀ i ∈ [0, 1, 2, 3, 4, 5], mSt i = .FunctionDef (mName i) (dParams (mSt i)) (dBody (mSt i)) [] none [] (dScope (mSt i)) none (mName i) (mPos i) ∧ (dParams (mSt i)).defaults = [] ∧ (dParams (mSt i)).kw_defaults = [] ∧ (mPos i).col = 8 ∧ (mPos i).line = 46 + 3 * i := by
  intro i hi
  simp only [List.mem_cons, List.not_mem_nil, or_false] at hi
  rcases hi with rfl | rfl | rfl | rfl | rfl | rfl <;> exact ⟨by kernel_rfl, by kernel_rfl, by kernel_rfl, by kernel_rfl, by kernel_rfl⟩
theorem mClos_eq (L na ck fr : Addr) : ∀ i ∈ [0, 1, 2, 3, 4, 5], closureFor (dScope (mSt i)) (cEnv L na ck fr) = pure (mClos L i) ∧ annTrees (dParams (mSt i)) none (cEnv L na ck fr) = [] ∧ qualnameIn (cEnv L na ck fr) (mName i) (mName i) = qM i ∧ qsK[i]? = some (qM i) := by
  intro i hi
  simp only [List.mem_cons, List.not_mem_nil, or_false] at hi
  rcases hi with rfl | rfl | rfl | rfl | rfl | rfl <;> exact ⟨by kernel_rfl, by kernel_rfl, by kernel_rfl, by kernel_rfl⟩
theorem cBody_eq : cBody = [.Assign [.Name (Str.ofString "__module__") ⟨43, 8, 43, 18⟩] (.Constant (.str (Str.ofString "cpy313.functools")) 0 ⟨43, 21, 43, 39⟩) ⟨43, 8, 43, 39⟩,
   .Assign [.Name (Str.ofString "__slots__") ⟨44, 8, 44, 17⟩] (.List [.Constant (.str (Str.ofString "obj")) 0 ⟨44, 21, 44, 26⟩] ⟨44, 20, 44, 27⟩) ⟨44, 8, 44, 27⟩,
   mSt 0, mSt 1, mSt 2, mSt 3, mSt 4, mSt 5, cBody[8]?.getD (.Pass ⟨0, 0, 0, 0⟩)] := by kernel_rfl
theorem stores (L na ck fr : Addr) (v : Value) : ∀ x ∈ [Str.ofString "__module__", Str.ofString "__qualname__", Str.ofString "__firstlineno__", Str.ofString "__slots__", mName 0, mName 1, mName 2, mName 3, mName 4, mName 5, Str.ofString "__hash__", Str.ofString "__static_attributes__"], storeName (cEnv L na ck fr) x v = localSet (cEnv L na ck fr) x v := by
  intro i hi
  simp only [List.mem_cons, List.not_mem_nil, or_false] at hi
  rcases hi with rfl | rfl | rfl | rfl | rfl | rfl | rfl | rfl | rfl | rfl | rfl | rfl <;> kernel_rfl
section
variable {M : Model} {A : Around} {E : Value → Shared → Prop} {h₀ h : Heap} {ex : Addr → Prop} {news : List (Addr × Obj)} {g : Array GenState} {d : Drawn} {t : Nat} {os : OsState}
theorem ld_nsSetS {a : Addr} {o : Obj} {name : Str} {v : Value} {Q : Unit → Shared → Prop} (D : LD h₀ ex h news) (i : Nat) (hi : news[i]? = some (a, o)) (hok : okSet name o = true) (hf : ∀ hv, (Obj.putName name hv (.str name t) v o).isFreed = false)
    (k : ∀ h' hv, (∀ b o, b ≠ a → h.get? b = some o → h'.get? b = some o) → LD h₀ ex h' (news.set i (a, Obj.putName name hv (.str name t) v o)) → Q () ⟨h', g, d, t + 1, os⟩) : wpAny M A (nsSet a name v) Q E ⟨h, g, d, t, os⟩ := by
  unfold nsSet strHash
  refine wpAny_bind (wpAny_bind (nd_ask ?_))
  refine wpAny_pure (wpAny_pure ?_)
  refine wpAny_bind (wpAny_mkText ?_)
  refine wpAny_bind (ld_load D i hi ?_)
  unfold okSet at hok
  split at hok
  · rename_i es n hd
    rw [hd]
    dsimp only
    rw [if_neg (by simpa using hok)]
    exact wpAny_updatePart (D.at i hi) (k _ _ (fun b o hb e => ((Heap.SameBut.update ..).2 b hb).trans e) (D.update hi (hf _)))
  · cases hok
theorem ld_store {env : Env} {name : Str} {v : Value} {o : Obj} {Q : Unit → Shared → Prop} (D : LD h₀ ex h news) (i : Nat) (hi : news[i]? = some (env.locals, o)) (hs : storeName env name v = localSet env name v) (hc : o.cls = .type "dict") (hok : okSet name o = true) (hf : ∀ hv, (Obj.putName name hv (.str name t) v o).isFreed = false)
    (k : ∀ h' hv, (∀ b o, b ≠ env.locals → h.get? b = some o → h'.get? b = some o) → LD h₀ ex h' (news.set i (env.locals, Obj.putName name hv (.str name t) v o)) → Q () ⟨h', g, d, t + 1, os⟩) : wpAny M A (storeName env name v) Q E ⟨h, g, d, t, os⟩ := by
  rw [hs]
  delta localSet
  refine wpAny_bind (wpAny_load (D.at i hi) ?_)
  rw [hc, if_pos (by rfl)]
  exact ld_nsSetS D i hi hok hf k
end
end
section
open PySem PySem.W PySem.W.X PyProof.Rows
/-- a method of K -/
noncomputable def mObj (L : Addr) (i : Nat) (doc ctv : Value) (c : Addr) : Obj := fnMade (mName i) (qM i) (dParams (mSt i)) (dBody (mSt i)) (dScope (mSt i)) (mClos L i) doc (.str (Str.ofString "law_ik0057_01") 398) c ctv
theorem ld_mdef {w : World} {A : Around} {E : Value → Shared → Prop} {mg mb : Str → Option Value} {h₀ h : Heap} {ex : Addr → Prop} {news : List (Addr × Obj)} {g : Array GenState} {d : Drawn} {t : Nat} {os : OsState} {L na ck fr P : Addr} {o : Obj} {Q : Flow → Shared → Prop}
    (j : Nat) (hj : j ∈ [0, 1, 2, 3, 4, 5]) (i : Nat) (T : Top topProg Lz (fun _ => none) mg mb h) (hnm : mg "__name__" = some (.str (Str.ofString "law_ik0057_01") 398)) (D : LD h₀ ex h news) (hexP : ex P) (hPM : ∀ o, h.get? P = some o → o.cls = .none) (Z : PSt h₀ ck P qsK h j)
    (hi : news[i]? = some (na, o)) (hc : o.cls = .type "dict") (hok : okSet (mName j) o = true) (hf : ∀ hv t v, (Obj.putName (mName j) hv (.str (mName j) t) v o).isFreed = false)
    (k : ∀ f c ctv doc h' tk hv t', (∀ b o, b ≠ P → b ≠ na → h.get? b = some o → h'.get? b = some o) → LD h₀ ex h' ((f, mObj L j doc ctv c) :: news.set i (na, Obj.putName (mName j) hv (.str (mName j) t') (.ref f) o)) → PSt h₀ ck P qsK h' (j + 1) → h'.CodeRec (.ref c) (qM j) → Q .next ⟨h', g, d, tk, os⟩) :
    wpAny (model RP w) A (exec (mSt j) (cEnv L na ck fr)) Q E ⟨h, g, d, t, os⟩ := by
  refine hide fun G1 hG1 => ?_
  obtain ⟨e1, e2, e3, e4, e5⟩ := mSt_eq j hj
  refine hG1 ?_
  clear hG1
  refine hide fun G2 hG2 => ?_
  obtain ⟨c1, c2, c3, c4⟩ := mClos_eq L na ck fr j hj
  refine hG2 ?_
  clear hG2
  rw [e1]
  refine nestDef_K e2 e3 c2 ?_
  rw [c3]
  have hj6 : j < 6 := (by decide : ∀ j ∈ [0, 1, 2, 3, 4, 5], j < 6) j hj
  refine hide fun G3 hG3 => ?_
  obtain ⟨bm, ob, b1, b2, b3, b4, b5, b6⟩ := T.bmain
  refine hG3 ?_
  clear hG3
  have hgP : mainGlobals ≠ P := fun q => by
    refine hide fun G4 hG4 => ?_
    obtain ⟨o, es, ep, e, hd, _⟩ := T.g
    refine hG4 ?_
    clear hG4
    refine hide fun G5 hG5 => ?_
    obtain ⟨_, cs, zp, _⟩ := Z
    refine hG5 ?_
    clear hG5
    rw [q, zp] at e; cases e; cases hd
  have hbP : bm ≠ P := fun q => by
    have z := hPM _ (q ▸ b3)
    rw [b4] at z; cases z
  have hbG : bm ≠ mainGlobals := fun q => by
    refine hide fun G6 hG6 => ?_
    obtain ⟨o, es, ep, e, hd, _⟩ := T.g
    refine hG6 ?_
    clear hG6
    rw [q, e] at b3; cases b3; rw [hd] at b6; cases b6
  refine ld_def (mg := mg) D hexP Z hj6 c4 c1 rfl T.g rfl hgP ⟨bm, ob, b1, b2, hbG, hbP, b3, b4, b5, b6⟩ e4 e5 fun f c ctv doc h₁ tk hk D1 Z1 hr => ?_
  have hex : ¬ ex na := (D.nw _ (List.mem_of_getElem? hi)).2.2
  have hnP : na ≠ P := fun e => hex (e ▸ hexP)
  have hpm : (mg "__name__").getD .none = .str (Str.ofString "law_ik0057_01") 398 := by rw [hnm]; rfl
  rw [hpm] at D1
  have hst : storeName (cEnv L na ck fr) (mName j) (.ref f) = localSet (cEnv L na ck fr) (mName j) (.ref f) := by
    refine stores L na ck fr (.ref f) _ ?_
    simp only [List.mem_cons, List.not_mem_nil, or_false] at hj ⊢
    rcases hj with rfl | rfl | rfl | rfl | rfl | rfl <;> simp
  refine ld_store D1 (i + 1) hi hst hc hok (fun hv => hf hv _ _) fun h₂ hv hk₂ D2 => ?_
  have hk2 : ∀ b o, b ≠ na → h₁.get? b = some o → h₂.get? b = some o := hk₂
  have hna : ∀ (q : Str) (c : Addr), h₁.CodeRec (.ref c) q → h₂.CodeRec (.ref c) q := fun q c x => CodeRec_keeps x fun o' ho hfl => hk2 _ _ (fun e => by
    refine hide fun G7 hG7 => ?_
    obtain ⟨vs, tt, hd, hv⟩ := hfl
    refine hG7 ?_
    clear hG7
    have z := D1.at (i + 1) hi
    rw [e, z] at ho
    cases ho
    unfold okSet at hok
    rw [hd] at hok
    cases hok) ho
  refine k f c ctv doc h₂ _ hv _ (fun b o' h1 h2 e => hk2 _ _ h2 (hk _ _ h1 e)) D2 ?_ (hna _ _ hr)
  refine hide fun G8 hG8 => ?_
  obtain ⟨Z2, cs, Z3, Z4, Z5⟩ := Z1
  refine hG8 ?_
  clear hG8
  refine ⟨?_, cs, hk2 _ _ (Ne.symm hnP) Z3, fun i' c' q a b => hna _ _ (Z4 i' c' q a b), Z5⟩
  refine hide fun G9 hG9 => ?_
  obtain ⟨o', vs, file, tf, flags, tg, inF, text, tt, e1, e2', e3', r⟩ := Z2
  refine hG9 ?_
  clear hG9
  refine ⟨o', vs, file, tf, flags, tg, inF, text, tt, hk2 _ _ (fun e => ?_) e1, e2', e3', r⟩
  have z := D1.at (i + 1) hi
  rw [e, z] at e1
  cases e1
  rw [hc] at e2'
  exact absurd (Value.type.inj e2') (by decide)
end
section
open PySem PySem.W PySem.W.X PyProof.Rows
/-- the three first names -/
noncomputable def es3 (h0 h1 h2 : Int) (t0 t1 t2 t12 t13 t14 : Tok) : Array DictEntry :=
  #[⟨h0, .str (Str.ofString "__module__") t0, .str (Str.ofString "law_ik0057_01") t12⟩, ⟨h1, .str (Str.ofString "__qualname__") t1, .str qK t13⟩, ⟨h2, .str (Str.ofString "__firstlineno__") t2, .int 42 t14⟩]
/-- the names behind the body, ahead of the last -/
noncomputable def esB (hs : Nat → Int) (ts : Nat → Tok) (q : Str) (sl f1 f2 f3 f4 f5 f6 : Addr) : Array DictEntry :=
  #[⟨hs 0, .str (Str.ofString "__module__") (ts 0), .str (Str.ofString "cpy313.functools") (ts 12)⟩, ⟨hs 1, .str (Str.ofString "__qualname__") (ts 1), .str q (ts 13)⟩,
     ⟨hs 2, .str (Str.ofString "__firstlineno__") (ts 2), .int 42 (ts 14)⟩, ⟨hs 3, .str (Str.ofString "__slots__") (ts 3), .ref sl⟩, ⟨hs 4, .str (Str.ofString "__init__") (ts 4), .ref f1⟩, ⟨hs 5, .str (Str.ofString "__lt__") (ts 5), .ref f2⟩,
     ⟨hs 6, .str (Str.ofString "__gt__") (ts 6), .ref f3⟩, ⟨hs 7, .str (Str.ofString "__eq__") (ts 7), .ref f4⟩, ⟨hs 8, .str (Str.ofString "__le__") (ts 8), .ref f5⟩, ⟨hs 9, .str (Str.ofString "__ge__") (ts 9), .ref f6⟩,
     ⟨hs 10, .str (Str.ofString "__hash__") (ts 10), .none⟩]
theorem s8_eq : cBody[8]?.getD (.Pass ⟨0, 0, 0, 0⟩) = .Assign [.Name (Str.ofString "__hash__") ⟨63, 8, 63, 16⟩] (.Constant .none 0 ⟨63, 19, 63, 23⟩) ⟨63, 8, 63, 23⟩ := by kernel_rfl
theorem PSt.keeps {h₀ h h' : Heap} {ck P : Addr} {qs : List Str} {j : Nat} (Z : PSt h₀ ck P qs h j) (k : h.StaysIn h') : PSt h₀ ck P qs h' j := by
  obtain ⟨Z1, cs, Z2, Z3, Z4⟩ := Z
  exact ⟨Z1.keeps k, cs, k _ _ Z2, fun i c q a b => CodeRec_keeps (Z3 i c q a b) fun o ho _ => k _ _ ho, Z4⟩
theorem PSt.upd {h₀ h h' : Heap} {ck P na : Addr} {qs : List Str} {j : Nat} {o : Obj} {nm : Str} (Z : PSt h₀ ck P qs h j) (hna : h.get? na = some o) (hc : o.cls = .type "dict") (hok : okSet nm o = true) (hnP : na ≠ P)
    (kk : ∀ b o, b ≠ na → h.get? b = some o → h'.get? b = some o) : PSt h₀ ck P qs h' j := by
  have hna' : ∀ (q : Str) (c : Addr), h.CodeRec (.ref c) q → h'.CodeRec (.ref c) q := fun q c x => CodeRec_keeps x fun o' ho hfl => kk _ _ (fun e => by
    obtain ⟨vs, tt, hd, hv⟩ := hfl
    rw [e, hna] at ho
    cases ho
    unfold okSet at hok
    rw [hd] at hok
    cases hok) ho
  obtain ⟨Z2, cs, Z3, Z4, Z5⟩ := Z
  refine ⟨?_, cs, kk _ _ (Ne.symm hnP) Z3, fun i' c' q a b => hna' _ _ (Z4 i' c' q a b), Z5⟩
  obtain ⟨o', vs, file, tf, flags, tg, inF, text, tt, e1, e2', e3', r⟩ := Z2
  refine ⟨o', vs, file, tf, flags, tg, inF, text, tt, kk _ _ (fun e => ?_) e1, e2', e3', r⟩
  rw [e, hna] at e1
  cases e1
  rw [hc] at e2'
  exact absurd (Value.type.inj e2') (by decide)
theorem ld_newObjS {M : Model} {A : Around} {E : Value → Shared → Prop} {h₀ h : Heap} {P : Addr → Prop} {news : List (Addr × Obj)} {g : Array GenState} {d : Drawn} {t : Nat} {os : OsState} {ty : String} {data : Data} {Q : Value → Shared → Prop} (D : LD h₀ P h news) (hsz : sizeOk data) (hf : ({ cls := .type ty, data := data } : Obj).isFreed = false) (k : ∀ a h', h.StaysIn h' → LD h₀ P h' ((a, { cls := .type ty, data := data }) :: news) → Q (.ref a) ⟨h', g, d, t, os⟩) :
    wpAny M A (newObj (.type ty) data) Q E ⟨h, g, d, t, os⟩ := wpAny_newObj_type (k _ _ (fun b o e => Heap.get?_push_of_some _ e) (D.alloc hf)) hsz
theorem LD.tail {h₀ h : Heap} {P : Addr → Prop} {x : Addr × Obj} {news : List (Addr × Obj)} (D : LD h₀ P h (x :: news)) : LD h₀ P h news :=
  ⟨D.keep, fun p hp => D.nw p (.tail _ hp), (List.nodup_cons.mp (by simpa using D.ord)).2, D.big⟩
theorem ld_allocS {M : Model} {A : Around} {E : Value → Shared → Prop} {h₀ h : Heap} {P : Addr → Prop} {news : List (Addr × Obj)} {g : Array GenState} {d : Drawn} {t : Nat} {os : OsState} {o : Obj} {Q : Addr → Shared → Prop} (D : LD h₀ P h news) (hf : o.isFreed = false) (k : ∀ a h', h.StaysIn h' → LD h₀ P h' ((a, o) :: news) → Q a ⟨h', g, d, t, os⟩) : wpAny M A (alloc o) Q E ⟨h, g, d, t, os⟩ :=
  wpAny_alloc (k _ _ (fun b o e => Heap.get?_push_of_some _ e) (D.alloc hf))
theorem CodeRec_step {h₀ h h' : Heap} {ck P na c : Addr} {q : Str} {qs : List Str} {j : Nat} {o : Obj} {nm : Str} (x : h.CodeRec (.ref c) q) (Z : PSt h₀ ck P qs h j) (hna : h.get? na = some o) (hok : okSet nm o = true)
    (kk : ∀ b o, b ≠ P → b ≠ na → h.get? b = some o → h'.get? b = some o) : h'.CodeRec (.ref c) q := CodeRec_keeps x fun o' ho hfl => kk _ _ (fun e => by
    obtain ⟨_, cs, Z2, _⟩ := Z
    obtain ⟨vs, t, hd, hv⟩ := hfl
    rw [e, Z2] at ho
    cases ho
    cases hd
    cases cs with
    | nil => cases hv
    | cons x r => cases hv) (fun e => by
    obtain ⟨vs, tt, hd, hv⟩ := hfl
    rw [e, hna] at ho
    cases ho
    unfold okSet at hok
    rw [hd] at hok
    cases hok) ho
set_option maxHeartbeats 0 in
theorem wp_cBody {w : World} {A : Around} {E : Value → Shared → Prop} {mg mb : Str → Option Value} {hb h₀ h : Heap} {ex : Addr → Prop} {news : List (Addr × Obj)} {g : Array GenState} {d : Drawn} {t : Nat} {os : OsState} {L na ck fr P : Addr} {Q : Flow → Shared → Prop}
    {h0 h1 h2 : Int} {t0 t1 t2 t12 t13 t14 : Tok} (T : Top topProg Lz (fun _ => none) mg mb hb) (hnm : mg "__name__" = some (.str (Str.ofString "law_ik0057_01") 398)) (hbs : hb.StaysIn h₀) (hbx : ∀ b o, hb.get? b = some o → ¬ ex b)
    (D : LD h₀ ex h ((na, dictO (es3 h0 h1 h2 t0 t1 t2 t12 t13 t14) 3) :: news)) (hexP : ex P) (Z : PSt h₀ ck P qsK h 0)
    (k : ∀ hs ts sl ts1 f1 f2 f3 f4 f5 f6 c1 c2 c3 c4 c5 c6 x1 x2 x3 x4 x5 x6 y1 y2 y3 y4 y5 y6 h' tk, 
      LD h₀ ex h' ([(f6, mObj L 5 x6 y6 c6), (f5, mObj L 4 x5 y5 c5), (f4, mObj L 3 x4 y4 c4), (f3, mObj L 2 x3 y3 c3), (f2, mObj L 1 x2 y2 c2), (f1, mObj L 0 x1 y1 c1), (sl, seqO "list" #[.str (Str.ofString "obj") ts1] 0), (na, dictO (esB hs ts qK sl f1 f2 f3 f4 f5 f6) 11)] ++ news) → PSt h₀ ck P qsK h' 6 →
      h'.CodeRec (.ref c1) (qM 0) → h'.CodeRec (.ref c2) (qM 1) → Q .next ⟨h', g, d, tk, os⟩) :
    wpAny (model RP w) A (execs cBody (cEnv L na ck fr)) Q E ⟨h, g, d, t, os⟩ := by
  have bk : ∀ {h' n}, LD h₀ ex h' n → Top topProg Lz (fun _ => none) mg mb h' := fun D => T.keeps fun b o e => D.keep b o (hbx b o e) (hbs b o e)
  have hnP : na ≠ P := fun e => (D.nw _ (.head _)).2.2 (e ▸ hexP)
  have pn : ∀ {h' j}, PSt h₀ ck P qsK h' j → ∀ o, h'.get? P = some o → o.cls = .none := fun Z o e => by
    obtain ⟨_, cs, z, _⟩ := Z
    rw [z] at e; cases e; rfl
  rw [cBody_eq, s8_eq]
  refine wpAny_execs_cons (wpAny_Assign_Name ?_ (by rfl))
  refine wpAny_mkText ?_
  refine ld_store D 0 rfl (stores _ _ _ _ _ _ (by simp)) rfl (by kernel_rfl) (fun _ => rfl) fun h₁ hv1 hk1 D1 => ?_
  have Z1 := Z.upd (nm := Str.ofString "__module__") (D.at 0 rfl) rfl (by kernel_rfl) hnP hk1
  refine wpAny_execs_cons (wpAny_Assign_Name ?_ (by rfl))
  rw [arm_eval_List]
  refine wpAny_bind (wpAny_standAt (wpAny_bind ?_))
  refine PySem.Calls.spliced_cons (x := eval (.Constant (.str (Str.ofString "obj")) 0 ⟨44, 21, 44, 26⟩) _) (rest := []) ?_
  refine wpAny_mkText ?_
  refine PySem.Calls.spliced_nil ?_
  delta newList
  refine ld_newObjS D1 (Nat.le_of_ble_eq_true rfl) rfl fun sl h₂ hs2 D2 => ?_
  have Z2 := Z1.keeps hs2
  refine ld_store D2 1 rfl (stores _ _ _ _ _ _ (by simp)) rfl (by kernel_rfl) (fun _ => rfl) fun h₃ hv3 hk3 D3 => ?_
  have Z3 := Z2.upd (nm := Str.ofString "__slots__") (D2.at 1 rfl) rfl (by kernel_rfl) hnP hk3
  refine wpAny_execs_cons (ld_mdef 0 (by simp) 1 (bk D3) hnm D3 hexP (pn Z3) Z3 rfl rfl (by kernel_rfl) (fun _ _ _ => rfl) fun f1 c1 y1 x1 h104 tk4 hv4 t104 hk4 D4 Z4 r1 => ?_)
  refine wpAny_execs_cons (ld_mdef 1 (by simp) 2 (bk D4) hnm D4 hexP (pn Z4) Z4 rfl rfl (by kernel_rfl) (fun _ _ _ => rfl) fun f2 c2 y2 x2 h105 tk5 hv5 t105 hk5 D5 Z5 r2 => ?_)
  have r1 := CodeRec_step (nm := mName 1) r1 Z4 (D4.at 2 rfl) (by kernel_rfl) hk5
  refine wpAny_execs_cons (ld_mdef 2 (by simp) 3 (bk D5) hnm D5 hexP (pn Z5) Z5 rfl rfl (by kernel_rfl) (fun _ _ _ => rfl) fun f3 c3 y3 x3 h106 tk6 hv6 t106 hk6 D6 Z6 r3 => ?_)
  have r1 := CodeRec_step (nm := mName 2) r1 Z5 (D5.at 3 rfl) (by kernel_rfl) hk6
  have r2 := CodeRec_step (nm := mName 2) r2 Z5 (D5.at 3 rfl) (by kernel_rfl) hk6
  refine wpAny_execs_cons (ld_mdef 3 (by simp) 4 (bk D6) hnm D6 hexP (pn Z6) Z6 rfl rfl (by kernel_rfl) (fun _ _ _ => rfl) fun f4 c4 y4 x4 h107 tk7 hv7 t107 hk7 D7 Z7 r4 => ?_)
  have r1 := CodeRec_step (nm := mName 3) r1 Z6 (D6.at 4 rfl) (by kernel_rfl) hk7
  have r2 := CodeRec_step (nm := mName 3) r2 Z6 (D6.at 4 rfl) (by kernel_rfl) hk7
  refine wpAny_execs_cons (ld_mdef 4 (by simp) 5 (bk D7) hnm D7 hexP (pn Z7) Z7 rfl rfl (by kernel_rfl) (fun _ _ _ => rfl) fun f5 c5 y5 x5 h108 tk8 hv8 t108 hk8 D8 Z8 r5 => ?_)
  have r1 := CodeRec_step (nm := mName 4) r1 Z7 (D7.at 5 rfl) (by kernel_rfl) hk8
  have r2 := CodeRec_step (nm := mName 4) r2 Z7 (D7.at 5 rfl) (by kernel_rfl) hk8
  refine wpAny_execs_cons (ld_mdef 5 (by simp) 6 (bk D8) hnm D8 hexP (pn Z8) Z8 rfl rfl (by kernel_rfl) (fun _ _ _ => rfl) fun f6 c6 y6 x6 h109 tk9 hv9 t109 hk9 D9 Z9 r6 => ?_)
  have r1 := CodeRec_step (nm := mName 5) r1 Z8 (D8.at 6 rfl) (by kernel_rfl) hk9
  have r2 := CodeRec_step (nm := mName 5) r2 Z8 (D8.at 6 rfl) (by kernel_rfl) hk9
  refine wpAny_execs_cons (wpAny_Assign_Name ?_ (by rfl))
  refine wpAny_pure ?_
  refine ld_store D9 7 rfl (stores _ _ _ _ _ _ (by simp)) rfl (by kernel_rfl) (fun _ => rfl) fun h110 hv10 hk10 D10 => ?_
  have Z10 := Z9.upd (nm := Str.ofString "__hash__") (D9.at 7 rfl) rfl (by kernel_rfl) hnP hk10
  have r1 := CodeRec_step (nm := Str.ofString "__hash__") r1 Z9 (D9.at 7 rfl) (by kernel_rfl) fun b o _ hb e => hk10 b o hb e
  have r2 := CodeRec_step (nm := Str.ofString "__hash__") r2 Z9 (D9.at 7 rfl) (by kernel_rfl) fun b o _ hb e => hk10 b o hb e
  refine wpAny_execs_nil ?_
  exact k (fun i => ([h0, h1, h2, hv3, hv4, hv5, hv6, hv7, hv8, hv9, hv10] : List Int).getD i 0) (fun i => ([t0, t1, t2, t + 1 + 1 + 1, t104, t105, t106, t107, t108, t109, tk9, 0, t, t13, t14] : List Tok).getD i 0) sl (t + 1 + 1) f1 f2 f3 f4 f5 f6 c1 c2 c3 c4 c5 c6 x1 x2 x3 x4 x5 x6 y1 y2 y3 y4 y5 y6 h110 _
    (D10.cast (by kernel_rfl)) Z10 r1 r2
end
section
open PySem PySem.W PySem.W.X PyProof.Rows
theorem hd41 {w : World} {h : Heap} (X : (KM w.params).In h) : CodeHd h 41 37 :=
  ⟨{ cls := .type "code", data := .fields #[.str (Str.ofString "cmp_to_key") 220, .str (Str.ofString "cmp_to_key") 221, .str (Str.ofString "/claim/cut.py") 222, rawInt 40, rawInt 1, rawInt 0, rawInt 0, rawInt 3, .ref 36, .bool true, rawInt 181, .ref 37, .none, .ref 38, .ref 39, .ref 40, rawInt 226, rawInt 40, .str (Str.ofString "/claim/cut.py") 227] },
   _, Str.ofString "/claim/cut.py", 227, 3, 0, true, 181, 0, X 41 _ (by kernel_rfl), rfl, rfl, rfl, rfl, rfl, rfl, rfl, rfl, by decide⟩
/-- the table of cmp_to_key: empty, or the class's code is made -/
noncomputable def TabOk (hb h : Heap) : Prop := h.get? 37 = some (tabObj #[]) ∨
  ∃ ck P, ∃ cs : List Addr, h.get? 37 = some (tabObj #[rawInt 42, rawInt 4, .ref ck]) ∧ hb.get? P = none ∧ P ≠ 37 ∧ CodeHd h ck P ∧ h.get? P = some (tabObj (psF 0 cs).toArray) ∧ cs.length = 6 ∧ ∀ (i : Nat) (c : Addr) (q : Str), cs[i]? = some c → qsK[i]? = some q → h.CodeRec (.ref c) q
theorem kbc (P : Params) : nsIn (KM P) builtinsNs "__build_class__" = some (some (.builtin "__build_class__")) := by kernel_rfl
theorem kob (P : Params) : nsIn (KM P) builtinsNs "object" = some (some (.type "object")) := by kernel_rfl
theorem kob0 (P : Params) : nsIn (KM P) mainGlobals "object" = some none := by kernel_rfl
theorem knm (P : Params) : nsIn (KM P) mainGlobals "__name__" = some (some (.str (Str.ofString "law_ik0057_01") 398)) := by kernel_rfl
theorem wp_loadNm {M : Model} {A : Around} {Q : Value → Shared → Prop} {E : Value → Shared → Prop} {s : Shared} {L na ck fr : Addr} {v : Value}
   (hd : s.heap.get? na = some { cls := .type "dict", data := .dict #[] 0 }) (hg : Looks M s.heap (nsGet mainGlobals (Str.ofString "__name__")) (some v)) (k : Q v s) : wpAny M A (loadName (cEnv L na ck fr) (Str.ofString "__name__")) Q E s := by
  have hk : (cEnv L na ck fr).kindOf (Str.ofString "__name__") = none := by kernel_rfl
  have hb : (cEnv L na ck fr).blockKind = .class := rfl
  have gl : nsLook (Str.ofString "__name__") { cls := .type "dict", data := .dict #[] 0 } = pure none := by kernel_rfl
  unfold loadName
  refine wpAny_ite_false (by kernel_rfl) ?_
  rw [hk, hb]
  dsimp only
  refine wpAny_ite_false (by kernel_rfl) ?_
  refine wpAny_bind ?_
  delta localGet
  refine wpAny_bind (wpAny_load hd ?_)
  rw [if_pos (by rfl)]
  refine ld_nsGet hd gl ?_
  dsimp only
  delta loadGlobal
  refine wpAny_bind (Looks.at hg ?_)
  exact wpAny_pure k
theorem ld_newTT {M : Model} {A : Around} {E : Value → Shared → Prop} {h₀ h : Heap} {P : Addr → Prop} {news : List (Addr × Obj)} {g : Array GenState} {d : Drawn} {t : Nat} {os : OsState} {vs : List Value} {Q : Value → Shared → Prop} (D : LD h₀ P h news) (k : ∀ a h', h.StaysIn h' → LD h₀ P h' ((a, { cls := .type "tuple", data := .seq vs.toArray }) :: news) → Q (.ref a) ⟨h', g, d, t, os⟩) :
    wpAny M A (newTextTuple vs) Q E ⟨h, g, d, t, os⟩ := wpAny_newTextTuple (k _ _ (fun b o e => Heap.get?_push_of_some _ e) (D.alloc rfl))
theorem mkLD {h h₃ h₄ : Heap} {news : List (Addr × Obj)} {P : Addr} {o37 o' : Obj} (D3 : LD h (fun _ => False) h₃ news) (hx : ∀ b o, b ≠ 37 → h₃.get? b = some o → h₄.get? b = some o) (h37 : h.get? 37 = some o37) (h37' : h₄.get? 37 = some o') (hP37 : P ≠ 37)
    (hPn : ∀ p ∈ news, p.1 ≠ P) (hbig : P < h₄.objs.size) : LD (hideAll h [37]) (fun b => b = P) h₄ (news ++ [(37, o')]) := by
  have n37 : ∀ p ∈ news, p.1 ≠ 37 := fun p hp e => by have q := (D3.nw p hp).2.1; rw [e, h37] at q; cases q
  refine ⟨fun b o hb e => ?_, fun p hp => ?_, ?_, fun b hb => hb ▸ hbig⟩
  · have hne : b ≠ 37 := fun q => by rw [q, hideAll_none [37] (.head _)] at e; cases e
    exact hx _ _ hne (D3.keep _ _ (fun x => x) (of_hideAll _ e))
  · rcases List.mem_append.mp hp with hp | hp
    · refine ⟨hx _ _ (n37 p hp) (D3.nw p hp).1, ?_, hPn p hp⟩
      cases e : (hideAll h [37]).get? p.1 with
      | none => rfl
      | some o => have q := of_hideAll _ e; rw [(D3.nw p hp).2.1] at q; cases q
    · rw [List.mem_singleton.mp hp]
      exact ⟨h37', hideAll_none [37] (.head _), fun e => hP37 e.symm⟩
  · rw [List.map_append, List.nodup_append]
    refine ⟨D3.ord, by simp, fun a ha b hb e => ?_⟩
    refine hide fun G1 hG1 => ?_
    obtain ⟨p, hp, rfl⟩ := List.mem_map.mp ha
    refine hG1 ?_
    clear hG1
    have : b = 37 := by simpa using hb
    exact n37 p hp (e.trans this)
theorem mst : List.mapM mkText cStatics = (mkText (Str.ofString "obj") >>= fun v => pure [v]) := by kernel_rfl
/-- the addresses and texts of a class K as it stands -/
structure KV where
  (bt f1 f2 f3 f4 f5 f6 sl st ns dm c1 c2 : Addr)
  (t0 ta tb tc : Tok)
  (hs : Nat → Int)
  (ts : Nat → Tok)
  (hv hv' : Int)
  (x1 x2 y1 y2 : Value)
noncomputable def KCls (h : Heap) (L C : Addr) : Prop := ∃ v : KV, h.get? C = some (cK C v.ns v.bt qK v.t0 (v.ts 13) false [Str.ofString "obj"] #[some (.builtin "object.__new__"), some (.bool false)]) ∧ h.get? v.ns = some (dictO (esF v.hs v.ts v.sl v.f1 v.f2 v.f3 v.f4 v.f5 v.f6 v.st v.dm v.hv v.hv' v.tb v.tc) 3) ∧ h.get? v.dm = some { cls := .type "member_descriptor", data := .fields #[.str (Str.ofString "obj") v.ta, .ref C, .builtin "proto.slot", .builtin "proto.slot#set", rawInt 0] } ∧ h.get? v.f1 = some (mObj L 0 v.x1 v.y1 v.c1) ∧ h.get? v.f2 = some (mObj L 1 v.x2 v.y2 v.c2) ∧ h.CodeRec (.ref v.c1) (qM 0) ∧ h.CodeRec (.ref v.c2) (qM 1)
theorem KCls.elim {h : Heap} {L C : Addr} (x : KCls h L C) {G : Prop} (k : ∀ (bt f1 f2 f3 f4 f5 f6 sl st ns dm c1 c2 : Addr) (t0 ta tb tc : Tok) (hs : Nat → Int) (ts : Nat → Tok) (hv hv' : Int) (x1 x2 y1 y2 : Value), h.get? C = some (cK C ns bt qK t0 (ts 13) false [Str.ofString "obj"] #[some (.builtin "object.__new__"), some (.bool false)]) → h.get? ns = some (dictO (esF hs ts sl f1 f2 f3 f4 f5 f6 st dm hv hv' tb tc) 3) → h.get? dm = some { cls := .type "member_descriptor", data := .fields #[.str (Str.ofString "obj") ta, .ref C, .builtin "proto.slot", .builtin "proto.slot#set", rawInt 0] } → h.get? f1 = some (mObj L 0 x1 y1 c1) → h.get? f2 = some (mObj L 1 x2 y2 c2) → h.CodeRec (.ref c1) (qM 0) → h.CodeRec (.ref c2) (qM 1) → G) : G := by
  obtain ⟨v, e1, e2, e3, e4, e5, e6, e7⟩ := x
  exact k v.bt v.f1 v.f2 v.f3 v.f4 v.f5 v.f6 v.sl v.st v.ns v.dm v.c1 v.c2 v.t0 v.ta v.tb v.tc v.hs v.ts v.hv v.hv' v.x1 v.x2 v.y1 v.y2 e1 e2 e3 e4 e5 e6 e7
theorem wp_classDef {w : World} {mg mb : Str → Option Value} {hb h : Heap} {g : Array GenState} {d : Drawn} {tk : Nat} {os : OsState} {Q : Flow → Shared → Prop} {E : Value → Shared → Prop} {A : Around} {L : Addr}
   (hA : Fits 5 A) (G : Gd w mg mb hb) (hbs : hb.StaysIn h) (hb37 : hb.get? 37 = none) (tab : TabOk hb h) {mL : Str → Option Value} (hL : h.Ns L mL) (hL37 : L ≠ 37) (hm0 : mL (Str.ofString "__module__") = none)
   (k : ∀ C h' tk', (∀ b o, b ≠ 37 → b ≠ L → h.get? b = some o → h'.get? b = some o) → h'.Ns L (fun y => if y = Str.ofString "K" then some (.ref C) else mL y) → TabOk hb h' → KCls h' L C → Q .next ⟨h', g, d, tk', os⟩) :
   wpAny (model RP w) A (exec stC (envK L)) Q E ⟨h, g, d, tk, os⟩ := by
  have X : (KM w.params).In h := G.K.keeps hbs
  rw [stC_eq]
  rw [show ∀ n b k bd dc sc ts bi st p env, exec (.ClassDef n b k bd dc [] sc ts bi st p) env = _ from fun _ _ _ _ _ _ _ _ _ _ _ => rfl]
  refine bindP rfl ?_
  refine wpAny_bind (wpAny_standAt ?_)
  refine wpAny_bind ?_
  delta buildClassGuard
  refine wpAny_bind (Looks.at (looks_nsIn X (kbc _)) ?_)
  k_node
  refine wpAny_pure ?_
  refine wpAny_bind (wpAny_holding (wpAny_bind ?_))
  delta evalArgs
  k_node
  k_node
  refine wpAny_bind (Calls.spliced_cons (x := eval (.Name (Str.ofString "object") ⟨42, 12, 42, 18⟩) (envK L)) (rest := []) ?_)
  refine PySem.Calls.Name_function_global (by rfl) (by rfl) ?_ (by decide)
  delta loadGlobal
  refine wpAny_bind (Looks.at (looks_nsIn X (kob0 _)) ?_)
  k_node
  refine wpAny_bind (Looks.at (looks_nsIn X (kob _)) ?_)
  k_node
  refine wpAny_pure ?_
  refine PySem.Calls.spliced_nil ?_
  refine bindP rfl ?_
  k_node
  refine wpAny_holding ?_
  k_node
  refine wpAny_ite_true (by kernel_rfl) ?_
  refine bindP (a := []) (by kernel_rfl) ?_
  k_node
  refine bindP rfl ?_
  refine wpAny_pure ?_
  refine wpAny_bind (wpAny_standAt ?_)
  refine wpAny_holding ?_
  delta buildClass
  refine wpAny_bind ?_
  delta newTuple
  have nop : ∀ b, (fun _ : Addr => False) b → (KM w.params).lookup b = none := fun b hb => hb.elim
  refine ld_newObj (LD.start h) (Nat.le_of_ble_eq_true rfl) rfl fun bt h₁ D1 => ?_
  refine bindP (a := ([tO], false)) (by kernel_rfl) ?_
  k_node
  refine bindP (a := .type "type") (by kernel_rfl) ?_
  k_node
  refine bindP (a := true) rfl ?_
  k_node
  k_node
  refine bindP (a := .type "type") (by kernel_rfl) ?_
  k_node
  k_node
  refine wpAny_bind (wpAny_mkText ?_)
  k_node
  k_node
  refine bindP rfl ?_
  refine wpAny_holding (wpAny_bind (wp_prep (hA.le (by decide)) (D1.km X nop) fun m h₂ tk₂ hk₂ hm hmf => ?_))
  k_node
  k_node
  k_node
  refine wpAny_bind (wpAny_AX (hA.le (Nat.zero_le _)) (xs6 h₂ g d tk₂ os _ _ _ m bt ((D1.km X nop).keeps hk₂) hm fun na h₃ tk₃ hk₃ hna hnf => ?_))
  have D3 : LD h (fun _ => False) h₃ [(na, { cls := .type "dict", data := .dict #[] 0 }), (bt, { cls := .type "tuple", data := .seq [Value.type "object"].toArray })] := by
    have D2 := D1.ext (h' := h₃) (fun b o _ e => hk₃ _ _ (hk₂ _ _ e)) fun _ x => x.elim
    refine D2.take hna ?_ (fun x => x) ?_
    · cases e : h.get? na with
      | none => rfl
      | some o => rw [hk₂ _ _ (D1.keep _ _ (fun x => x) e)] at hnf; cases hnf
    · intro p hp e
      rcases List.mem_cons.mp hp with rfl | hp
      · have q := hk₂ _ _ (D1.at 0 rfl)
        rw [show bt = na from e, hnf] at q; cases q
      · cases hp
  have hns : (na == sysModules) = false := by
    refine beq_eq_false_iff_ne.mpr fun e => ?_
    obtain ⟨o, ho⟩ : ∃ o, (KM w.params).lookup 1 = some o := ⟨_, rfl⟩
    have q := hk₂ _ _ (D1.keep _ _ (fun x => x) (X _ _ ho))
    rw [show na = 1 from e] at hnf
    rw [hnf] at q; cases q
  k_node
  k_node
  k_node
  refine nd_bind ?_
  delta notTheModulesDict
  refine wpAny_ite_false (by rw [hns]; rfl) ?_
  refine wpAny_pure ?_
  have ug : typeLookup (.type "dict") "__getitem__" = pure (some (.builtin "dict.__getitem__")) := by kernel_rfl
  refine wpAny_bind (wp_specialOf hna ug ?_)
  k_node
  k_node
  k_node
  refine wpAny_holding ?_
  k_node
  refine wpAny_ite_false (by kernel_rfl) ?_
  refine bindP rfl ?_
  k_node
  refine wpAny_ite_false (by kernel_rfl) ?_
  refine bindP rfl ?_
  k_node
  refine wpAny_bind ?_
  have kh : h.StaysIn h₃ := fun b o e => D3.keep b o (fun x => x) e
  refine wpAny_mono (Q := fun v s' => ∃ ck P h₄ tk₄, v = .ref ck ∧ s' = ⟨h₄, g, d, tk₄, os⟩ ∧ hb.get? P = none ∧ P ≠ 37 ∧ PSt (hideAll h [37]) ck P qsK h₄ 0 ∧ 
     LD (hideAll h [37]) (fun b => b = P) h₄ [(na, { cls := .type "dict", data := .dict #[] 0 }), (bt, { cls := .type "tuple", data := .seq [Value.type "object"].toArray }), (37, tabObj #[rawInt 42, rawInt 4, .ref ck])]) ?_ (fun v s' hq => ?_) (fun _ _ x => x)
  · have X3 : (KM w.params).In h₃ := X.keeps kh
    rcases tab with e37 | ⟨ck, P, cs, t37, hbP, hP37, hdc, gP, hlen, hCR⟩
    · refine wp_classCode (c := 41) (P := 37) (ps := #[]) rfl (hd41 X3) (kh _ _ e37) rfl trivial fun ck P h₄ tk₄ hx hck hP hdP hgP h37' => ?_
      have hP37 : P ≠ 37 := Nat.ne_of_gt (Nat.lt_of_lt_of_le (Heap.lt_size (kh _ _ e37)) hP)
      have hPn : h.get? P = none := by
        cases e : h.get? P with
        | none => rfl
        | some o => exact absurd (Heap.lt_size (kh _ _ e)) (Nat.not_lt.mpr hP)
      refine ⟨ck, P, h₄, tk₄, rfl, rfl, ?_, hP37, ⟨hdP, [], hgP, (fun i c q hi _ => nomatch hi), .inl ⟨rfl, ?_⟩⟩, ?_⟩
      · cases e : hb.get? P with
        | none => rfl
        | some o => rw [hbs _ _ e] at hPn; cases hPn
      · cases e : (hideAll h [37]).get? P with
        | none => rfl
        | some o => rw [of_hideAll _ e] at hPn; cases hPn
      · refine mkLD D3 (fun b o hb e => hx b o hb e) e37 (h37'.trans (congrArg some (by kernel_rfl))) hP37 (fun p hp e => ?_) (Heap.lt_size hgP)
        exact absurd (Heap.lt_size (D3.nw p hp).1) (by rw [e]; exact Nat.not_lt.mpr hP)
    · refine wp_classCode_hit rfl (hd41 X3) (kh _ _ t37) (cv := .ref ck) (by kernel_rfl) ?_
      refine ⟨ck, P, h₃, _, rfl, rfl, hbP, hP37, ⟨hdc.keeps kh, cs, kh _ _ gP, fun i c q a b => CodeRec_keeps (hCR i c q a b) fun o ho _ => kh _ _ ho, .inr ⟨hlen, hideAll_get _ gP fun hm => hP37 (List.mem_singleton.mp hm)⟩⟩, ?_⟩
      refine mkLD D3 (fun b o _ e => e) t37 (kh _ _ t37) hP37 (fun p hp e => ?_) (Heap.lt_size (kh _ _ gP))
      have q := (D3.nw p hp).2.1
      rw [e, gP] at q; cases q
  refine hide fun G2 hG2 => ?_
  obtain ⟨ck, P, h₄, tk₄, rfl, rfl, hbP, hP37, Z4, D4⟩ := hq
  refine hG2 ?_
  clear hG2
  have bk : ∀ {h' n}, LD (hideAll h [37]) (fun b => b = P) h' n → hb.StaysIn h' := fun D b o e => D.keep b o (fun hp => by rw [show b = P from hp, hbP] at e; cases e) (hideAll_get _ (hbs _ _ e) (fun hm => by rw [List.mem_singleton.mp hm, hb37] at e; cases e))
  have T4 := G.T.keeps (bk D4)
  refine hide fun G3 hG3 => ?_
  obtain ⟨bm, ob, b1, b2, b3, b4, b5, b6⟩ := id T4.bmain
  refine hG3 ?_
  clear hG3
  refine wpAny_bind (wpAny_builtinsFor T4.g b1 b2 b3 b4 b5 b6 ?_)
  refine wpAny_bind ?_
  delta newBodyFrame
  refine wpAny_bind (Looks.at (looks_nsIn (G.K.keeps (bk D4)) (knm _)) ?_)
  refine ld_allocS D4 rfl fun fr h₅ hs5 D5' => ?_
  have D5 := D5'.tail
  have Z5 := Z4.keeps hs5
  have T5 := G.T.keeps (bk D5)
  have hnP : na ≠ P := (D5.nw _ (.head _)).2.2
  have X5 := G.K.keeps (bk D5)
  refine bindP (a := [(Str.ofString "mycmp", L + 1)]) (by kernel_rfl) ?_
  k_node
  refine wpAny_holding ?_
  refine wpAny_bind (wpAny_enterFrame T5.nolimit hA.room ?_)
  refine wpAny_bind (wpAny_onRaise ?_)
  refine wpAny_bind ?_
  show wpAny _ _ (loadName (cEnv L na ck fr) (Str.ofString "__name__")) _ _ _
  refine wp_loadNm (D5.at 0 rfl) (looks_nsIn X5 (knm _)) ?_
  refine wpAny_bind (ld_store (env := cEnv L na ck fr) D5 0 rfl (stores _ _ _ _ _ _ (by simp)) rfl (by kernel_rfl) (fun _ => rfl) fun h₆ hv0 hk6 D6 => ?_)
  have Z6 := Z5.upd (nm := Str.ofString "__module__") (D5.at 0 rfl) rfl (by kernel_rfl) hnP hk6
  refine wpAny_bind (wpAny_mkText ?_)
  refine wpAny_bind (ld_store (env := cEnv L na ck fr) D6 0 rfl (stores _ _ _ _ _ _ (by simp)) rfl (by kernel_rfl) (fun _ => rfl) fun h₇ hv1 hk7 D7 => ?_)
  have Z7 := Z6.upd (nm := Str.ofString "__qualname__") (D6.at 0 rfl) rfl (by kernel_rfl) hnP hk7
  refine wpAny_bind (wpAny_mkInt ?_)
  refine wpAny_bind (ld_store (env := cEnv L na ck fr) D7 0 rfl (stores _ _ _ _ _ _ (by simp)) rfl (by kernel_rfl) (fun _ => rfl) fun h₈ hv2 hk8 D8 => ?_)
  have Z8 := Z7.upd (nm := Str.ofString "__firstlineno__") (D7.at 0 rfl) rfl (by kernel_rfl) hnP hk8
  k_node
  refine wpAny_pure ?_
  k_node
  refine wpAny_bind (wpAny_run (codeAny_of_tree ?_))
  show wpAny _ _ (blockStart cBody (cEnv L na ck fr) >>= fun _ => (execs cBody (cEnv L na ck fr)).onRaise (leaving (cEnv L na ck fr)) >>= fun f => pure (PySem.Fin.done f)) _ _ _
  refine bindP (a := ()) (by kernel_rfl) ?_
  have D8' := D8.cast (news' := [(na, dictO (es3 hv0 hv1 hv2 tk₄ (tk₄ + 1 + 1) (tk₄ + 1 + 1 + 1 + 1) 398 (tk₄ + 1) (tk₄ + 1 + 1 + 1)) 3), (bt, { cls := .type "tuple", data := .seq [Value.type "object"].toArray }), (37, tabObj #[rawInt 42, rawInt 4, .ref ck])]) (by kernel_rfl)
  refine wpAny_bind (wpAny_onRaise (wp_cBody G.T (mg_of G.K G.T.g (knm _)) (fun b o e => hideAll_get _ (hbs _ _ e) (fun hm => by rw [List.mem_singleton.mp hm, hb37] at e; cases e)) (fun b o e hp => by rw [show b = P from hp, hbP] at e; cases e) D8' rfl Z8
    fun hs ts sl ts1 f1 f2 f3 f4 f5 f6 c1 c2 c3 c4 c5 c6 x1 x2 x3 x4 x5 x6 y1 y2 y3 y4 y5 y6 h₉ tk₉ D9 Z9 r1 r2 => ?_))
  refine wpAny_pure ?_
  show wpAny _ A _ _ _ _
  refine wpAny_bind (wpAny_onRaise ?_)
  refine wpAny_bind ?_
  rw [mst]
  refine wpAny_bind (wpAny_mkText (wpAny_pure ?_))
  refine wpAny_bind ?_
  refine ld_newTT D9 fun st h₁₀ hs10 D10 => ?_
  have Z10 := Z9.keeps hs10
  refine wpAny_bind (ld_store (env := cEnv L na ck fr) D10 8 rfl (stores _ _ _ _ _ _ (by simp)) rfl (by kernel_rfl) (fun _ => rfl) fun h₁₁ hv11 hk11 D11 => ?_)
  have Z11 := Z10.upd (nm := Str.ofString "__static_attributes__") (D10.at 8 rfl) rfl (by kernel_rfl) hnP hk11
  have q1 := CodeRec_step (nm := Str.ofString "__static_attributes__") (CodeRec_keeps r1 fun o ho _ => hs10 _ _ ho) Z10 (D10.at 8 rfl) (by kernel_rfl) fun b o _ hb e => hk11 b o hb e
  have q2 := CodeRec_step (nm := Str.ofString "__static_attributes__") (CodeRec_keeps r2 fun o ho _ => hs10 _ _ ho) Z10 (D10.at 8 rfl) (by kernel_rfl) fun b o _ hb e => hk11 b o hb e
  have ena : h₁₁.get? na = some (dictO (esK (fun i => if i == 11 then hv11 else hs i) (fun i => if i == 11 then tk₉ + 1 else ts i) qK sl f1 f2 f3 f4 f5 f6 st) 12) := (D11.at 8 rfl).trans (congrArg some (by kernel_rfl))
  k_node
  k_node
  refine wpAny_pure ?_
  k_node
  k_node
  k_node
  refine wpAny_bind ?_
  show wpAny _ _ (call (.type "type") [.str (Str.ofString "K") _, .ref bt, .ref na]) _ _ _
  refine wp_typeCall h₁₁ g d _ os _ _ A (hA.le (by decide)) (G.K.keeps (bk D11)) bt na f1 f2 f3 f4 f5 f6 sl st _ ts1 tk₉ _ _ 12 0 0 0 _ _ _ _ _ _ hns (D11.at 9 rfl) ena (D11.at 7 rfl) (D11.at 0 rfl) (D11.at 6 rfl) (D11.at 5 rfl) (D11.at 4 rfl) (D11.at 3 rfl) (D11.at 2 rfl) (D11.at 1 rfl) fun C h₁₂ tk₁₂ hm => ?_
  k_node
  refine wpAny_pure ?_
  refine bindP (a := .ref C) rfl ?_
  refine wpAny_bind (wpAny_standAt ?_)
  refine hide fun G4 hG4 => ?_
  obtain ⟨k0, k1, ns, dm, hv, hv', ta, tb, tc, k2, k3, k4⟩ := hm
  refine hG4 ?_
  clear hG4
  have kk : ∀ b o, b ≠ 37 → h.get? b = some o → h₁₂.get? b = some o := fun b o hb e => by
    have eh : (hideAll h [37]).get? b = some o := hideAll_get _ e fun hm => hb (List.mem_singleton.mp hm)
    refine k0 _ _ ?_
    by_cases hbP' : b = P
    · refine hide fun G5 hG5 => ?_
      obtain ⟨_, cs, zP, _, z⟩ := Z11
      refine hG5 ?_
      clear hG5
      subst hbP'
      rcases z with ⟨_, z⟩ | ⟨_, z⟩
      · rw [eh] at z; cases z
      · rw [eh] at z; rw [zP, z]
    · exact D11.keep b o hbP' eh
  have hL12 : h₁₂.Ns L mL := hL.at' fun o e => kk L o hL37 e
  refine wpAny_bind (wpAny_bindName (wpAny_storeName_local (by rfl) hL12 (fun h₁₃ hn₁₃ hs₁₃ => ?_) (by rfl)))
  refine wpAny_pure ?_
  have kl : ∀ b o, h₁₂.get? b = some o → (∀ es n, o.data ≠ .dict es n) → h₁₃.get? b = some o := fun b o e hd => (hs₁₃.2 b fun q => by
    refine hide fun G6 hG6 => ?_
    obtain ⟨oL, es, ep, eL, hdL, _⟩ := hL12
    refine hG6 ?_
    clear hG6
    rw [q, show (envK L).locals = L from rfl, eL] at e
    cases e
    exact hd _ _ hdL).trans e
  have kns : h₁₃.get? ns = some _ := (hs₁₃.2 ns fun q => by
    refine hide fun G7 hG7 => ?_
    obtain ⟨oL, es, ep, eL, hdL, r⟩ := hL12
    refine hG7 ?_
    clear hG7
    rw [q, show (envK L).locals = L from rfl, eL] at k3
    cases k3
    cases hdL
    have z := r.2 (Str.ofString "__module__")
    rw [hm0] at z
    rw [show nsFind (esF (fun i => if (i == 11) = true then hv11 else hs i) (fun i => if (i == 11) = true then tk₉ + 1 else ts i) sl f1 f2 f3 f4 f5 f6 st dm hv hv' tb tc) (Str.ofString "__module__") = some (.str (Str.ofString "cpy313.functools") (ts 12)) by kernel_rfl] at z
    cases z).trans k3
  have kc : ∀ (q : Str) (c : Addr), h₁₁.CodeRec (.ref c) q → h₁₃.CodeRec (.ref c) q := fun q c x => CodeRec_keeps (CodeRec_keeps x fun o ho _ => k0 _ _ ho) fun o ho hfl => kl _ _ ho fun es n e => by
    refine hide fun G8 hG8 => ?_
    obtain ⟨vs, t, hd, _⟩ := hfl
    refine hG8 ?_
    clear hG8
    rw [hd] at e; cases e
  refine k C h₁₃ _ (fun b o h1 h2 e => (hs₁₃.2 b h2).trans (kk b o h1 e)) hn₁₃ (.inr ?_) ?_
  · refine hide fun G9 hG9 => ?_
    obtain ⟨⟨o, vs, file, tf, flags, tg, inF, text, tt, e1, e2, e3, r⟩, cs, zP, zc, z⟩ := Z11
    refine hG9 ?_
    clear hG9
    have hlen : cs.length = 6 := by rcases z with ⟨z, _⟩ | ⟨z, _⟩ <;> exact z
    exact ⟨ck, P, cs, kl _ _ (k0 _ _ (D11.at 10 rfl)) (fun es n e => by cases e), hbP, hP37, ⟨o, vs, file, tf, flags, tg, inF, text, tt, kl _ _ (k0 _ _ e1) (fun es n e => by rw [e3] at e; cases e), e2, e3, r⟩,
      kl _ _ (k0 _ _ zP) (fun es n e => by cases e), hlen, fun i c q a b => kc _ _ (zc i c q a b)⟩
  · exact ⟨⟨bt, f1, f2, f3, f4, f5, f6, sl, st, ns, dm, c1, c2, _, ta, tb, tc, (fun i => if (i == 11) = true then hv11 else hs i), (fun i => if (i == 11) = true then tk₉ + 1 else ts i), hv, hv', x1, x2, y1, y2⟩, kl _ _ k2 (fun es n e => by cases e), kns, kl _ _ k4 (fun es n e => by cases e),
      kl _ _ (k0 _ _ (D11.at 6 rfl)) (fun es n e => by cases e), kl _ _ (k0 _ _ (D11.at 5 rfl)) (fun es n e => by cases e), kc _ _ q1, kc _ _ q2⟩
end
section
open PySem PySem.W PySem.W.X PyProof.Rows
theorem ent42 (P : Params) : (KM P).lookup 42 = some ⟨.type "function", none, .func (fnOf (Str.ofString "cmp_to_key") (Str.ofString "cmp_to_key") (dParams (stAt 5)) (dBody (stAt 5)) (dScope (stAt 5)) .none .none .none (.str (Str.ofString "cpy313.functools") 218) none (.ref 41) .none), #[]⟩ := by kernel_rfl
/-- a contract that may grow table 37 -/
noncomputable def ConT (w : World) (k : Nat) (f : Value) (vs : List Value) (h : Heap) (Post : Value → Heap → Prop) : Prop :=
  ∀ (A : Around) (g : Array GenState) (d : Drawn) (tk : Nat) (os : OsState) (Q E : Value → Shared → Prop), Fits k A →
    (∀ r h' tk', (∀ b o, b ≠ 37 → h.get? b = some o → h'.get? b = some o) → Post r h' → Q r ⟨h', g, d, tk', os⟩) → wpAny (model RP w) A (call f vs) Q E ⟨h, g, d, tk, os⟩
theorem TabOk.keeps {hb h h' : Heap} (x : TabOk hb h) (k : h.StaysIn h') : TabOk hb h' := by
  rcases x with e | ⟨ck, P, cs, a, b, c, d, e, f, i⟩
  · exact .inl (k _ _ e)
  · exact .inr ⟨ck, P, cs, k _ _ a, b, c, d.keeps k, k _ _ e, f, fun i' c' q p r => CodeRec_keeps (i i' c' q p r) fun o ho _ => k _ _ ho⟩
theorem body5 : dBody (stAt 5) = [stC, .Return (some (.Name (Str.ofString "K") ⟨64, 11, 64, 12⟩)) ⟨64, 4, 64, 12⟩] := by kernel_rfl
theorem c_key {w : World} {mg mb : Str → Option Value} {hb h : Heap} (G : Gd w mg mb hb) (hbs : hb.StaysIn h) (hb37 : hb.get? 37 = none) (tab : TabOk hb h) (v : Value) :
    ConT w 6 (.ref 42) [v] h (fun r h' => ∃ L C, r = .ref C ∧ TabOk hb h' ∧ KCls h' L C ∧ ∃ oc, h'.get? (L + 1) = some oc ∧ oc.data = .cell (some v)) := by
  intro A g d tk os Q E hA hret
  have Gh : Gd w mg mb h := G.keeps hbs
  refine wpAny_call ?_
  refine codeAny_call_function (fd := fnOf (Str.ofString "cmp_to_key") (Str.ofString "cmp_to_key") (dParams (stAt 5)) (dBody (stAt 5)) (dScope (stAt 5)) .none .none .none (.str (Str.ofString "cpy313.functools") 218) none (.ref 41) .none) hA.room (Gh.K _ _ (ent42 _)) rfl rfl rfl rfl (codeRec_of Gh.K (by kernel_rfl)) ?_
  rw [show bindArgs _ ⟨[v], []⟩ = pure [(Str.ofString "mycmp", v)] by with_unfolding_all rfl]
  refine wpAny_pure ?_
  refine wpAny_newFunctionEnv_cells rfl (kindsX (by kernel_rfl) _) fun env' he s' x => ?_
  subst he
  refine ⟨Gh.T.nolimit.keeps x.toInCall.keep, codeAny_func ?_⟩
  obtain ⟨h₁, tk, rfl, _⟩ := x.done
  have hk₁ := x.toInCall.keep
  have hL := x.toInCall.ns
  have hcell := x.cell (Str.ofString "mycmp") (h.objs.size + 1) (by kernel_rfl)
  obtain ⟨o37, e37⟩ : ∃ o, h.get? 37 = some o := by
    rcases tab with e | ⟨ck, P, cs, a, _⟩
    · exact ⟨_, e⟩
    · exact ⟨_, a⟩
  have n37 : h.objs.size ≠ 37 := Nat.ne_of_gt (Heap.lt_size e37)
  rw [body5]
  show wpAny _ _ (execs _ (envK h.objs.size)) _ _ _
  refine wpAny_execs_cons (wp_classDef (L := h.objs.size) (hA.deeper _) G (fun b o e => hk₁ _ _ (hbs _ _ e)) hb37 (tab.keeps hk₁) hL n37 (by rfl) fun C h' tk' hkeep hns htab hK => ?_)
  show wpAny _ _ (execs _ _) _ _ _
  refine wpAny_execs_cons (wpAny_Return_some ?_)
  refine wpAny_Name (wpAny_loadName_local (by rfl) (by rfl) hns (by rfl) ?_) (by decide)
  refine hret _ h' tk' (fun b o hb e => hkeep b o hb (Nat.ne_of_lt (Heap.lt_size e)) (hk₁ _ _ e)) ⟨h.objs.size, C, rfl, htab, hK, ?_⟩
  obtain ⟨oc, eoc, hd⟩ := hcell
  have l37 : 37 < h.objs.size := Heap.lt_size e37
  exact ⟨oc, hkeep _ _ (Nat.ne_of_gt (Nat.lt_succ_of_lt l37)) (Nat.succ_ne_self _) eoc, hd⟩
end
section
open PySem PySem.W PySem.W.X PyProof.Rows
local macro_rules | `(tactic| walk_at "no such key 0") => `(tactic| skip)
local macro_rules | `(tactic| walk_at "no such key 1") => `(tactic| skip)
local macro_rules | `(tactic| walk_at "no such key 2") => `(tactic| skip)
local macro_rules | `(tactic| walk_at "no such key 3") => `(tactic| skip)
local macro_rules | `(tactic| walk_at "no such key 4") => `(tactic| skip)
theorem fill3 (P : Params) (h : Heap) : PySem.Challenge.rw_ik0057_01 = PySem.Challenge.rw_ik0057_01 → (KM P).In h → (KM P).In h := by
  k_fill
  intro _ X
  exact X
theorem ent145 (P : Params) : (KM P).lookup 145 = some ⟨.type "function", none, .func (fnOf (Str.ofString "join") (Str.ofString "join") (dParams (stAt 21)) (dBody (stAt 21)) (dScope (stAt 21)) .none .none .none (.str (Str.ofString "cpy313.posixpath") 354) none (.ref 144) .none), #[]⟩ := by kernel_rfl
theorem bind145 {M : Model} {A : Around} {E : Value → Shared → Prop} {h : Heap} {g : Array GenState} {d : Drawn} {tk : Nat} {os : OsState} {Q : List (Str × Value) → Shared → Prop} {pm : Value} {x y : Value}
   (k : ∀ p h', h.StaysIn h' → h'.get? p = some { cls := .type "tuple", data := .seq [y].toArray } → Q [(Str.ofString "a", x), (Str.ofString "p", .ref p)] ⟨h', g, d, tk, os⟩) :
   wpAny M A (bindArgs (fnOf (Str.ofString "join") (Str.ofString "join") (dParams (stAt 21)) (dBody (stAt 21)) (dScope (stAt 21)) .none .none .none pm none (.ref 144) .none) ⟨[x, y], []⟩) Q E ⟨h, g, d, tk, os⟩ := by
  have e : bindArgs (fnOf (Str.ofString "join") (Str.ofString "join") (dParams (stAt 21)) (dBody (stAt 21)) (dScope (stAt 21)) .none .none .none pm none (.ref 144) .none) ⟨[x, y], []⟩ = (newTextTuple [y] >>= fun p => pure [(Str.ofString "a", x), (Str.ofString "p", p)]) := by kernel_rfl
  rw [e]
  refine wpAny_bind (wpAny_newTextTuple ?_)
  exact wpAny_pure (k _ _ (fun b o e => Heap.get?_push_of_some _ e) (Heap.get?_push_size _ rfl))
noncomputable def joinP (x y : Str) : Str := if Txt.startswith y (Str.ofString "/") = true then y else if ((x.length : Int) != 0) = false then y else if Txt.endswith x (Str.ofString "/") = true then x ++ y else x ++ (Str.ofString "/" ++ y)
set_option hygiene false in
local macro_rules | `(tactic| walk_at "truthy str") => `(tactic| (k_here; refine PySem.P.truthy_str hx63 ?_))
theorem c_join {w : World} {mg mb : Str → Option Value} {h : Heap} (G : Gd w mg mb h) (x y : Str) (t u : Tok) (hsz : x.length + y.length + 2 ≤ sizeLine) :
   Con w 2 (.ref 145) [.str x t, .str y u] h (fun r _ => ∃ t, r = .str (joinP x y) t) := by
  refine enterB (PB := fun binds h' => ∃ p, binds = [(Str.ofString "a", .str x t), (Str.ofString "p", .ref p)] ∧ h'.get? p = some { cls := .type "tuple", data := .seq [Value.str y u].toArray }) G (ent145 _) (by kernel_rfl) ?_ ?_ ?_
  · rintro _ rfl A g d tk os E Q hq
    exact bind145 fun p h' hk hp => hq _ h' hk ⟨p, rfl, hp⟩
  · rintro _ _ ⟨p, rfl, _⟩
    rfl
  · rintro A g d tk os R L h2 h₁ binds hA hret hk2 G2 ⟨p, rfl, hp⟩ F N
    conv => arg 3; arg 1; whnf
    have T := G2.T
    have X := G2.K
    have hx63 : ¬ (x.length : Int) ≥ 2 ^ 63 := by rw [sizeLine_eq] at hsz; omega
    k_steps
    refine Con.use (c_fspath (mg := mg) (mb := mb) (by exact G2.keeps (Fr.keep (by k_asm))) x t) hA (by decide) (by k_asm) (by k_asm) ?_
    rintro r h3 tk3 F N - rfl
    k_steps
    refine Con.use (c_getsep (mg := mg) (mb := mb) (by exact G2.keeps (Fr.keep (by k_asm))) x t) hA (by decide) (by k_asm) (by k_asm) ?_
    rintro r h4 tk4 F N - ⟨ts, rfl⟩
    k_steps
    rename Fr _ _ _ _ => F5
    rename News _ _ _ _ => N5
    refine for_tup (h₀ := h2) (p := p) (items := #[Value.str y u]) hA.handled (fun i m nw => nw = [] ∧ (i = 0 → m = (fun z => if z = Str.ofString "path" then some (Value.str x t) else if z = Str.ofString "sep" then some (Value.str (Str.ofString "/") ts) else if z = Str.ofString "a" then some (Value.str x t) else List.lookup z [(Str.ofString "p", Value.ref p), (Str.ofString "a", Value.str x t)])) ∧ (i = 1 → ∃ t', m (Str.ofString "path") = some (.str (joinP x y) t'))) (fun q => wpAny_Name (wpAny_loadName_local (by rfl) (by rfl) F5.ns (by rfl) q) (by decide)) ⟨_, hp, rfl, _, rfl⟩ (by rfl) (by rfl) F5 N5 ⟨rfl, fun _ => rfl, fun e => by cases e⟩ ?_ ?_
    · rintro i v m nw I oI h5 tk5 E' hv ⟨rfl, h0, -⟩ F6 N6 off
      obtain ⟨rfl, rfl⟩ : i = 0 ∧ v = .str y u := by
        rcases i with _ | i
        · exact ⟨rfl, by simpa using hv.symm⟩
        · simp at hv
      obtain rfl := h0 rfl
      change Fr h2 L h5 _ at F6
      change News h2 L h5 _ at N6
      k_steps
      refine Con.use (c_fspath (mg := mg) (mb := mb) (by exact G2.keeps (Fr.keep (by k_asm))) y u) hA (by decide) (by k_asm) (by k_asm) ?_
      rintro r h7 tk7 F7 N7 - rfl
      k_steps
      all_goals (
        refine' Turn.next ?f ?n [] ?s ?o ?j
        case f => k_asm
        case n => k_asm
        case s => simp
        case o => simp
        case j =>
          refine ⟨rfl, ?_, fun _ => ⟨?_, ?_⟩⟩
          · intro e; exact absurd e (by decide)
          rotate_left
          · show some (Value.str _ _) = some (Value.str (joinP x y) _)
            unfold joinP
            simp_all
            rfl)
    · rintro m nw h5 tk5 ⟨rfl, -, hp1⟩ F6 N6
      obtain ⟨t', hp1⟩ := hp1 rfl
      change Fr h2 L h5 _ at F6
      change News h2 L h5 _ at N6
      dsimp only
      k_steps
      refine wpAny_Name (wpAny_loadName_local (by rfl) (by rfl) F6.ns hp1 ?_) (by decide)
      exact hret _ _ _ (fun b o e => F6.keep _ _ (hk2 _ _ e)) ⟨_, rfl⟩
end
section
open PySem PySem.W PySem.W.X PyProof.Rows PySem.Calls
theorem fill4 (P : Params) (h : Heap) : PySem.Challenge.rw_ik0057_01 = PySem.Challenge.rw_ik0057_01 → (KM P).In h → (KM P).In h := by
  k_fill
  intro _ X
  exact X
theorem ent51 (P : Params) : (KM P).lookup 51 = some ⟨.type "function", none, .func (fnOf (Str.ofString "reduce") (Str.ofString "reduce") (dParams (stAt 7)) (dBody (stAt 7)) (dScope (stAt 7)) (.ref 44) .none .none (.str (Str.ofString "cpy313.functools") 218) none (.ref 50) .none), #[]⟩ := by kernel_rfl
theorem bind51 {P : Params} {s : Shared} {pm x y z : Value} (X : (KM P).In s.heap) : BindsTo s (fnOf (Str.ofString "reduce") (Str.ofString "reduce") (dParams (stAt 7)) (dBody (stAt 7)) (dScope (stAt 7)) (.ref 44) .none .none pm none (.ref 50) .none) ⟨[x, y, z], []⟩ [(Str.ofString "function", x), (Str.ofString "sequence", y), (Str.ofString "initial", z)] :=
  kp_binds X (fun S => by kernel_rfl)
theorem iter_list {prog : Program} {w : World} {A : Around} {E : Value → Shared → Prop} {s : Shared} {h₀ : Heap} {L l : Addr} {m : Str → Option Value} {news : List (Addr × Obj)} {items : Array Value} {Q : Value → Shared → Prop}
    (F : Fr h₀ L s.heap m) (N : News h₀ L s.heap news) (hl : s.heap.IsList l items)
    (h : ∀ (I : Addr) h', Fr h₀ L h' m → News h₀ L h' ((I, { cls := .type "list_iterator", data := .fields #[.ref l, .int 0 0] }) :: news) → (∀ p ∈ news, p.1 < I) → l < I → Q (.ref I) { s with heap := h' }) :
    wpAny (model prog w) A (call (.builtin "iter") [.ref l]) Q E s := by
  refine call_function_entry (by decide +kernel) (by decide +kernel) kdk_entry_iter (kdk_args_iter _) ?_
  unfold Builtin.«iter»
  refine wpAny_bind (m := someArgs "iter" 1 2 _) (wpAny_of_eq (a := [Value.ref l]) (by first | rfl | kernel_rfl!) ?_)
  show wpAny _ _ (pyIter (.ref l) >>= _) _ _ _
  refine wpAny_bind (wpAny_pyIter_list hl ?_)
  have hlt : l < s.heap.objs.size := by obtain ⟨o, e, _⟩ := hl; exact Heap.lt_size e
  exact wpAny_pure ⟨_, rfl, h _ _ (F.push _) (News.push F N _ rfl) (fun q hq => Heap.lt_size (N q hq).1) hlt⟩
theorem is_str_ref (x : Str) (t : Tok) (a : Addr) : compareOp .Is (.str x t) (.ref a) = pure (.bool false) := by rfl
/-- the text folded -/
noncomputable def redP (x : Str) (ys : List Str) : Str := ys.foldl joinP x
set_option hygiene false in
local macro_rules | `(tactic| walk_at "exec For Name Name cons nil") => `(tactic| (refine here ?_))
theorem c_reduce {w : World} {mg mb : Str → Option Value} {h : Heap} (G : Gd w mg mb h) {l : Addr} {vs : List Value} {ys : List Str} {n : Nat} (x : Str) (t : Tok)
   (hl : h.get? l = some { cls := .type "list", dict := none, data := .seq vs.toArray n, slots := #[] }) (hy : StrsAre vs ys)
   (hsz : ∀ i y, ys[i]? = some y → (redP x (ys.take i)).length + y.length + 2 ≤ sizeLine) :
   Con w 3 (.ref 51) [.ref 145, .ref l, .str x t] h (fun r _ => ∃ t, r = .str (redP x ys) t) := by
  refine enterB (PB := fun b h' => b = [(Str.ofString "function", .ref 145), (Str.ofString "sequence", .ref l), (Str.ofString "initial", .str x t)] ∧ h' = h) G (ent51 _) (by kernel_rfl) ?_ ?_ ?_
  · rintro _ rfl A g d tk os E Q hq
    exact bind51 G.K _ _ _ _ (hq _ _ (fun _ _ e => e) ⟨rfl, rfl⟩)
  · rintro _ _ ⟨rfl, _⟩
    rfl
  · rintro A g d tk os R L h2 h₁ binds hA hret hk2 G2 ⟨rfl, rfl⟩ F N
    conv => arg 3; arg 1; whnf
    have T := G2.T
    have X := G2.K
    k_steps
    refine iter_list (by k_asm) (by k_asm) ⟨_, F.keep _ _ hl, rfl, _, rfl⟩ ?_
    intro I h3 F3 N3 _ hlI
    dsimp only
    k_steps
    rw [is_str_ref]
    refine wpAny_pure ?_
    k_steps
    refine there ?_
    rename Fr _ _ _ _ => F5
    rename News _ _ _ _ => N5
    have nI := N5.get (a := I) (by k_mem)
    refine for_it (I := I) (p := l) (h₀ := h2) (items := vs.toArray) hA.handled (fun i m nw => nw = [] ∧ (∃ t', m (Str.ofString "value") = some (.str (redP x (ys.take i)) t')) ∧ m (Str.ofString "function") = some (.ref 145)) (fun _ _ _ _ => .inl ⟨_, hl, rfl, _, rfl⟩) (fun q => wpAny_Name (wpAny_loadName_local (by rfl) (by rfl) F5.ns (by rfl) q) (by decide)) (by rfl) (by rfl) F5 ⟨_, nI, rfl, rfl⟩ (N5 _ (.head _)).2.1 (N5 _ (.head _)).2.2 (Nat.ne_of_lt hlI) News.nil (by simp) ⟨rfl, ⟨t, by rfl⟩, by rfl⟩ ?_ ?_
    · rintro i v m nw oI h5 tk5 E' hv ⟨rfl, ⟨t', hval⟩, hfun⟩ F6 N6 off
      obtain ⟨y, u, hyi, rfl⟩ : ∃ y u, ys[i]? = some y ∧ v = .str y u := by
        rcases strsAre_at hy i with ⟨e, _⟩ | ⟨y, u, e, e'⟩
        · simp [e] at hv
        · refine ⟨y, u, e', ?_⟩
          simp [e] at hv
          exact hv.symm
      have hsz' := hsz i y hyi
      have eS : redP x (ys.take (i + 1)) = joinP (redP x (ys.take i)) y := by
        unfold redP
        rw [List.take_add_one, hyi, List.foldl_append]
        rfl
      generalize hX : redP x (ys.take i) = X1 at *
      replace F6 : Fr h2 L h5 (fun z => if z = Str.ofString "element" then some (.str y u) else if z = Str.ofString "value" then some (.str X1 t') else if z = Str.ofString "function" then some (.ref 145) else m z) := fr_eqm F6 (fun z => by
        by_cases h1 : z = Str.ofString "element"
        · simp [h1]
        · by_cases h2 : z = Str.ofString "value"
          · subst h2; simp [h1, hval]
          · by_cases h3 : z = Str.ofString "function"
            · subst h3; simp [h1, h2, hfun]
            · simp [h1, h2, h3])
      change News h2 L h5 _ at N6
      k_steps
      refine Con.use (c_join (mg := mg) (mb := mb) (by exact G2.keeps (Fr.keep (by k_asm))) X1 y t' u hsz') hA (by decide) (by k_asm) (by k_asm) ?_
      rintro r h7 tk7 F7 N7 - ⟨t2, rfl⟩
      k_steps
      refine' Turn.next ?f ?n [] ?s ?o ?j
      case f => k_asm
      case n => k_asm
      case s => simp
      case o => simp
      case j => exact ⟨rfl, ⟨t2, by rw [eS]; rfl⟩, by rfl⟩
    · rintro m nw h5 tk5 ⟨rfl, ⟨t', hval⟩, -⟩ F6 N6
      dsimp only
      k_steps
      refine wpAny_Name (wpAny_loadName_local (by rfl) (by rfl) F6.ns hval ?_) (by decide)
      refine hret _ _ _ F6.keep ⟨t', ?_⟩
      rw [List.size_toArray, strs_len hy, List.take_length]
end
section
open PySem PySem.W PySem.W.X PyProof.Rows PySem.Calls
theorem fill5 (P : Params) (h : Heap) : PySem.Challenge.rw_ik0057_01 = PySem.Challenge.rw_ik0057_01 → (KM P).In h → (KM P).In h := by
  k_fill
  intro _ X
  exact X
theorem ent152 (P : Params) : (KM P).lookup 152 = some ⟨.type "function", none, .func (fnOf (Str.ofString "splitroot") (Str.ofString "splitroot") (dParams (stAt 22)) (dBody (stAt 22)) (dScope (stAt 22)) .none .none .none (.str (Str.ofString "cpy313.posixpath") 354) none (.ref 151) .none), #[]⟩ := by kernel_rfl
/-- the root and the rest of a path -/
noncomputable def rootP (x : Str) : Str × Str :=
  if (Txt.slice x none (some 1) != Str.ofString "/") = true then (Str.ofString "", x)
  else if (Txt.slice x (some 1) (some 2) != Str.ofString "/") = true then (Str.ofString "/", Txt.slice x (some 1) none)
  else if (Txt.slice x (some 2) (some 3) == Str.ofString "/") = true then (Str.ofString "/", Txt.slice x (some 1) none)
  else (Txt.slice x none (some 2), Txt.slice x (some 2) none)
theorem c_splitroot {w : World} {mg mb : Str → Option Value} {h : Heap} (G : Gd w mg mb h) (x : Str) (t : Tok) (hsz : x.length + 2 ≤ sizeLine) :
   ConO w 2 (.ref 152) [.str x t] h (fun a h' => ∃ t1 t2 t3, h'.get? a = some { cls := .type "tuple", data := .seq [Value.str (Str.ofString "") t1, .str (rootP x).1 t2, .str (rootP x).2 t3].toArray }) := by
  refine enter G (ent152 _) (by kernel_rfl) (binds := [(Str.ofString "p", .str x t)]) ?_ (by kernel_rfl) ?_
  · rintro _ rfl
    with_unfolding_all rfl
  · intro A g d tk os R L h₁ hA hret F N
    conv => arg 3; arg 1; whnf
    have T := G.T
    have X := G.K
    k_steps
    refine Con.use (c_fspath (mg := mg) (mb := mb) (by exact G.keeps (Fr.keep (by k_asm))) x t) hA (by decide) (by k_asm) (by k_asm) ?_
    rintro r h7 tk7 F7 N7 - rfl
    k_steps
    all_goals (
      rename News _ _ _ _ => N9
      refine hret _ _ _ (Fr.keep (by k_asm)) ?_
      clear hret
      unfold rootP
      simp only [*, if_true, if_false, Bool.false_eq_true]
      exact ⟨_, rfl, (N9 _ (.head _)).2.2, _, _, _, N9.get List.mem_cons_self⟩)
end
section
open PySem PySem.W PySem.W.X PyProof.Rows PySem.Calls
section
variable {prog : Program} {w : World} {A : Around} {E : Value → Shared → Prop} {s : Shared} {h₀ : Heap} {L l : Addr} {m : Str → Option Value} {news news' : List (Addr × Obj)} {n : Nat} {ws : List Value} {v : Value}
theorem lo_get (N : News h₀ L s.heap news) (hm : (l, PySem.W.listOf ws.toArray n) ∈ news) : s.heap.IsList l ws.toArray := ⟨_, N.get hm, rfl, _, rfl⟩
theorem truthy_nil {Q : Bool → Shared → Prop} (N : News h₀ L s.heap news) (hm : (l, PySem.W.listOf ([] : List Value).toArray n) ∈ news) (h : Q false { s with toks := s.toks + 1 + 1 }) : wpAny (model prog w) A (truthy (.ref l)) Q E s :=
  wpAny_truthy_list (lo_get N hm) (by decide) h
theorem truthy_snoc {Q : Bool → Shared → Prop} (N : News h₀ L s.heap news) (hm : (l, PySem.W.listOf (ws ++ [v]).toArray n) ∈ news) (hz : (ws ++ [v]).length ≤ 1000) (h : Q true { s with toks := s.toks + 1 + 1 }) : wpAny (model prog w) A (truthy (.ref l)) Q E s :=
  wpAny_truthy_list (lo_get N hm) (by rw [List.size_toArray]; omega) (by
    have e : (!(ws ++ [v]).toArray.isEmpty) = true := by simp
    rw [e]; exact h)
theorem last_snoc {value slice : PySem.Expr} {u : Tok} {Q : Value → Shared → Prop} (N : News h₀ L s.heap news) (hm : (l, PySem.W.listOf (ws ++ [v]).toArray n) ∈ news) (h : Q v s)
    (hs : subscripted slice false (.ref l) (.int (-1) u) = operate [.ref l, .int (-1) u] (getItem (.ref l) (.int (-1) u)) := by with_unfolding_all rfl) :
    wpAny (model prog w) A (subscriptTail value slice (.ref l) (.int (-1) u)) Q E s :=
  kde_neg (lo_get N hm) (by decide) (by decide) (j := ws.length) (by
    have e : (ws ++ [v]).length = ws.length + 1 := by simp
    rw [e]
    unfold seqIndex?
    simp
    omega) (by simp) h hs
theorem append_snoc {Q : Value → Shared → Prop} (F : Fr h₀ L s.heap m) (N : News h₀ L s.heap news) (U : Upd l (PySem.W.listOf ws.toArray n) (PySem.W.listOf (ws ++ [v]).toArray (n + 1)) news news') (hz : ws.length ≤ 1000)
    (h : ∀ h', Fr h₀ L h' m → News h₀ L h' news' → Q .none { s with heap := h' }) : wpAny (model prog w) A (call (.builtin "list.append") [.ref l, v]) Q E s :=
  append_K F N (by rw [List.push_toArray]; exact U) h (by rw [List.size_toArray, sizeLine_eq]; omega)
theorem pop_snoc {Q : Value → Shared → Prop} (F : Fr h₀ L s.heap m) (N : News h₀ L s.heap news) (U : Upd l (PySem.W.listOf (ws ++ [v]).toArray n) (PySem.W.listOf ws.toArray (n + 1)) news news') (hz : (ws ++ [v]).length ≤ 1000)
    (h : ∀ h', Fr h₀ L h' m → News h₀ L h' news' → Q v { s with heap := h' }) : wpAny (model prog w) A (call (.builtin "list.pop") [.ref l]) Q E s := by
  exact kl_pop F N (p := ws) (y := v) (kpa_last v ws) U (by rw [sizeLine_eq]; show (ws ++ [v]).length ≤ _; omega) h
theorem strs_ends : ∀ {vs : List Value} {xs : List Str}, StrsAre vs xs → (vs = [] ∧ xs = []) ∨ ∃ vs' xs' x t, vs = vs' ++ [.str x t] ∧ xs = xs' ++ [x] ∧ StrsAre vs' xs' := by
  intro vs xs x
  induction x with
  | nil => exact .inl ⟨rfl, rfl⟩
  | cons y t r ih =>
    rcases ih with ⟨rfl, rfl⟩ | ⟨vs', xs', x, t', rfl, rfl, r'⟩
    · exact .inr ⟨[], [], y, t, rfl, rfl, .nil⟩
    · exact .inr ⟨_ :: vs', y :: xs', x, t', rfl, rfl, .cons y t r'⟩
theorem news_head {h : Heap} {a : Addr} {o : Obj} {r : List (Addr × Obj)} (N : News h₀ L h ((a, o) :: r)) : ∃ b, b = a ∧ News h₀ L h ((b, o) :: r) := ⟨a, rfl, N⟩
theorem off_cons {I : Addr} {p : Addr × Obj} {r : List (Addr × Obj)} (h : (@Ne Nat p.1 I)) (k : ∀ q ∈ r, q.1 ≠ I) : ∀ q ∈ p :: r, q.1 ≠ I := fun q hq => by
  rcases List.mem_cons.mp hq with rfl | hq
  · exact h
  · exact k q hq
theorem off_nil {I : Addr} : ∀ q ∈ ([] : List (Addr × Obj)), q.1 ≠ I := fun _ hq => nomatch hq
theorem fr_name {h : Heap} (F : Fr h₀ L h m) : ∃ m0, m = m0 ∧ Fr h₀ L h m0 := ⟨m, rfl, F⟩
end
end
section
open PySem PySem.W PySem.W.X PyProof.Rows PySem.Calls
theorem fill6 (P : Params) (h : Heap) : PySem.Challenge.rw_ik0057_01 = PySem.Challenge.rw_ik0057_01 → (KM P).In h → (KM P).In h := by
  k_fill
  intro _ X
  exact X
theorem ent159 (P : Params) : (KM P).lookup 159 = some ⟨.type "function", none, .func (fnOf (Str.ofString "normpath") (Str.ofString "normpath") (dParams (stAt 23)) (dBody (stAt 23)) (dScope (stAt 23)) .none .none .none (.str (Str.ofString "cpy313.posixpath") 354) none (.ref 158) .none), #[]⟩ := by kernel_rfl
set_option hygiene false in
local macro_rules | `(tactic| walk_at "call builtin:str.split") => `(tactic| ((with_reducible show wpAny _ _ (call (Value.builtin "str.split") [Value.str _ _, Value.str _ _]) _ _ _); refine KSpl.split1 (by assumption) (by assumption) (by decide) ?_ (by assumption); intro D' l' h' k' e' a' F' N' l1'; rw [e'] at a'; clear e'; (try dsimp only)))
set_option hygiene false in
local macro_rules | `(tactic| walk_at "exec For Name Name cons nil") => `(tactic| (refine here ?_))
set_option hygiene false in
local macro_rules | `(tactic| walk_at "truthy str") => `(tactic| (k_here; refine PySem.P.truthy_str hx63 ?_))
set_option hygiene false in
local macro_rules | `(tactic| walk_at "truthy str") => `(tactic| (k_here; refine PySem.P.truthy_str (by first | exact hp63 | exact hc63 | with_reducible assumption) ?_))
set_option hygiene false in
local macro_rules | `(tactic| walk_at "truthy ref") => `(tactic| (k_here; first | refine truthy_nil (by k_asm) (by k_mem) ?_ | refine truthy_snoc (by k_asm) (by k_mem) (by with_reducible assumption) ?_))
set_option hygiene false in
local macro_rules | `(tactic| walk_at "subscriptTail Name UnaryOp ref int") => `(tactic| (k_here; refine last_snoc (by k_asm) (by k_mem) ?_))
set_option hygiene false in
local macro_rules | `(tactic| walk_at "call builtin:list.append") => `(tactic| (k_here; (refine' append_snoc ?F ?N ?U ?z ?_; (case F => k_asm); (case N => k_asm); (case U => k_upd); (case z => with_reducible assumption)); intro h' F' N'))
set_option hygiene false in
local macro_rules | `(tactic| walk_at "call builtin:list.pop") => `(tactic| (k_here; (refine' pop_snoc ?F ?N ?U ?z ?_; (case F => k_asm); (case N => k_asm); (case U => k_upd); (case z => with_reducible assumption)); intro h' F' N'))
set_option hygiene false in
local macro_rules | `(tactic| walk_at "call builtin:str.join") => `(tactic| (k_here; refine join_listJ hJ (lo_get (by k_asm) (by k_mem)) (by exact hws2) (by decide) (by exact hwt) ?_; intro t' k'))
/-- a turn of normpath -/
noncomputable def normStep (acc : List Str) (c : Str) : List Str :=
  if (c.length : Int) = 0 then acc
  else if (c == Str.ofString ".") = true then acc
  else if (c != Str.ofString "..") = true then acc ++ [c]
  else match acc.getLast? with
    | none => acc
    | some l => if (l == Str.ofString "..") = true then acc ++ [c] else acc.dropLast
noncomputable def compsP (x : Str) : List Str := Txt.split (rootP x).2 (Str.ofString "/")
noncomputable def normC (x : Str) : List Str := (compsP x).foldl normStep []
noncomputable def normP (x : Str) : Str := (rootP x).1 ++ Txt.join (Str.ofString "/") (normC x)
structure NormOk (x : Str) : Prop where
  len : x.length ≤ 1000
  ne : ((x.length : Int) != 0) = true
  rne : (((rootP x).1.length : Int) != 0) = true
  rlen : (rootP x).1.length ≤ 1000
  tlen : (rootP x).2.length ≤ 1000
  cs : (compsP x).length ≤ 999
  cl : ∀ c ∈ compsP x, c.length ≤ 1000
  wt : ((normC x).map (·.length)).sum + (normC x).length ≤ 1048576
  nne : (((normP x).length : Int) != 0) = true
  nlen : (normP x).length ≤ 1000
theorem join_listJ {prog : Program} {w : World} {A : Around} {E : Value → Shared → Prop} {s : Shared} {x J : Str} {t : Tok} {Q : Value → Shared → Prop} {D : Addr} {items : Array Value} {ys : List Str} (hJ : J = Txt.join x ys) (hl : s.heap.IsList D items) (hi : StrsAre items.toList ys) (hsep : x.length ≤ 16) (hw : (ys.map (·.length)).sum + ys.length ≤ 1048576)
    (h : ∀ t' k, Q (.str J t') { s with toks := k }) : wpAny (model prog w) A (call (.builtin "str.join") [.str x t, .ref D]) Q E s := by
  subst hJ
  exact join_listW hl hi hsep hw h
theorem normStep_len (acc : List Str) (c : Str) : (normStep acc c).length ≤ acc.length + 1 := by
  unfold normStep
  repeat' split
  all_goals simp
  all_goals omega
/-- the loop's invariant -/
noncomputable def NormInv (lc D a : Addr) (oD oA : Obj) (comps : List Str) (m0 : Str → Option Value) (i : Nat) (m : Str → Option Value) (nw : List (Addr × Obj)) : Prop :=
  ∃ ws n, nw = [(lc, PySem.W.listOf ws.toArray n), (D, oD), (a, oA)] ∧ StrsAre ws ((comps.take i).foldl normStep []) ∧ ws.length ≤ i ∧ (∀ z, z ≠ Str.ofString "comp" → m z = m0 z)
theorem NormInv.mk {lc D a : Addr} {oD oA : Obj} {comps : List Str} {m0 m : Str → Option Value} {i n : Nat} {ws : List Value} (h1 : StrsAre ws ((comps.take i).foldl normStep [])) (h2 : ws.length ≤ i) (h3 : ∀ z, z ≠ Str.ofString "comp" → m z = m0 z) :
    NormInv lc D a oD oA comps m0 i m [(lc, PySem.W.listOf ws.toArray n), (D, oD), (a, oA)] := ⟨ws, n, rfl, h1, h2, h3⟩
theorem NormInv.elim {lc D a : Addr} {oD oA : Obj} {comps : List Str} {m0 m : Str → Option Value} {i : Nat} {nw : List (Addr × Obj)} (h : NormInv lc D a oD oA comps m0 i m nw) {G : List (Addr × Obj) → Prop}
    (k : ∀ ws n, StrsAre ws ((comps.take i).foldl normStep []) → ws.length ≤ i → (∀ z, z ≠ Str.ofString "comp" → m z = m0 z) → G [(lc, PySem.W.listOf ws.toArray n), (D, oD), (a, oA)]) : G nw := by
  obtain ⟨ws, n, rfl, h1, h2, h3⟩ := h
  exact k ws n h1 h2 h3
theorem strs_at_elim {vs : List Value} {xs : List Str} (hv : StrsAre vs xs) {i : Nat} {v : Value} (h : vs.toArray[i]? = some v) {G : Value → Prop} (k : ∀ y u, xs[i]? = some y → G (.str y u)) : G v := by
  rcases strsAre_at hv i with ⟨e, _⟩ | ⟨y, u, e, e'⟩
  · simp [e] at h
  · simp [e] at h
    subst h
    exact k y u e'
theorem norm_step {comps : List Str} {i : Nat} {c : Str} (h : comps[i]? = some c) : (comps.take (i + 1)).foldl normStep [] = normStep ((comps.take i).foldl normStep []) c := by
  rw [List.take_add_one, h, List.foldl_append]
  rfl
theorem comp_map {m m0 : Str → Option Value} {c : Option Value} (hm : ∀ z, z ≠ Str.ofString "comp" → m z = m0 z) (z : Str) : (fun y => if y = Str.ofString "comp" then c else m y) z = (fun y => if y = Str.ofString "comp" then c else m0 y) z := by
  by_cases h1 : z = Str.ofString "comp"
  · simp [h1]
  · simp [h1, hm z h1]
theorem comp_map' {m m0 : Str → Option Value} (hm : ∀ z, z ≠ Str.ofString "comp" → m z = m0 z) (z : Str) : m z = (fun y => if y = Str.ofString "comp" then m (Str.ofString "comp") else m0 y) z := by
  by_cases h1 : z = Str.ofString "comp"
  · simp [h1]
  · simp [h1, hm z h1]
set_option maxHeartbeats 8000000 in
theorem c_normpath {w : World} {mg mb : Str → Option Value} {h : Heap} (G : Gd w mg mb h) (x : Str) (t : Tok) (ok : NormOk x) :
   Con w 3 (.ref 159) [.str x t] h (fun r h' => ∃ t', r = .str (normP x) t') := by
  refine enter G (ent159 _) (by kernel_rfl) (binds := [(Str.ofString "path", .str x t)]) ?_ (by kernel_rfl) ?_
  · rintro _ rfl
    with_unfolding_all rfl
  · intro A g d tk os R L h₁ hA hret F N
    conv => arg 3; arg 1; whnf
    obtain ⟨hd', dp', fr', gu', un'⟩ := A
    obtain rfl : hd' = none := hA.handled
    have T := G.T
    have X := G.K
    have hx63 : ¬ (x.length : Int) ≥ 2 ^ 63 := by have := ok.len; omega
    have hr63 : ¬ ((rootP x).1.length : Int) ≥ 2 ^ 63 := by have := ok.rlen; omega
    have hn63 : ¬ ((normP x).length : Int) ≥ 2 ^ 63 := by have := ok.nlen; omega
    have hx0 := ok.ne
    have hr0 := ok.rne
    have hsz2 : (rootP x).2.length + 2 ≤ sizeLine := by have := ok.tlen; rw [sizeLine_eq]; omega
    k_steps
    refine Con.use (c_fspath (mg := mg) (mb := mb) (by exact G.keeps (Fr.keep (by k_asm))) x t) hA (by decide) (by k_asm) (by k_asm) ?_
    rintro r h7 tk7 F7 N7 - rfl
    k_steps
    refine ConO.use (c_splitroot (mg := mg) (mb := mb) (by exact G.keeps (Fr.keep (by k_asm))) x t (by have := ok.len; rw [sizeLine_eq]; omega)) hA (by decide) (by k_asm) (by k_asm) ?_
    rintro a h8 tk8 F8 N8 - ⟨t1, t2, t3, ha⟩
    replace N8 := N8 _ ha
    k_steps
    refine there ?_
    rename Fr _ _ _ _ => F5
    rename News _ _ _ _ => N5
    rename StrsAre _ _ => hcomps
    obtain ⟨lc, hlc, M5⟩ := news_head N5
    subst hlc
    obtain ⟨m0, hm0, G5⟩ := fr_name F5
    refine for_list (p := D') (items := (strValues l').toArray) (h₀ := h) rfl (NormInv lc D' a (PySem.W.listOf (strValues l').toArray 0) { cls := Value.type "tuple", data := Data.seq [Value.str (Str.ofString "") t1, Value.str (rootP x).fst t2, Value.str (rootP x).snd t3].toArray } (compsP x) m0) ?_ ?_ (by rfl) (by rfl) G5 N5 ?_ ?_ ?_
    · intro i m nw hI
      exact NormInv.elim (G := fun nw => LCg.SrcAt h D' (strValues l').toArray nw) hI fun ws n _ _ _ => .inr ⟨_, .tail _ (.head _), rfl, _, rfl⟩
    · intro Q' q
      exact wpAny_Name (wpAny_loadName_local (by rfl) (by rfl) G5.ns (by rw [← hm0]; rfl) q) (by decide)
    · exact NormInv.mk (ws := []) (n := 0) .nil (Nat.le_refl _) fun _ _ => rfl
    · intro i v m nw I oI h10 tk10 E' hv hI
      apply NormInv.elim hI
      clear hI
      apply strs_at_elim hcomps hv
      clear hv
      intro c u hci ws n hws hlen hm F6 N6 off
      replace hci : (compsP x)[i]? = some c := hci
      have eS := norm_step hci
      have hc63 : ¬ (c.length : Int) ≥ 2 ^ 63 := by have := ok.cl c (List.mem_of_getElem? hci); omega
      have hi : i < (compsP x).length := (List.getElem?_eq_some_iff.mp hci).1
      have hwl : ws.length ≤ 1000 := by have := ok.cs; omega
      generalize ((compsP x).take i).foldl normStep [] = acc at *
      replace F6 := fr_eqm F6 (comp_map hm)
      subst hm0
      change Fr h L h10 _ at F6
      change News h L h10 _ at N6
      have o1 : (@Ne Nat lc I) := off _ (.head _)
      have o2 : (@Ne Nat D' I) := off _ (.tail _ (.head _))
      have o3 : (@Ne Nat a I) := off _ (.tail _ (.tail _ (.head _)))
      have o4 : (@Ne Nat I lc) := Ne.symm o1
      refine absQ fun Q0 hQ => ?_
      k_steps
      all_goals (try dsimp only)
      all_goals (
        first
          | (
            refine hQ _ _ ?_
            first
              | refine' Turn.cont (all := (I, oI) :: _) ?f ?n _ (fun _ hp => hp) ?o ?j
              | refine' Turn.next (all := (I, oI) :: _) ?f ?n _ (fun _ hp => hp) ?o ?j
            case f => k_asm
            case n => k_asm
            case o => exact off_cons o1 (off_cons o2 (off_cons o3 off_nil))
            case j =>
              refine NormInv.mk ?_ ?_ (fun z hz => if_neg hz)
              · rw [eS]
                clear hret ok hsz2 hwl hm T X G
                first
                  | (rw [show normStep _ c = _ by unfold normStep; simp only [*, if_true, if_false, List.getLast?_concat, List.getLast?_nil, List.dropLast_concat, Bool.false_eq_true, eq_self]; try rfl]; assumption)
                  | (rw [show normStep _ c = _ ++ [c] by unfold normStep; simp only [*, if_true, if_false, List.getLast?_concat, List.getLast?_nil, List.dropLast_concat, Bool.false_eq_true, eq_self]; try rfl]; exact strs_snoc (by assumption))
              · (try simp only [List.length_append, List.length_cons, List.length_nil] at hlen ⊢)
                omega)
          | (
            rcases strs_ends hws with ⟨rfl, rfl⟩ | ⟨ws, acc, z, tz, rfl, rfl, hws'⟩
            · k_steps
              all_goals (try dsimp only)
              all_goals (
                refine hQ _ _ ?_
                first
                  | refine' Turn.cont (all := (I, oI) :: _) ?f ?n _ (fun _ hp => hp) ?o ?j
                  | refine' Turn.next (all := (I, oI) :: _) ?f ?n _ (fun _ hp => hp) ?o ?j
                case f => k_asm
                case n => k_asm
                case o => exact off_cons o1 (off_cons o2 (off_cons o3 off_nil))
                case j =>
                  refine NormInv.mk ?_ ?_ (fun z hz => if_neg hz)
                  · rw [eS]
                    clear hret ok hsz2 hwl hm T X G
                    first
                      | (rw [show normStep _ c = _ by unfold normStep; simp only [*, if_true, if_false, List.getLast?_concat, List.getLast?_nil, List.dropLast_concat, Bool.false_eq_true, eq_self]; try rfl]; assumption)
                      | (rw [show normStep _ c = _ ++ [c] by unfold normStep; simp only [*, if_true, if_false, List.getLast?_concat, List.getLast?_nil, List.dropLast_concat, Bool.false_eq_true, eq_self]; try rfl]; exact strs_snoc (by assumption))
                  · (try simp only [List.length_append, List.length_cons, List.length_nil] at hlen ⊢)
                    omega)
            · k_steps
              all_goals (try dsimp only)
              all_goals (
                refine hQ _ _ ?_
                first
                  | refine' Turn.cont (all := (I, oI) :: _) ?f ?n _ (fun _ hp => hp) ?o ?j
                  | refine' Turn.next (all := (I, oI) :: _) ?f ?n _ (fun _ hp => hp) ?o ?j
                case f => k_asm
                case n => k_asm
                case o => exact off_cons o1 (off_cons o2 (off_cons o3 off_nil))
                case j =>
                  refine NormInv.mk ?_ ?_ (fun z hz => if_neg hz)
                  · rw [eS]
                    clear hret ok hsz2 hwl hm T X G
                    first
                      | (rw [show normStep _ c = _ by unfold normStep; simp only [*, if_true, if_false, List.getLast?_concat, List.getLast?_nil, List.dropLast_concat, Bool.false_eq_true, eq_self]; try rfl]; assumption)
                      | (rw [show normStep _ c = _ ++ [c] by unfold normStep; simp only [*, if_true, if_false, List.getLast?_concat, List.getLast?_nil, List.dropLast_concat, Bool.false_eq_true, eq_self]; try rfl]; exact strs_snoc (by assumption))
                  · (try simp only [List.length_append, List.length_cons, List.length_nil] at hlen ⊢)
                    omega)))
    · intro m nw h10 tk10 hI
      apply NormInv.elim hI
      clear hI
      intro ws n hws hlen hm F6 N6
      rw [List.size_toArray, strs_len hcomps, show (Txt.split (rootP x).2 (Str.ofString "/")) = compsP x from rfl, List.take_length] at hws
      replace F6 := fr_eqm F6 (comp_map' hm)
      subst hm0
      change Fr h L h10 _ at F6
      change News h L h10 _ at N6
      have hwt := ok.wt
      obtain ⟨J, hJ⟩ : ∃ J, J = Txt.join (Str.ofString "/") (normC x) := ⟨_, rfl⟩
      have eN : normP x = (rootP x).1 ++ J := by rw [hJ]; rfl
      have hp63 := hn63
      have hp0 := ok.nne
      have hws2 : StrsAre ws.toArray.toList (normC x) := hws
      rw [eN] at hp63 hp0 hret
      have hjl : (rootP x).1.length + J.length ≤ 1000 := by
        have := ok.nlen
        rw [eN, strLen_append] at this
        exact this
      clear hn63
      generalize normC x = nc at *
      dsimp only
      k_steps
      dsimp only
      exact hret _ _ _ (Fr.keep (by k_asm)) ⟨_, rfl⟩
end
section
open PySem PySem.W PySem.W.X PyProof.Rows PySem.Calls
theorem turn1_eq (elt t0 i0 t1 i1 : Expr) (scope : Scope) (pos : Pos) (it acc : Value) (env : Env) : compTurn (.ListComp elt [⟨t0, i0, [], 0⟩, ⟨t1, i1, [], 0⟩] scope pos) 1 it acc env = (standAt i1.pos >>= fun _ => pyNext it >>= fun r => match r with
      | none => pure (.done .next)
      | some v => letOwnedTupleGo t1 it v >>= fun _ => assign t1 env v >>= fun _ =>
        (eval elt env >>= fun x => call (.builtin "list.append") [acc, x] >>= fun _ => pure ()) >>= fun _ =>
          again (.compLoop (.ListComp elt [⟨t0, i0, [], 0⟩, ⟨t1, i1, [], 0⟩] scope pos) 1 it acc env)) := by rfl
theorem turn0_eq (elt t0 i0 t1 i1 : Expr) (scope : Scope) (pos : Pos) (it acc : Value) (env : Env) : compTurn (.ListComp elt [⟨t0, i0, [], 0⟩, ⟨t1, i1, [], 0⟩] scope pos) 0 it acc env = (standAt i0.pos >>= fun _ => pyNext it >>= fun r => match r with
      | none => pure (.done .next)
      | some v => letOwnedTupleGo t0 it v >>= fun _ => assign t0 env v >>= fun _ =>
        (eval i1 env >>= fun x => standAt i1.pos >>= fun _ => foldedSetIterable i1 env x >>= fun x => holding [x] (pyIter x) >>= fun it1 =>
          runOwn (.compStart (.ListComp elt [⟨t0, i0, [], 0⟩, ⟨t1, i1, [], 0⟩] scope pos) 1 it1 acc env) env >>= fun _ =>
          again (.compLoop (.ListComp elt [⟨t0, i0, [], 0⟩, ⟨t1, i1, [], 0⟩] scope pos) 0 it acc env))) := by rfl
section
variable {prog : Program} {w : World} {A : Around} {R : Result → Shared → Prop} {s : Shared}
theorem start1 {elt t0 i0 t1 i1 : Expr} {scope : Scope} {pos : Pos} {it acc : Value} {env : Env}
    (h0 : codeAny (model prog w) A (.compLoop (.ListComp elt [⟨t0, i0, [], 0⟩, ⟨t1, i1, [], 0⟩] scope pos) 1 it acc env) R s)
    (h : wpAny (model prog w) A (pyIter it) (fun it' s' => codeAny (model prog w) A (.compLoop (.ListComp elt [⟨t0, i0, [], 0⟩, ⟨t1, i1, [], 0⟩] scope pos) 1 it' acc env) R s')
      (notedBy (model prog w) A env fun x s' => R (.error x) s') s) :
    codeAny (model prog w) A (.compStart (.ListComp elt [⟨t0, i0, [], 0⟩, ⟨t1, i1, [], 0⟩] scope pos) 1 it acc env) R s := by
  refine codeAny_of_tree ?_
  show wpAny _ _ ((compStart (.ListComp elt [⟨t0, i0, [], 0⟩, ⟨t1, i1, [], 0⟩] scope pos) 1 it acc env).onRaise (fun x => do noteFrame x env; standAt theWindowsPlace)) _ _ s
  refine wpAny_notedAt ?_
  unfold compStart
  show wpAny _ _ (ask >>= _) _ _ s
  refine wpAny_bind (wpAny_askSetting (wpAny_ite ?_))
  split
  · first
      | exact wpAny_bind (wpAny_pure (wpAny_pure (And.intro rfl h0)))
      | exact wpAny_pure (And.intro rfl h0)
  · (refine wpAny_bind (wpAny_rule ?_); show wpAny _ _ (standAt i1.pos >>= _) _ _ s; exact wpAny_bind (wpAny_standAt (wpAny_bind (wpAny_mono h (fun it' s' h' => wpAny_pure (And.intro rfl h')) fun _ _ x => x))))

/-- the inner generator's turns -/
noncomputable def InJ (I2 X D C : Addr) (items : Array Value) (ys : List Value) (y : Str) (m : Str → Option Value) (h0 : Heap) (j : Nat) (h' : Heap) (m' : Str → Option Value) : Prop :=
  h'.IsListIter I2 X j ∧ h'.IsList X items ∧ h'.Ns C m' ∧ (∀ z, z ≠ y → m' z = m z) ∧ h'.get? D = some (LCg.lst (ys ++ items.toList.take j)) ∧ (∀ b o, b ≠ D → b ≠ C → b ≠ I2 → h0.get? b = some o → h'.get? b = some o)
/-- the outer generator's turns -/
noncomputable def OutJ (I ax D C : Addr) (items : Array Value) (G : Nat → List Value → Prop) (h0 : Heap) (j : Nat) (h' : Heap) (m' : Str → Option Value) : Prop :=
  ∃ ys, h'.IsListIter I ax j ∧ h'.IsList ax items ∧ h'.Ns C m' ∧ G j ys ∧ h'.get? D = some (LCg.lst ys) ∧ (∀ b o, b ≠ D → b ≠ C → b ≠ I → h0.get? b = some o → h'.get? b = some o)
/-- the inner generator: all items of a list are put to the end of D -/
theorem inner_loop {t0 i0 i1 : Expr} {y : Str} {py qy : Pos} {scope : Scope} {pos : Pos} {cenv : Env} {I2 X D : Addr} {items : Array Value} {ys : List Value} {m : Str → Option Value}
    (hh : A.handled = none) (hkf : cenv.scope.kind = .function) (hy : cenv.kindOf y = some .local) (hdb : (y == Str.ofString "__debug__") = false)
    (hsz : ys.length + items.size ≤ sizeLine) (hIX : X ≠ I2) (hIC : I2 ≠ cenv.locals) (hXC : X ≠ cenv.locals) (hDC : D ≠ cenv.locals) (hDI : D ≠ I2) (hDX : D ≠ X)
    (hit : s.heap.IsListIter I2 X 0) (hX : s.heap.IsList X items) (hC : s.heap.Ns cenv.locals m) (hD : s.heap.get? D = some (LCg.lst ys))
    (fin : ∀ h' tk m', h'.Ns cenv.locals m' → (∀ z, z ≠ y → m' z = m z) → h'.get? D = some (LCg.lst (ys ++ items.toList)) → (∀ b o, b ≠ D → b ≠ cenv.locals → b ≠ I2 → s.heap.get? b = some o → h'.get? b = some o) → R (.ok .next) { s with heap := h', toks := tk }) :
    codeAny (model prog w) A (.compLoop (.ListComp (.Name y py) [⟨t0, i0, [], 0⟩, ⟨.Name y qy, i1, [], 0⟩] scope pos) 1 (.ref I2) (.ref D) cenv) R s := by
  have W := Walks.list (prog := prog) (w := w) hh I2 X hIX items
  refine codeAny_loop rfl (CmpI (InJ I2 X D cenv.locals items ys y m s.heap) items.size s) ?_ items.size
    (CmpI.mk (j := 0) (tk := s.toks) (m' := m) (Nat.zero_le _) ⟨hit, hX, hC, fun _ _ => rfl, by rw [List.take_zero, List.append_nil]; exact hD, fun b o _ _ _ e => e⟩)
  intro n s' hq1
  apply CmpI.elim hq1
  clear hq1
  intro j h' tk m' hj hJ
  refine hide fun G1 hG1 => ?_
  obtain ⟨hit', hX', hC', hm', hD', hk'⟩ := hJ
  refine hG1 ?_
  clear hG1
  show wpAny _ _ ((compTurn (.ListComp (.Name y py) [⟨t0, i0, [], 0⟩, ⟨.Name y qy, i1, [], 0⟩] scope pos) 1 (.ref I2) (.ref D) cenv).onRaise (fun x => do noteFrame x cenv; theTreesLotGoes x)) _ _ _
  refine wpAny_noted ?_
  rw [turn1_eq]
  refine wpAny_bind (wpAny_standAt (wpAny_bind ?_))
  by_cases hlt : j < items.size
  · refine W.item j _ _ _ hlt ⟨hit', hX'⟩ fun v h₂ tk₂ hPv hst₂ hk₂ => ?_
    refine wpAny_bind (wpAny_of_eq (by rfl) ?_)
    have k2 : ∀ b o, b ≠ I2 → h'.get? b = some o → h₂.get? b = some o := fun b o hb e => hk₂ b o (by simpa using hb) e
    refine wpAny_bind (wpAny_assign_Name (wpAny_storeName_local hy (hC'.at' fun o e => k2 _ o (Ne.symm hIC) e) (fun h₃ hn₃ hs₃ => ?_) (by simp [hkf])))
    refine wpAny_bind (wpAny_bind ?_)
    refine wpAny_Name (wpAny_loadName_local hkf hy hn₃ (by simp; rfl) ?_) hdb
    have k3 : ∀ b o, b ≠ cenv.locals → b ≠ I2 → h'.get? b = some o → h₃.get? b = some o := fun b o hb hb2 e => hs₃.extBut b o hb (k2 b o hb2 e)
    refine wpAny_bind (append_at (k3 _ _ hDC hDI hD') (fun h₅ hs₅ hD₅ => ?_) (by
      have : (items.toList.take j).length ≤ items.size := by rw [List.length_take, Array.length_toList]; omega
      simp only [List.size_toArray, List.length_append]
      omega))
    refine wpAny_pure (wpAny_pure ⟨rfl, items.size - (j + 1), Nat.sub_lt_sub_left hlt (Nat.lt_succ_self j), CmpI.mk hlt ⟨?_, ?_, hn₃.sameBut hs₅ (Ne.symm hDC), ?_, ?_, ?_⟩⟩)
    · exact (hst₂.1.at fun o e => hs₃.extBut _ o hIC e).at fun o e => hs₅.extBut _ o (Ne.symm hDI) e
    · exact (hst₂.2.at fun o e => hs₃.extBut _ o hXC e).at fun o e => hs₅.extBut _ o (Ne.symm hDX) e
    · intro z hz
      show (if z = y then some v else m' z) = m z
      rw [if_neg hz, hm' z hz]
    · have hv : items.toList[j]? = some v := by simpa using hPv
      rw [hD₅]
      congr 1
      rw [LCg.lst_snoc, List.append_assoc, List.take_add_one, hv]
      rfl
    · intro b o hb1 hb2 hb3 e
      exact hs₅.extBut b o hb1 (k3 b o hb2 hb3 (hk' b o hb1 hb2 hb3 e))
  · obtain rfl : j = items.size := Nat.le_antisymm hj (Nat.not_lt.mp hlt)
    refine W.done _ _ _ ⟨hit', hX'⟩ fun h₂ tk₂ hk₂ => ?_
    have k2 : ∀ b o, b ≠ I2 → h'.get? b = some o → h₂.get? b = some o := fun b o hb e => hk₂ b o (by simpa using hb) e
    refine wpAny_pure (fin h₂ tk₂ m' (hC'.at' fun o e => k2 _ o (Ne.symm hIC) e) hm' ?_ fun b o h1 h2 h3 e => k2 _ _ h3 (hk' b o h1 h2 h3 e))
    have e := k2 _ _ hDI hD'
    rw [List.take_of_length_le (by simp)] at e
    exact e
/-- the outer generator -/
theorem outer_loop {i0 i1 : Expr} {x y : Str} {px py qy : Pos} {scope : Scope} {pos : Pos} {cenv : Env} {I ax D : Addr} {items : Array Value} {m : Str → Option Value} (PV : Value → List Value → Prop) (G : Nat → List Value → Prop)
    (hh : A.handled = none) (hkf : cenv.scope.kind = .function) (hx : cenv.kindOf x = some .local) (hy : cenv.kindOf y = some .local) (hdb : (y == Str.ofString "__debug__") = false) (hfold : ∀ v, foldedSetIterable i1 cenv v = pure v)
    (hxI : ax ≠ I) (hIC : I ≠ cenv.locals) (hxC : ax ≠ cenv.locals) (hDC : D ≠ cenv.locals) (hDI : D ≠ I) (hDx : D ≠ ax)
    (hit : s.heap.IsListIter I ax 0) (hX : s.heap.IsList ax items) (hC : s.heap.Ns cenv.locals m) (hD : s.heap.get? D = some (LCg.lst [])) (g0 : G 0 [])
    (hG : ∀ i ys v vs, G i ys → items[i]? = some v → PV v vs → G (i + 1) (ys ++ vs) ∧ ys.length + vs.length ≤ sizeLine)
    (hev : ∀ (i : Nat) v (s' : Shared) m' (Q' E' : Value → Shared → Prop), items[i]? = some v → s'.heap.Ns cenv.locals m' → m' x = some v → (∀ X h' tk vs, (∀ b o, s'.heap.get? b = some o → h'.get? b = some o) → s'.heap.get? X = none → h'.IsList X vs.toArray → PV v vs → Q' (.ref X) { s' with heap := h', toks := tk }) → wpAny (model prog w) A (eval i1 cenv) Q' E' s')
    (fin : ∀ h' tk m' ys, h'.Ns cenv.locals m' → G items.size ys → h'.get? D = some (LCg.lst ys) → (∀ b o, b ≠ D → b ≠ cenv.locals → b ≠ I → s.heap.get? b = some o → h'.get? b = some o) → R (.ok .next) { s with heap := h', toks := tk }) :
    codeAny (model prog w) A (.compLoop (.ListComp (.Name y py) [⟨.Name x px, i0, [], 0⟩, ⟨.Name y qy, i1, [], 0⟩] scope pos) 0 (.ref I) (.ref D) cenv) R s := by
  have W := Walks.list (prog := prog) (w := w) hh I ax hxI items
  refine codeAny_loop rfl (CmpI (OutJ I ax D cenv.locals items G s.heap) items.size s) ?_ items.size
    (CmpI.mk (j := 0) (tk := s.toks) (m' := m) (Nat.zero_le _) ⟨[], hit, hX, hC, g0, hD, fun b o _ _ _ e => e⟩)
  intro n s' hq2
  apply CmpI.elim hq2
  clear hq2
  intro j h' tk m' hj hJ
  refine hide fun G2 hG2 => ?_
  obtain ⟨ys, hit', hX', hC', hg, hD', hk'⟩ := hJ
  refine hG2 ?_
  clear hG2
  show wpAny _ _ ((compTurn (.ListComp (.Name y py) [⟨.Name x px, i0, [], 0⟩, ⟨.Name y qy, i1, [], 0⟩] scope pos) 0 (.ref I) (.ref D) cenv).onRaise (fun x => do noteFrame x cenv; theTreesLotGoes x)) _ _ _
  refine wpAny_noted ?_
  rw [turn0_eq]
  refine wpAny_bind (wpAny_standAt (wpAny_bind ?_))
  by_cases hlt : j < items.size
  · refine W.item j _ _ _ hlt ⟨hit', hX'⟩ fun v h₂ tk₂ hPv hst₂ hk₂ => ?_
    refine wpAny_bind (wpAny_of_eq (by rfl) ?_)
    have k2 : ∀ b o, b ≠ I → h'.get? b = some o → h₂.get? b = some o := fun b o hb e => hk₂ b o (by simpa using hb) e
    refine wpAny_bind (wpAny_assign_Name (wpAny_storeName_local hx (hC'.at' fun o e => k2 _ o (Ne.symm hIC) e) (fun h₃ hn₃ hs₃ => ?_) (by simp [hkf])))
    have k3 : ∀ b o, b ≠ cenv.locals → b ≠ I → h'.get? b = some o → h₃.get? b = some o := fun b o hb hb2 e => hs₃.extBut b o hb (k2 b o hb2 e)
    refine wpAny_bind (hev j v _ _ _ _ hPv hn₃ (by simp) fun X h₄ tk₄ vs hk4 hnX hX4 hpv => ?_)
    obtain ⟨hg', hzz⟩ := hG j ys v vs hg hPv hpv
    refine wpAny_bind (wpAny_standAt (wpAny_bind (wpAny_of_eq (hfold _) ?_)))
    have ltX : ∀ b o, h₃.get? b = some o → b ≠ X := fun b o e q => by rw [q, hnX] at e; cases e
    refine hide fun G3 hG3 => ?_
    obtain ⟨oC, _, _, eC, _⟩ := id hn₃
    refine hG3 ?_
    clear hG3
    refine hide fun G4 hG4 => ?_
    obtain ⟨oI, eI, _⟩ := id (hst₂.1.at fun o e => hs₃.extBut _ o hIC e : h₃.IsListIter I ax (j + 1))
    refine hG4 ?_
    clear hG4
    refine hide fun G5 hG5 => ?_
    obtain ⟨oX, eX, _⟩ := id hX4
    refine hG5 ?_
    clear hG5
    have hltX : X < h₄.objs.size := Heap.lt_size eX
    have ltS : ∀ b o, h₄.get? b = some o → b ≠ h₄.objs.size := fun b o e => Nat.ne_of_lt (Heap.lt_size e)
    have up : ∀ b o, h₄.get? b = some o → (h₄.push { cls := .type "list_iterator", data := .fields #[.ref X, .int 0 0] }).get? b = some o := fun b o e => Heap.get?_push_of_some _ e
    have eD3 := k3 _ _ hDC hDI hD'
    refine wpAny_bind (wpAny_holding (wpAny_pyIter_list hX4 ?_))
    refine wpAny_bind (wpAny_runOwn (by
      refine start1 ?_ ?_
      all_goals (try refine wpAny_pyIter_listiter (it := h₄.objs.size) (l := X) (i := 0) ⟨_, Heap.get?_push_size _ rfl, rfl, rfl⟩ ?_)
      all_goals (
        refine inner_loop (I2 := h₄.objs.size) (X := X) (items := vs.toArray) (ys := ys) (by first | rfl | exact hh) hkf hy hdb (by rw [List.size_toArray]; exact hzz) (Nat.ne_of_lt hltX) (Ne.symm (ltS _ _ (hk4 _ _ eC))) (Ne.symm (ltX _ _ eC)) hDC (ltS _ _ (hk4 _ _ eD3)) (ltX _ _ eD3) ⟨_, Heap.get?_push_size _ rfl, rfl, rfl⟩ (hX4.push _) (hn₃.at' fun o e => up _ _ (hk4 _ _ e)) (up _ _ (hk4 _ _ eD3)) ?_
        intro h₅ tk₅ m₅ hC₅ hm₅ hD₅ hk₅
        have k5 : ∀ b o, b ≠ D → b ≠ cenv.locals → h₃.get? b = some o → h₅.get? b = some o := fun b o h1 h2 e => hk₅ b o h1 h2 (ltS _ _ (hk4 _ _ e)) (up _ _ (hk4 _ _ e))
        refine wpAny_pure ⟨rfl, items.size - (j + 1), Nat.sub_lt_sub_left hlt (Nat.lt_succ_self j), CmpI.mk hlt ⟨ys ++ vs, ?_, ?_, hC₅, hg', hD₅, ?_⟩⟩
        · exact (hst₂.1.at fun o e => hs₃.extBut _ o hIC e).at fun o e => k5 _ o (Ne.symm hDI) hIC e
        · exact (hst₂.2.at fun o e => hs₃.extBut _ o hxC e).at fun o e => k5 _ o (Ne.symm hDx) hxC e
        · intro b o h1 h2 h3 e
          exact k5 b o h1 h2 (k3 b o h2 h3 (hk' b o h1 h2 h3 e)))))
  · obtain rfl : j = items.size := Nat.le_antisymm hj (Nat.not_lt.mp hlt)
    refine W.done _ _ _ ⟨hit', hX'⟩ fun h₂ tk₂ hk₂ => ?_
    have k2 : ∀ b o, b ≠ I → h'.get? b = some o → h₂.get? b = some o := fun b o hb e => hk₂ b o (by simpa using hb) e
    exact wpAny_pure (fin h₂ tk₂ m' ys (hC'.at' fun o e => k2 _ o (Ne.symm hIC) e) hg (k2 _ _ hDI hD') fun b o h1 h2 h3 e => k2 _ _ h3 (hk' b o h1 h2 h3 e))
/-- x = [piece for name in row for piece in [..]] -/
theorem assign_comp2 {i0 i1 : Expr} {x y z : Str} {px py qy pz : Pos} {scope : Scope} {cl : List (Str × Addr)} {pos spos : Pos} {env : Env} {ax : Addr} {items : Array Value} {h₀ : Heap} {m : Str → Option Value} {news : List (Addr × Obj)} {E : Value → Shared → Prop} {Q : Flow → Shared → Prop} (PV : Value → List Value → Prop) (G : Nat → List Value → Prop)
    (hh : A.handled = none)
    (hsw : swapsWith (.ListComp (.Name y py) [⟨.Name x px, i0, [], 0⟩, ⟨.Name y qy, i1, [], 0⟩] scope pos) (some (.Name z pz)) spos.line env = pure true)
    (hclos : closureFor scope env = pure cl) (hcell : ∀ z ∈ scope.names, z.2 ≠ .cell) (hkind : scope.kind = .function)
    (hnames : ∀ z ∈ scope.names, z.2 = .local → scope.names.lookup z.1 = some .local) (hx : scope.names.lookup x = some .local) (hy : scope.names.lookup y = some .local) (hdb : (y == Str.ofString "__debug__") = false)
    (hz : env.kindOf z = some .local) (hp : (env.scope.kind == .class || (env.scope.kind == .module && env.locals != env.globals)) = false)
    (F : Fr h₀ env.locals s.heap m) (N : News h₀ env.locals s.heap news) (hl : s.heap.IsList ax items)
    (hi0 : ∀ {Q' : Value → Shared → Prop}, Q' (.ref ax) s → wpAny (model prog w) A (eval i0 env) Q' E s)
    (g0 : G 0 []) (hG : ∀ i ys v vs, G i ys → items[i]? = some v → PV v vs → G (i + 1) (ys ++ vs) ∧ ys.length + vs.length ≤ sizeLine)
    (hfold : ∀ C v, foldedSetIterable i1 (compEnvC scope cl C env) v = pure v)
    (hev : ∀ (C : Addr) (i : Nat) v (s' : Shared) m' (Q' E' : Value → Shared → Prop), items[i]? = some v → s'.heap.Ns C m' → m' x = some v → (∀ X h' tk vs, (∀ b o, s'.heap.get? b = some o → h'.get? b = some o) → s'.heap.get? X = none → h'.IsList X vs.toArray → PV v vs → Q' (.ref X) { s' with heap := h', toks := tk }) → wpAny (model prog w) A (eval i1 (compEnvC scope cl C env)) Q' E' s')
    (k : ∀ D ys h tk, Fr h₀ env.locals h (fun y => if y = z then some (.ref D) else m y) → News h₀ env.locals h ((D, LCg.lst ys) :: news) → G items.size ys → Q .next { s with heap := h, toks := tk })
    (hs : ∀ x, foldedSetIterable i0 env x = pure x := by intro _; rfl) :
    wpAny (model prog w) A (exec (.Assign [.Name z pz] (.ListComp (.Name y py) [⟨.Name x px, i0, [], 0⟩, ⟨.Name y qy, i1, [], 0⟩] scope pos) spos) env) Q E s := by
  rw [exec_Assign_Name_used _ _ _ _ hsw]
  refine wpAny_bind (wpAny_standAt (wpAny_bind ?_))
  show wpAny _ A (do let _ ← comprehension (.ListComp (.Name y py) [⟨.Name x px, i0, [], 0⟩, ⟨.Name y qy, i1, [], 0⟩] scope pos) scope env _ (newList []) false (eval i0 env) (some (assign (.Name z pz) env))) _ _ s
  refine wpAny_bind (wpAny_mono (wpAny_comprehension_free (use := some (assign (.Name z pz) env)) (Q := fun _ s' => Q .next s') rfl hs hclos hkind hnames
    (hi0 ?_)) (fun _ s' hq => wpAny_pure (wpAny_pure hq)) fun _ _ e => e)
  refine wpAny_pyIter_list hl ?_
  have hlt : ax < s.heap.objs.size := by obtain ⟨_, e, _⟩ := hl; exact Heap.lt_size e
  refine wpAny_newObj_type (wpAny_newFunctionEnv hcell (by intro y hy; simp at hy) (fun h₁ hns₁ hsb₁ => ?_) hkind)
  dsimp only at hns₁ hsb₁ ⊢
  have up1 : ∀ b o, s.heap.get? b = some o → (s.heap.push { cls := .type "list_iterator", data := .fields #[.ref ax, .int 0 0] }).get? b = some o := fun b o e => Heap.get?_push_of_some _ e
  have eI1 : (s.heap.push { cls := .type "list_iterator", data := .fields #[.ref ax, .int 0 0] }).get? s.heap.objs.size = some { cls := .type "list_iterator", data := .fields #[.ref ax, .int 0 0] } := Heap.get?_push_size _ rfl
  have z1 : (s.heap.push { cls := .type "list_iterator", data := .fields #[.ref ax, .int 0 0] }).objs.size = s.heap.objs.size + 1 := Heap.size_push ..
  generalize (s.heap.push { cls := .type "list_iterator", data := .fields #[.ref ax, .int 0 0] }) = H1 at *
  have up2 : ∀ b o, H1.get? b = some o → (H1.push { cls := .type "list", dict := none, data := .seq ([] : List Value).toArray }).get? b = some o := fun b o e => Heap.get?_push_of_some _ e
  have eD2 : (H1.push { cls := .type "list", dict := none, data := .seq ([] : List Value).toArray }).get? H1.objs.size = some (LCg.lst []) := Heap.get?_push_size _ rfl
  have z2 : (H1.push { cls := .type "list", dict := none, data := .seq ([] : List Value).toArray }).objs.size = H1.objs.size + 1 := Heap.size_push ..
  generalize (H1.push { cls := .type "list", dict := none, data := .seq ([] : List Value).toArray }) = H2 at *
  have l1 : H1.objs.size = s.heap.objs.size + 1 := z1
  have l2 : H2.objs.size = s.heap.objs.size + 2 := by rw [z2, l1]
  have nDI : H1.objs.size ≠ s.heap.objs.size := by rw [l1]; exact Nat.succ_ne_self _
  have nIC : s.heap.objs.size ≠ H2.objs.size := by rw [l2]; exact Nat.ne_of_lt (by omega)
  have nDC : H1.objs.size ≠ H2.objs.size := by rw [l1, l2]; exact Nat.ne_of_lt (by omega)
  have old : ∀ b o, s.heap.get? b = some o → b ≠ s.heap.objs.size ∧ b ≠ H1.objs.size ∧ b ≠ H2.objs.size := fun b o e => by
    have q : b < s.heap.objs.size := Heap.lt_size e
    exact ⟨Nat.ne_of_lt q, by rw [l1]; exact Nat.ne_of_lt (Nat.lt_succ_of_lt q), by rw [l2]; exact Nat.ne_of_lt (Nat.lt_succ_of_lt (Nat.lt_succ_of_lt q))⟩
  have k1 : ∀ b o, s.heap.get? b = some o → h₁.get? b = some o := fun b o e => hsb₁.extBut b o (old b o e).2.2 (Heap.get?_push_of_some _ (up2 _ _ (up1 _ _ e)))
  have eI : h₁.get? s.heap.objs.size = some { cls := .type "list_iterator", data := .fields #[.ref ax, .int 0 0] } := hsb₁.extBut _ _ nIC (Heap.get?_push_of_some _ (up2 _ _ eI1))
  have eD : h₁.get? H1.objs.size = some (LCg.lst []) := hsb₁.extBut _ _ nDC (Heap.get?_push_of_some _ eD2)
  have hl₁ : h₁.IsList ax items := hl.at fun o e => k1 _ _ e
  have nx : ax ≠ s.heap.objs.size ∧ ax ≠ H1.objs.size ∧ ax ≠ H2.objs.size := by obtain ⟨o, e, _⟩ := hl; exact old _ _ e
  have hLlt : env.locals < s.heap.objs.size := F.ns.lt
  have h0 : ∀ a, s.heap.objs.size ≤ a → h₀.get? a = none := fun a ha => Heap.get?_none_of_le (Nat.le_trans F.above (Nat.le_trans (Nat.le_of_lt hLlt) ha))
  have loop : ∀ s₄ : Shared, (∃ tk, s₄ = { s with heap := h₁, toks := tk }) → codeAny (model prog w) A (.compLoop (.ListComp (.Name y py) [⟨.Name x px, i0, [], 0⟩, ⟨.Name y qy, i1, [], 0⟩] scope pos) 0 (.ref s.heap.objs.size) (.ref H1.objs.size) (compEnvC scope cl H2.objs.size env))
      (compPost (model prog w) A E (some (assign (.Name z pz) env)) (fun _ s' => Q .next s') (.ref H1.objs.size) H2.objs.size) s₄ := by
    rintro s₄ ⟨tk, rfl⟩
    refine outer_loop (s := { s with heap := h₁, toks := tk }) (m := _) (cenv := compEnvC scope cl H2.objs.size env) PV G hh hkind (lookup_relabel_local hx) (lookup_relabel_local hy) hdb (hfold _) nx.1 nIC nx.2.2 nDC nDI (Ne.symm nx.2.1) ⟨_, eI, rfl, rfl⟩ hl₁ hns₁ eD g0 hG (hev _) ?_
    intro h₂ tk₂ m₂ ys hC₂ hg₂ hD₂ hk₂
    show wpAny _ A (assign (.Name z pz) env (.ref H1.objs.size)) _ _ _
    have kk : ∀ b o, s.heap.get? b = some o → h₂.get? b = some o := fun b o e => hk₂ b o (old b o e).2.1 (old b o e).2.2 (old b o e).1 (k1 _ _ e)
    have F₂ : Fr h₀ env.locals h₂ m := F.keeps kk
    refine wpAny_assign_Name (wpAny_storeName_local hz F₂.ns (fun h₃ hn₃ hs₃ => ?_) hp)
    have hL₀ : h₀.get? env.locals = none := Heap.get?_none_of_le F.above
    have nLC : env.locals ≠ H2.objs.size := by rw [l2]; exact Nat.ne_of_lt (Nat.lt_succ_of_lt (Nat.lt_succ_of_lt hLlt))
    have nLD : env.locals ≠ H1.objs.size := by rw [l1]; exact Nat.ne_of_lt (Nat.lt_succ_of_lt hLlt)
    have F₃ : Fr h₀ env.locals h₃ (fun y => if y = z then some (.ref H1.objs.size) else m y) := ⟨hn₃, fun b o e => hs₃.extBut b o (fun q => by rw [q, hL₀] at e; cases e) (F₂.keep b o e), F.above⟩
    refine ⟨m₂, hC₂.sameBut hs₃ (Ne.symm nLC), fun h'' hs'' => k H1.objs.size ys h'' _ (F₃.change hs'' (Ne.symm nLC) (h0 _ (by rw [l2]; omega))) (fun p hp => ?_) hg₂⟩
    rcases List.mem_cons.mp hp with rfl | hp
    · exact ⟨hs''.extBut _ _ nDC (hs₃.extBut _ _ (Ne.symm nLD) hD₂), Ne.symm nLD, h0 _ (by rw [l1]; omega)⟩
    · have z := N p hp
      exact ⟨hs''.extBut _ _ (old _ _ z.1).2.2 (hs₃.extBut _ _ z.2.1 (kk _ _ z.1)), z.2⟩
  exact codeAny_compStart_list (loop _ ⟨_, rfl⟩) (wpAny_pyIter_listiter ⟨_, eI, rfl, rfl⟩ (loop _ ⟨_, rfl⟩))
end
end
section
open PySem PySem.W PySem.W.X PyProof.Rows PySem.Calls
theorem fill7 (P : Params) (h : Heap) : PySem.Challenge.rw_ik0057_01 = PySem.Challenge.rw_ik0057_01 → (KM P).In h → (KM P).In h := by
  k_fill
  intro _ X
  exact X
theorem ent169 (P : Params) : (KM P).lookup 169 = some ⟨.type "function", none, .func (fnOf (Str.ofString "_law_laid") (Str.ofString "_law_laid") (dParams (stAt 26)) (dBody (stAt 26)) (dScope (stAt 26)) .none .none .none (.str (Str.ofString "law_ik0057_01") 398) none (.ref 168) .none), #[]⟩ := by kernel_rfl
noncomputable def four (n : Str) : List Str := [Str.ofString ".", Str.ofString "x", Str.ofString "..", n]
noncomputable def piecesP (xs : List Str) : List Str := xs.flatMap four
noncomputable def laidP (xs : List Str) : Str := normP (redP (Str.ofString "/") (piecesP xs))
structure LaidOk (xs : List Str) : Prop where
  len : xs.length ≤ 3
  red : ∀ i y, (piecesP xs)[i]? = some y → (redP (Str.ofString "/") ((piecesP xs).take i)).length + y.length ≤ 1000
  norm : NormOk (redP (Str.ofString "/") (piecesP xs))
theorem pieces_len (l : List Str) : (piecesP l).length = 4 * l.length := by
  induction l with
  | nil => rfl
  | cons z l ih => simp only [piecesP, List.flatMap_cons, List.length_append, List.length_cons] at ih ⊢; rw [ih]; simp [four]; omega
theorem pieces_le {xs : List Str} (h : xs.length ≤ 3) (i : Nat) : (piecesP (xs.take i)).length ≤ 12 := by
  rw [pieces_len, List.length_take]
  omega
theorem strs_app : ∀ {vs us : List Value} {xs ys : List Str}, StrsAre vs xs → StrsAre us ys → StrsAre (vs ++ us) (xs ++ ys) := by
  intro vs us xs ys x h
  induction x with
  | nil => exact h
  | cons y t r ih => exact .cons y t ih
theorem list4 {M : Model} {A : Around} {E : Value → Shared → Prop} {s : Shared} {env : Env} {n : Str} {p p1 p2 p3 p4 : Pos} {k1 k2 k3 : Nat} {m : Str → Option Value} {v : Value} {Q : Value → Shared → Prop} (hkf : env.scope.kind = .function) (hn : env.kindOf n = some .local) (hdb : (n == Str.ofString "__debug__") = false) (N : s.heap.Ns env.locals m) (hv : m n = some v)
   (k : ∀ X h' tk t1 t2 t3, (∀ b o, s.heap.get? b = some o → h'.get? b = some o) → s.heap.get? X = none → h'.IsList X [Value.str (Str.ofString ".") t1, .str (Str.ofString "x") t2, .str (Str.ofString "..") t3, v].toArray → Q (.ref X) { s with heap := h', toks := tk }) :
   wpAny M A (eval (.List [.Constant (.str (Str.ofString ".")) k1 p1, .Constant (.str (Str.ofString "x")) k2 p2, .Constant (.str (Str.ofString "..")) k3 p3, .Name n p4] p) env) Q E s := by
  refine List_ ?_
  refine spliced_cons (wpAny_Constant_str (k := k1) (pos := p1) ?_)
  refine spliced_cons (wpAny_Constant_str (k := k2) (pos := p2) ?_)
  refine spliced_cons (wpAny_Constant_str (k := k3) (pos := p3) ?_)
  refine spliced_cons (wpAny_Name (pos := p4) (wpAny_loadName_local hkf hn N hv ?_) hdb)
  refine spliced_nil ?_
  refine wpAny_newObj_type (k _ _ _ _ _ _ (fun b o e => Heap.get?_push_of_some _ e) (Heap.get?_none_of_le (Nat.le_refl _)) ⟨_, Heap.get?_push_size _ rfl, rfl, _, rfl⟩)
theorem c_laid {w : World} {mg mb : Str → Option Value} {h : Heap} (G : Gd w mg mb h) {a : Addr} {xs : List Str} (hx : IsStrs h a xs) (ok : LaidOk xs) :
   Con w 4 (.ref 169) [.ref a] h (fun r _ => ∃ t, r = .str (laidP xs) t) := by
  obtain ⟨vs, n, ha, hvs⟩ := hx
  refine enter G (ent169 _) (by kernel_rfl) (binds := [(Str.ofString "row", .ref a)]) ?_ (by kernel_rfl) ?_
  · rintro _ rfl
    with_unfolding_all rfl
  · intro A g d tk os R L h₁ hA hret F N
    conv => arg 3; arg 1; whnf
    obtain ⟨hd', dp', fr', gu', un'⟩ := A
    obtain rfl : hd' = none := hA.handled
    have T := G.T
    have X := G.K
    refine wpAny_execs_cons (assign_comp2 (cl := []) (ax := a) (items := vs.toArray) (fun v ys => ∃ y t, v = .str y t ∧ StrsAre ys (four y)) (fun i ys => StrsAre ys (piecesP (xs.take i))) rfl (by kernel_rfl) (by kernel_rfl) (by decide +kernel) (by rfl) (by decide +kernel) (by rfl) (by rfl) (by decide) (by rfl) (by rfl) F N ⟨_, F.keep _ _ ha, rfl, _, rfl⟩ (fun q => wpAny_Name (wpAny_loadName_local (by rfl) (by rfl) F.ns (by rfl) q) (by decide)) .nil ?_ (fun _ _ => rfl) ?_ ?_)
    · rintro i ys v us hys hv ⟨y, t, rfl, hus⟩
      obtain ⟨hxi⟩ : xs[i]? = some y ∧ True := by
        rcases strsAre_at hvs i with ⟨e, _⟩ | ⟨y', u, e, e'⟩
        · simp [e] at hv
        · simp [e] at hv
          obtain ⟨rfl, _⟩ := hv
          exact ⟨e', trivial⟩
      have e : piecesP (xs.take (i + 1)) = piecesP (xs.take i) ++ four y := by
        unfold piecesP
        rw [List.take_add_one, hxi, List.flatMap_append]
        simp
      refine ⟨by rw [e]; exact strs_app hys hus, ?_⟩
      have l1 := strs_len hys
      have l2 := strs_len hus
      have l3 := pieces_le ok.len i
      have l4 : (four y).length = 4 := rfl
      rw [sizeLine_eq]
      omega
    · intro C i v s' m' Q' E' hv hN hm' k
      obtain ⟨y, t, rfl⟩ : ∃ y t, v = .str y t := by
        rcases strsAre_at hvs i with ⟨e, _⟩ | ⟨y', u, e, e'⟩
        · simp [e] at hv
        · simp [e] at hv
          exact ⟨y', u, hv.symm⟩
      refine list4 (by rfl) (by rfl) (by decide) hN hm' (fun X h' tk t1 t2 t3 hk hX hl => k X h' tk _ hk hX hl ⟨y, t, rfl, .cons _ _ (.cons _ _ (.cons _ _ (.cons _ _ .nil)))⟩)
    · intro D ys h5 tk5 F5 N5 hys
      change Fr h L h5 _ at F5
      change News h L h5 _ at N5
      rw [List.size_toArray, strs_len hvs, List.take_length] at hys
      dsimp only
      k_steps
      refine Con.use (c_reduce (mg := mg) (mb := mb) (by exact G.keeps (Fr.keep (by k_asm))) (l := D) (n := ys.length) (vs := ys) (Str.ofString "/") _ (News.get (by k_asm) (by k_mem)) hys (fun i y e => by have := ok.red i y e; rw [sizeLine_eq]; omega)) hA (by decide) (by k_asm) (by k_asm) ?_
      rintro r h7 tk7 F7 N7 - ⟨t7, rfl⟩
      k_steps
      refine Con.use (c_normpath (mg := mg) (mb := mb) (by exact G.keeps (Fr.keep (by k_asm))) _ _ ok.norm) hA (by decide) (by k_asm) (by k_asm) ?_
      rintro r h8 tk8 F8 N8 - ⟨t8, rfl⟩
      k_steps
      exact hret _ _ _ (Fr.keep (by k_asm)) ⟨_, rfl⟩
end
section
open PySem PySem.W PySem.W.X PyProof.Rows
noncomputable def KF (C ns dm : Addr) (oC oN oD : Obj) : Frag := [(C, oC), (ns, oN), (dm, oD)]
theorem KF.look {C ns dm : Addr} {oC oN oD : Obj} (n1 : ns ≠ C) (n2 : dm ≠ C) (n3 : dm ≠ ns) : (KF C ns dm oC oN oD).lookup C = some oC ∧ (KF C ns dm oC oN oD).lookup ns = some oN ∧ (KF C ns dm oC oN oD).lookup dm = some oD := by
  unfold KF
  have b1 : (ns == C) = false := beq_false_of_ne n1
  have b2 : (dm == C) = false := beq_false_of_ne n2
  have b3 : (dm == ns) = false := beq_false_of_ne n3
  refine ⟨by simp [List.lookup_cons], ?_, ?_⟩
  · simp [List.lookup_cons, b1]
  · simp [List.lookup_cons, b2, b3]
theorem KF.in {h : Heap} {C ns dm : Addr} {oC oN oD : Obj} (e1 : h.get? C = some oC) (e2 : h.get? ns = some oN) (e3 : h.get? dm = some oD) : (KF C ns dm oC oN oD).In h := by
  intro a o e
  have m := List.lookup_eq_some_iff.mp e
  refine hide fun G1 hG1 => ?_
  obtain ⟨l1, l2, q, _⟩ := m
  refine hG1 ?_
  clear hG1
  have mm : (a, o) ∈ KF C ns dm oC oN oD := by rw [q]; simp
  simp only [KF, List.mem_cons, Prod.mk.injEq, List.not_mem_nil, or_false] at mm
  rcases mm with ⟨rfl, rfl⟩ | ⟨rfl, rfl⟩ | ⟨rfl, rfl⟩
  · exact e1
  · exact e2
  · exact e3
section
variable {C ns dm bt : Addr} {oD : Obj} {q : Str} {t0 tq : Tok} {more : Array (Option Value)} {hs : Nat → Int} {ts : Nat → Tok} {sl f1 f2 f3 f4 f5 f6 st : Addr} {hv hv' : Int} {tb tc : Tok} {n : Nat}
theorem fi_L {K : Frag} (a : K.lookup C = some (cK C ns bt q t0 tq false [Str.ofString "obj"] more)) (b : K.lookup ns = some (dictO (esF hs ts sl f1 f2 f3 f4 f5 f6 st dm hv hv' tb tc) n)) (name : Str) : findIn K (.ref C) name =
    (match (match (esF hs ts sl f1 f2 f3 f4 f5 f6 st dm hv hv' tb tc).toList.find? (·.key.isStr name) with
      | some e => some (some e.val)
      | none => if (esF hs ts sl f1 f2 f3 f4 f5 f6 st dm hv hv' tb tc).toList.any (·.refKey) then none else some none) with
    | some (some v) => some (some v)
    | some none => alongIn K name [.type "object"]
    | none => none) := by
  unfold findIn
  dsimp only
  rw [a]
  show alongIn _ name [.ref C, tO] = _
  rw [alongIn]
  unfold ownIn
  dsimp only
  rw [a]
  show (match nsIn _ ns name with | some (some v) => some (some v) | some none => _ | none => none) = _
  unfold nsIn
  rw [b]
  rfl
theorem fi_K (n1 : ns ≠ C) (n2 : dm ≠ C) (n3 : dm ≠ ns) (name : Str) : findIn (KF C ns dm (cK C ns bt q t0 tq false [Str.ofString "obj"] more) (dictO (esF hs ts sl f1 f2 f3 f4 f5 f6 st dm hv hv' tb tc) n) oD) (.ref C) name =
    (match (match (esF hs ts sl f1 f2 f3 f4 f5 f6 st dm hv hv' tb tc).toList.find? (·.key.isStr name) with
      | some e => some (some e.val)
      | none => if (esF hs ts sl f1 f2 f3 f4 f5 f6 st dm hv hv' tb tc).toList.any (·.refKey) then none else some none) with
    | some (some v) => some (some v)
    | some none => alongIn (KF C ns dm (cK C ns bt q t0 tq false [Str.ofString "obj"] more) (dictO (esF hs ts sl f1 f2 f3 f4 f5 f6 st dm hv hv' tb tc) n) oD) name [.type "object"]
    | none => none) :=
  let ⟨a, b, _⟩ := KF.look (oC := cK C ns bt q t0 tq false [Str.ofString "obj"] more) (oN := dictO (esF hs ts sl f1 f2 f3 f4 f5 f6 st dm hv hv' tb tc) n) (oD := oD) n1 n2 n3
  fi_L a b name
theorem fi_ga (n1 : ns ≠ C) (n2 : dm ≠ C) (n3 : dm ≠ ns) : findIn (KF C ns dm (cK C ns bt q t0 tq false [Str.ofString "obj"] more) (dictO (esF hs ts sl f1 f2 f3 f4 f5 f6 st dm hv hv' tb tc) n) oD) (.ref C) "__getattribute__" = some (some (.builtin "object.__getattribute__")) := by
  rw [fi_K n1 n2 n3]
  kernel_rfl
theorem fi_g (n1 : ns ≠ C) (n2 : dm ≠ C) (n3 : dm ≠ ns) : findIn (KF C ns dm (cK C ns bt q t0 tq false [Str.ofString "obj"] more) (dictO (esF hs ts sl f1 f2 f3 f4 f5 f6 st dm hv hv' tb tc) n) oD) (.ref C) "__getattr__" = some none := by
  rw [fi_K n1 n2 n3]
  kernel_rfl
theorem fi_lt {f : Obj} (n1 : ns ≠ C) (n2 : f2 ≠ C) (n3 : f2 ≠ ns) : findIn (KF C ns f2 (cK C ns bt q t0 tq false [Str.ofString "obj"] more) (dictO (esF hs ts sl f1 f2 f3 f4 f5 f6 st dm hv hv' tb tc) n) f) (.ref C) "__lt__" = some (some (.ref f2)) := by
  refine hide fun G2 hG2 => ?_
  obtain ⟨a, b, c⟩ := KF.look (oC := cK C ns bt q t0 tq false [Str.ofString "obj"] more) (oN := dictO (esF hs ts sl f1 f2 f3 f4 f5 f6 st dm hv hv' tb tc) n) (oD := f) n1 n2 n3
  refine hG2 ?_
  clear hG2
  rw [fi_L a b]
  kernel_rfl
theorem fi_obj (n1 : ns ≠ C) (n2 : dm ≠ C) (n3 : dm ≠ ns) : findIn (KF C ns dm (cK C ns bt q t0 tq false [Str.ofString "obj"] more) (dictO (esF hs ts sl f1 f2 f3 f4 f5 f6 st dm hv hv' tb tc) n) oD) (.ref C) (Str.ofString "obj") = some (some (.ref dm)) := by
  rw [fi_K n1 n2 n3]
  kernel_rfl
noncomputable def oDm (ta : Tok) (C : Addr) : Obj := { cls := .type "member_descriptor", data := .fields #[.str (Str.ofString "obj") ta, .ref C, .builtin "proto.slot", .builtin "proto.slot#set", rawInt 0] }
theorem sp_dm {ta : Tok} (n1 : ns ≠ C) (n2 : dm ≠ C) (n3 : dm ≠ ns) : specialIn (KF C ns dm (cK C ns bt q t0 tq false [Str.ofString "obj"] more) (dictO (esF hs ts sl f1 f2 f3 f4 f5 f6 st dm hv hv' tb tc) n) (oDm ta C)) (.ref dm) "__get__" = some (some (.builtin "member_descriptor.__get__")) := by
  refine hide fun G3 hG3 => ?_
  obtain ⟨a, b, c⟩ := KF.look (oC := cK C ns bt q t0 tq false [Str.ofString "obj"] more) (oN := dictO (esF hs ts sl f1 f2 f3 f4 f5 f6 st dm hv hv' tb tc) n) (oD := oDm ta C) n1 n2 n3
  refine hG3 ?_
  clear hG3
  unfold specialIn typeIn
  dsimp only
  rw [c]
  kernel_rfl
theorem tk_dm {ta : Tok} (n1 : ns ≠ C) (n2 : dm ≠ C) (n3 : dm ≠ ns) : takesIn (KF C ns dm (cK C ns bt q t0 tq false [Str.ofString "obj"] more) (dictO (esF hs ts sl f1 f2 f3 f4 f5 f6 st dm hv hv' tb tc) n) (oDm ta C)) (.ref dm) = some true := by
  refine hide fun G4 hG4 => ?_
  obtain ⟨a, b, c⟩ := KF.look (oC := cK C ns bt q t0 tq false [Str.ofString "obj"] more) (oN := dictO (esF hs ts sl f1 f2 f3 f4 f5 f6 st dm hv hv' tb tc) n) (oD := oDm ta C) n1 n2 n3
  refine hG4 ?_
  clear hG4
  unfold takesIn specialIn typeIn
  dsimp only
  rw [c]
  kernel_rfl
theorem sl_dm {ta : Tok} (n1 : ns ≠ C) (n2 : dm ≠ C) (n3 : dm ≠ ns) : slotIn (KF C ns dm (cK C ns bt q t0 tq false [Str.ofString "obj"] #[some (.builtin "object.__new__"), some (.bool false)]) (dictO (esF hs ts sl f1 f2 f3 f4 f5 f6 st dm hv hv' tb tc) n) (oDm ta C)) dm C = some 0 := by
  have a := (KF.look (oC := cK C ns bt q t0 tq false [Str.ofString "obj"] #[some (.builtin "object.__new__"), some (.bool false)]) (oN := dictO (esF hs ts sl f1 f2 f3 f4 f5 f6 st dm hv hv' tb tc) n) (oD := oDm ta C) n1 n2 n3)
  generalize KF C ns dm (cK C ns bt q t0 tq false [Str.ofString "obj"] #[some (.builtin "object.__new__"), some (.bool false)]) (dictO (esF hs ts sl f1 f2 f3 f4 f5 f6 st dm hv hv' tb tc) n) (oDm ta C) = K at a ⊢
  unfold slotIn
  unfold recIn clsIn
  rw [a.1, a.2.2]
  simp [oDm, cK, tO, rawInt]
theorem fo_obj {ta : Tok} {od : Option Obj} (n1 : ns ≠ C) (n2 : dm ≠ C) (n3 : dm ≠ ns) : findObj (KF C ns dm (cK C ns bt q t0 tq false [Str.ofString "obj"] more) (dictO (esF hs ts sl f1 f2 f3 f4 f5 f6 st dm hv hv' tb tc) n) (oDm ta C)) C od (Str.ofString "obj") = some (.bind (.builtin "member_descriptor.__get__") (.ref dm)) := by
  refine hide fun G5 hG5 => ?_
  obtain ⟨a, b, c⟩ := KF.look (oC := cK C ns bt q t0 tq false [Str.ofString "obj"] more) (oN := dictO (esF hs ts sl f1 f2 f3 f4 f5 f6 st dm hv hv' tb tc) n) (oD := oDm ta C) n1 n2 n3
  refine hG5 ?_
  clear hG5
  unfold findObj clsIn
  rw [a, fi_obj n1 n2 n3]
  show (specialIn _ (.ref dm) "__get__").bind _ = _
  rw [sp_dm n1 n2 n3]
  show (takesIn _ (.ref dm)).bind _ = _
  rw [tk_dm n1 n2 n3]
  rfl
end
/-- an object of K over a text -/
noncomputable def InstK (h : Heap) (C a : Addr) (p : Str) : Prop := ∃ dd t, h.get? a = some { cls := .ref C, dict := some dd, slots := #[some (.str p t)] } ∧ h.get? dd = some { cls := .type "dict", data := .dict #[] }
theorem InstK.keeps {h h' : Heap} {C a : Addr} {p : Str} (x : InstK h C a p) (k : h.StaysIn h') : InstK h' C a p := let ⟨d, t, e, f⟩ := x; ⟨d, t, k _ _ e, k _ _ f⟩
theorem KCls.keeps {h h' : Heap} {L C : Addr} (x : KCls h L C) (k : h.StaysIn h') : KCls h' L C := by
  obtain ⟨v, e1, e2, e3, e4, e5, e6, e7⟩ := x
  exact ⟨v, k _ _ e1, k _ _ e2, k _ _ e3, k _ _ e4, k _ _ e5, e6.keeps k, e7.keeps k⟩
theorem cK_eq (C ns bt : Addr) (t0 tq : Tok) : cK C ns bt qK t0 tq false [Str.ofString "obj"] #[some (.builtin "object.__new__"), some (.bool false)] = { cls := .type "type", data := .cls { name := Str.ofString "K", bases := [.type "object"], mro := [.ref C, .type "object"], ns := ns, qualname := Str.ofString "cmp_to_key.<locals>.K", hasDict := false, slotNames := [Str.ofString "obj"] }, slots := #[some (.ref bt), none, some (.str (Str.ofString "K") t0), some (.str (Str.ofString "cmp_to_key.<locals>.K") tq), some (.builtin "object.__new__"), some (.bool false)] } := by kernel_rfl
theorem ne_of_cls {h : Heap} {a b : Addr} {o p : Obj} (e : h.get? a = some o) (f : h.get? b = some p) (hn : o.cls ≠ p.cls) : a ≠ b := fun q => by rw [q, f] at e; cases e; exact hn rfl
/-- reading the slot -/
theorem wp_slot {w : World} {k : Nat} {A : Around} {h : Heap} {g : Array GenState} {d : Drawn} {tk : Nat} {os : OsState} {Q E : Value → Shared → Prop} {L C a : Addr} {p : Str} {ex : Bool} (hA : Fits (k + 1) A) (X : (KM w.params).In h) (hK : KCls h L C) (ha : InstK h C a p)
   (hret : ∀ h' tk' t, h.StaysIn h' → Q (.str p t) ⟨h', g, d, tk', os⟩) : wpAny (model RP w) A (getAttr (.ref a) (Str.ofString "obj") ex) Q E ⟨h, g, d, tk, os⟩ := by
  refine KCls.elim hK fun bt f1 f2 f3 f4 f5 f6 sl st ns dm c1 c2 t0 ta tb tc hs ts hv hv' x1 x2 y1 y2 e1 e2 e3 e4 e5 e6 e7 => ?_
  refine hide fun G8 hG8 => ?_
  obtain ⟨dd, t, ea, ed⟩ := ha
  refine hG8 ?_
  clear hG8
  have n1 : ns ≠ C := ne_of_cls e2 e1 (fun q => absurd (Value.type.inj q) (by decide))
  have n2 : dm ≠ C := ne_of_cls e3 e1 (fun q => absurd (Value.type.inj q) (by decide))
  have n3 : dm ≠ ns := ne_of_cls e3 e2 (fun q => absurd (Value.type.inj q) (by decide))
  have KX : (KF C ns dm _ _ (oDm ta C)).In h := KF.in e1 e2 e3
  refine get_bind (s := ⟨h, g, d, tk, os⟩) KX (C := C) (x := a) (od := some { cls := .type "dict", data := .dict #[] }) ⟨ea, rfl, rfl, ed⟩ (fi_ga n1 n2 n3) (fo_obj n1 n2 n3) (fi_g n1 n2 n3) ?_
  refine wpAny_call (slot_get (C := C) (x := a) (od := some { cls := .type "dict", data := .dict #[] }) KX ⟨ea, rfl, rfl, ed⟩ (sl_dm n1 n2 n3) rfl ?_)
  exact wpAny_pure (hret h _ t fun _ _ e => e)
end
section
open PySem PySem.W PySem.W.X PyProof.Rows PySem.Calls
theorem fill9 (P : Params) (h : Heap) : PySem.Challenge.rw_ik0057_01 = PySem.Challenge.rw_ik0057_01 → (KM P).In h → (KM P).In h := by
  k_fill
  intro _ X
  exact X
noncomputable def envM (L : Addr) (i : Nat) (Lf f c : Addr) : Env :=
  { scope := dScope (mSt i), locals := Lf, globals := mainGlobals, cells := mClos L i, qual := qM i ++ ".<locals>.", func := some f, code := .ref c, frame := some Lf, builtins := builtinsNs }
/-- entering a method of K -/
theorem enterM {w : World} {k : Nat} {h : Heap} {L f c : Addr} {x y : Value} {i : Nat} {vs : List Value} {Post : Value → Heap → Prop} {binds : List (Str × Value)}
    (hlim : h.NoLimit) (ho : h.get? f = some (mObj L i x y c)) (hc : h.CodeRec (.ref c) (qM i))
    (hbind : bindArgs (fnX (mName i) (qM i) (dParams (mSt i)) (dBody (mSt i)) (dScope (mSt i)) (mClos L i) .none .none x (.str (Str.ofString "law_ik0057_01") 398) none (.ref c) y) ⟨vs, []⟩ = pure binds)
    (hloc : (binds.all fun x => decide ((dScope (mSt i)).names.lookup x.1 = some .local)) = true)
    (hx : ∀ (A : Around) (g : Array GenState) (d : Drawn) (tk : Nat) (os : OsState) (R : Value → Shared → Prop) (Lf : Addr) (h₁ : Heap), Fits k A → (∀ r h' tk', h.StaysIn h' → Post r h' → R r ⟨h', g, d, tk', os⟩) →
      Fr h Lf h₁ (fun x => binds.reverse.lookup x) → News h Lf h₁ [] →
      wpAny (model RP w) A (execs (dBody (mSt i)) (envM L i Lf f c)) (fun fl s' => R (match fl with | .ret v => v | _ => .none) s') (fun _ _ => False) ⟨h₁, g, d, tk, os⟩)
    (hco : (dScope (mSt i)).isCoroutine = false := by rfl) (hgen : (dScope (mSt i)).isGenerator = false := by rfl) (hk : (dScope (mSt i)).kind = .function := by rfl) (hcell : ∀ x ∈ (dScope (mSt i)).names, x.2 ≠ .cell := by decide) :
    Con w (k + 1) (.ref f) vs h Post := by
  intro A g d tk os Q E hA hret
  refine wpAny_call ?_
  refine codeAny_call_function (fd := fnX (mName i) (qM i) (dParams (mSt i)) (dBody (mSt i)) (dScope (mSt i)) (mClos L i) .none .none x (.str (Str.ofString "law_ik0057_01") 398) none (.ref c) y) hA.room ho rfl hco hgen rfl hc ?_
  rw [hbind]
  refine wpAny_pure ?_
  refine wpAny_newFunctionEnv hcell (locs hloc) (fun h₁ hns hsb => ⟨hlim.fresh _ hsb, ?_⟩) hk
  show codeAny _ _ (.func _ (envM L i h.objs.size f c)) _ _
  have F : Fr h h.objs.size h₁ (fun x => binds.reverse.lookup x) := ⟨hns, fun b o e => hsb.extBut b o (Nat.ne_of_lt (Heap.lt_size e)) (Heap.get?_push_of_some _ e), Nat.le_refl _⟩
  exact codeAny_func (wpAny_mono (hx (A.deeper _) g d _ os Q _ h₁ (hA.deeper _) hret F News.nil) (fun _ _ x => x) fun _ _ x => x.elim)
theorem slot_use {w : World} {k : Nat} {A : Around} {mg mb : Str → Option Value} {h : Heap} {s : Shared} {Lf : Addr} {m : Str → Option Value} {news : List (Addr × Obj)} {Q : Value → Shared → Prop} {E : Value → Shared → Prop} {L C a : Addr} {p : Str} {ex : Bool} (G : Gd w mg mb h) (hA : Fits (k + 1) A) (hK : KCls h L C) (ha : InstK h C a p) (F : Fr h Lf s.heap m) (N : News h Lf s.heap news)
   (hq : ∀ h' tk' t, Fr h Lf h' m → News h Lf h' news → Q (.str p t) { s with heap := h', toks := tk' }) : wpAny (model RP w) A (getAttr (.ref a) (Str.ofString "obj") ex) Q E s := by
  obtain ⟨hp, g, d, tk, os⟩ := s
  exact wp_slot hA (G.K.keeps F.keep) (hK.keeps F.keep) (ha.keeps F.keep) fun h' tk' t hk => hq h' tk' t (grow_fr F hk) (N.grown hk)
theorem nameE {M : Model} {A : Around} {E : Value → Shared → Prop} {s : Shared} {h₀ : Heap} {Lf : Addr} {env : Env} {m : Str → Option Value} {x : Str} {px : Pos} {v : Value} {Q : Value → Shared → Prop} (F : Fr h₀ Lf s.heap m) (hk : env.scope.kind = .function) (hL : env.locals = Lf) (hl : env.kindOf x = some .local) (hv : m x = some v) (hd : (x == Str.ofString "__debug__") = false) (q : Q v s) :
   wpAny M A (eval (.Name x px) env) Q E s := by
  subst hL
  exact wpAny_Name (wpAny_loadName_local hk hl F.ns hv q) hd
theorem nameF {M : Model} {A : Around} {E : Value → Shared → Prop} {s : Shared} {env : Env} {x : Str} {px : Pos} {c : Addr} {v : Value} {Q : Value → Shared → Prop} (hk : env.scope.kind = .function) (hl : env.kindOf x = some .free) (hc : env.cells.lookup x = some c) (hv : s.heap.IsCell c (some v)) (hd : (x == Str.ofString "__debug__") = false) (hd2 : (x == Str.ofString "__classdict__") = false) (q : Q v s) :
   wpAny M A (eval (.Name x px) env) Q E s := wpAny_Name (wpAny_loadName_free hk hl hc hv q hd2) hd
set_option maxHeartbeats 2000000 in
theorem c_ltK {w : World} {mg mb : Str → Option Value} {h : Heap} (G : Gd w mg mb h) {L C f c a b : Addr} {x y : Value} {p q : Str} (hK : KCls h L C) (hf : h.get? f = some (mObj L 1 x y c)) (hc : h.CodeRec (.ref c) (qM 1))
   (hcell : ∃ oc, h.get? (L + 1) = some oc ∧ oc.data = .cell (some (.ref 176))) (ha : InstK h C a p) (hb : InstK h C b q) (hp : p.length + 2 ≤ sizeLine) (hq : q.length + 2 ≤ sizeLine) :
   Con w 4 (.ref f) [.ref a, .ref b] h (fun r _ => r = .bool (decide (cmpP p q < 0))) := by
  refine enterM G.T.nolimit hf hc (binds := [(Str.ofString "self", .ref a), (Str.ofString "other", .ref b)]) (by with_unfolding_all rfl) (by kernel_rfl) ?_
  intro A g d tk os R Lf h₁ hA hret F N
  conv => arg 3; arg 1; whnf
  obtain ⟨hd', dp', fr', gu', un'⟩ := A
  obtain rfl : hd' = none := hA.handled
  have T := G.T
  have X := G.K
  have k1 : (envM L 1 Lf f c).scope.kind = .function := rfl
  have k2 : (envM L 1 Lf f c).kindOf (Str.ofString "mycmp") = some .free := rfl
  have k3 : (envM L 1 Lf f c).cells.lookup (Str.ofString "mycmp") = some (L + 1) := rfl
  have k4 : (envM L 1 Lf f c).kindOf (Str.ofString "self") = some .local := rfl
  have k5 : (envM L 1 Lf f c).kindOf (Str.ofString "other") = some .local := rfl
  have k6 : (envM L 1 Lf f c).locals = Lf := rfl
  generalize envM L 1 Lf f c = env at k1 k2 k3 k4 k5 k6 ⊢
  refine wpAny_execs_cons (wpAny_Return_some (wpAny_Compare1 (Call_ (nameF k1 k2 k3 (Heap.IsCell.keeps hcell F.keep) (by decide) (by decide) ?_))))
  refine callWith_def_at (G.K.keeps F.keep _ _ (ent176 _)) rfl ?_
  refine spliced_cons (Attribute_Name_ (nameE F k1 k6 k4 (by rfl) (by decide) (slot_use G hA hK ha F N fun h2 tk2 t2 F2 N2 => ?_)))
  refine spliced_cons (Attribute_Name_ (nameE F2 k1 k6 k5 (by rfl) (by decide) (slot_use G hA hK hb F2 N2 fun h3 tk3 t3 F3 N3 => ?_)))
  refine spliced_nil ⟨G.K.keeps F3.keep _ _ (ent176 _), ?_⟩
  refine Con.use (c_compared (mg := mg) (mb := mb) (G.keeps F3.keep) p q _ _ hp hq) hA (by decide) F3 N3 ?_
  rintro r h7 tk7 F7 N7 - ⟨t7, rfl⟩
  k_steps
  exact hret _ _ _ F7.keep rfl
end
section
open PySem PySem.W PySem.W.X PyProof.Rows PySem.Calls
section
variable {C ns dm bt : Addr} {oD : Obj} {q : Str} {t0 tq : Tok} {hs : Nat → Int} {ts : Nat → Tok} {sl f1 f2 f3 f4 f5 f6 st : Addr} {hv hv' : Int} {tb tc : Tok} {n : Nat} {L c : Addr} {x y : Value} {i : Nat}
theorem mk_is {f : Addr} (n1 : ns ≠ C) (n2 : f ≠ C) (n3 : f ≠ ns) : makesIn (KF C ns f (cK C ns bt q t0 tq false [Str.ofString "obj"] #[some (.builtin "object.__new__"), some (.bool false)]) (dictO (esF hs ts sl f1 f2 f3 f4 f5 f6 st dm hv hv' tb tc) n) oD) C = true := by
  have a := (KF.look (oC := cK C ns bt q t0 tq false [Str.ofString "obj"] #[some (.builtin "object.__new__"), some (.bool false)]) (oN := dictO (esF hs ts sl f1 f2 f3 f4 f5 f6 st dm hv hv' tb tc) n) (oD := oD) n1 n2 n3).1
  generalize KF C ns f (cK C ns bt q t0 tq false [Str.ofString "obj"] #[some (.builtin "object.__new__"), some (.bool false)]) (dictO (esF hs ts sl f1 f2 f3 f4 f5 f6 st dm hv hv' tb tc) n) oD = K at a ⊢
  have s1 : specialIn K (.ref C) "__call__" = some (some (.builtin "type.__call__")) := by
    unfold specialIn typeIn
    dsimp only
    rw [a]
    kernel_rfl
  have s2 : instIn K (.ref C) (.type "type") = some true := by
    unfold instIn typeIn
    dsimp only
    rw [a]
    kernel_rfl
  unfold makesIn
  rw [a]
  show (_ && _ && _ && _ && _ && _ && _ && _) = true
  rw [s1, s2]
  simp [cK, tO]
theorem fi_init {f : Obj} (n1 : ns ≠ C) (n2 : f1 ≠ C) (n3 : f1 ≠ ns) : findIn (KF C ns f1 (cK C ns bt q t0 tq false [Str.ofString "obj"] #[some (.builtin "object.__new__"), some (.bool false)]) (dictO (esF hs ts sl f1 f2 f3 f4 f5 f6 st dm hv hv' tb tc) n) f) (.ref C) "__init__" = some (some (.ref f1)) := by
  have a := KF.look (oC := cK C ns bt q t0 tq false [Str.ofString "obj"] #[some (.builtin "object.__new__"), some (.bool false)]) (oN := dictO (esF hs ts sl f1 f2 f3 f4 f5 f6 st dm hv hv' tb tc) n) (oD := f) n1 n2 n3
  rw [fi_L a.1 a.2.1]
  kernel_rfl
theorem ty_f {f : Addr} (n1 : ns ≠ C) (n2 : f ≠ C) (n3 : f ≠ ns) : typeIn (KF C ns f (cK C ns bt q t0 tq false [Str.ofString "obj"] #[some (.builtin "object.__new__"), some (.bool false)]) (dictO (esF hs ts sl f1 f2 f3 f4 f5 f6 st dm hv hv' tb tc) n) (mObj L i x y c)) (.ref f) = some (.type "function") := by
  have a := (KF.look (oC := cK C ns bt q t0 tq false [Str.ofString "obj"] #[some (.builtin "object.__new__"), some (.bool false)]) (oN := dictO (esF hs ts sl f1 f2 f3 f4 f5 f6 st dm hv hv' tb tc) n) (oD := mObj L i x y c) n1 n2 n3).2.2
  unfold typeIn
  dsimp only
  rw [a]
  rfl
theorem fi_sa (n1 : ns ≠ C) (n2 : dm ≠ C) (n3 : dm ≠ ns) : findIn (KF C ns dm (cK C ns bt q t0 tq false [Str.ofString "obj"] #[some (.builtin "object.__new__"), some (.bool false)]) (dictO (esF hs ts sl f1 f2 f3 f4 f5 f6 st dm hv hv' tb tc) n) oD) (.ref C) "__setattr__" = some (some (.builtin "object.__setattr__")) := by
  rw [fi_K n1 n2 n3]
  kernel_rfl
theorem po_K (n1 : ns ≠ C) (n2 : dm ≠ C) (n3 : dm ≠ ns) : plainOver (KF C ns dm (cK C ns bt q t0 tq false [Str.ofString "obj"] #[some (.builtin "object.__new__"), some (.bool false)]) (dictO (esF hs ts sl f1 f2 f3 f4 f5 f6 st dm hv hv' tb tc) n) oD) C = true := by
  have a := (KF.look (oC := cK C ns bt q t0 tq false [Str.ofString "obj"] #[some (.builtin "object.__new__"), some (.bool false)]) (oN := dictO (esF hs ts sl f1 f2 f3 f4 f5 f6 st dm hv hv' tb tc) n) (oD := oD) n1 n2 n3).1
  unfold plainOver clsIn
  rw [a]
  rfl
theorem ta_K {ta : Tok} (n1 : ns ≠ C) (n2 : dm ≠ C) (n3 : dm ≠ ns) : takerIn (KF C ns dm (cK C ns bt q t0 tq false [Str.ofString "obj"] #[some (.builtin "object.__new__"), some (.bool false)]) (dictO (esF hs ts sl f1 f2 f3 f4 f5 f6 st dm hv hv' tb tc) n) (oDm ta C)) C (Str.ofString "obj") = some (some (.ref dm)) := by
  have c := (KF.look (oC := cK C ns bt q t0 tq false [Str.ofString "obj"] #[some (.builtin "object.__new__"), some (.bool false)]) (oN := dictO (esF hs ts sl f1 f2 f3 f4 f5 f6 st dm hv hv' tb tc) n) (oD := oDm ta C) n1 n2 n3).2.2
  unfold takerIn
  rw [fi_obj n1 n2 n3]
  show (takesIn _ (.ref dm)).map _ = _
  have e : takesIn (KF C ns dm (cK C ns bt q t0 tq false [Str.ofString "obj"] #[some (.builtin "object.__new__"), some (.bool false)]) (dictO (esF hs ts sl f1 f2 f3 f4 f5 f6 st dm hv hv' tb tc) n) (oDm ta C)) (.ref dm) = some true := by
    unfold takesIn specialIn typeIn
    dsimp only
    rw [c]
    kernel_rfl
  rw [e]
  rfl
theorem ty_dm {ta : Tok} (n1 : ns ≠ C) (n2 : dm ≠ C) (n3 : dm ≠ ns) : typeIn (KF C ns dm (cK C ns bt q t0 tq false [Str.ofString "obj"] #[some (.builtin "object.__new__"), some (.bool false)]) (dictO (esF hs ts sl f1 f2 f3 f4 f5 f6 st dm hv hv' tb tc) n) (oDm ta C)) (.ref dm) = some (.type "member_descriptor") := by
  have c := (KF.look (oC := cK C ns bt q t0 tq false [Str.ofString "obj"] #[some (.builtin "object.__new__"), some (.bool false)]) (oN := dictO (esF hs ts sl f1 f2 f3 f4 f5 f6 st dm hv hv' tb tc) n) (oD := oDm ta C) n1 n2 n3).2.2
  unfold typeIn
  dsimp only
  rw [c]
  rfl
end
/-- making an object of K -/
theorem c_mkK {w : World} {mg mb : Str → Option Value} {h : Heap} (G : Gd w mg mb h) {L C : Addr} (hK : KCls h L C) (p : Str) (t : Tok) : ConO w 3 (.ref C) [.str p t] h (fun a h' => InstK h' C a p) := by
  intro A g d tk os Q E hA hret
  refine KCls.elim hK fun bt f1 f2 f3 f4 f5 f6 sl st ns dm c1 c2 t0 ta tb tc hs ts hv hv' x1 x2 y1 y2 e1 e2 e3 e4 e5 e6 e7 => ?_
  clear e5 e7
  have n1 : ns ≠ C := ne_of_cls e2 e1 (fun q => absurd (Value.type.inj q) (by decide))
  have n2 : dm ≠ C := ne_of_cls e3 e1 (fun q => absurd (Value.type.inj q) (by decide))
  have n3 : dm ≠ ns := ne_of_cls e3 e2 (fun q => absurd (Value.type.inj q) (by decide))
  have n4 : f1 ≠ C := ne_of_cls e4 e1 (fun q => absurd (Value.type.inj q) (by decide))
  have n5 : f1 ≠ ns := ne_of_cls e4 e2 (fun q => absurd (Value.type.inj q) (by decide))
  have KX : (KF C ns f1 _ _ (mObj L 0 x1 y1 c1)).In h := KF.in e1 e2 e4
  refine wpAny_call ?_
  refine make_core (makes_of KX (mk_is n1 n4 n5)) (looks_findIn KX (fi_init n1 n4 n5)) (fun self => bind_fn KX self (ty_f n1 n4 n5)) (.inl rfl) ?_
  have kx : h.StaysIn ((h.push emptyDict).push (instObj C h.objs.size)) := fun b o e => Heap.get?_push_of_some _ (Heap.get?_push_of_some _ e)
  have hx : ((h.push emptyDict).push (instObj C h.objs.size)).get? (h.objs.size + 1) = some (instObj C h.objs.size) := by heap_get
  have hd : ((h.push emptyDict).push (instObj C h.objs.size)).get? h.objs.size = some emptyDict := by heap_get
  have hle : h.objs.size ≤ ((h.push emptyDict).push (instObj C h.objs.size)).objs.size := by rw [Heap.size_push, Heap.size_push]; omega
  have x0 : h.get? (h.objs.size + 1) = none := Heap.get?_none_of_le (Nat.le_succ _)
  have d0 : h.get? h.objs.size = none := Heap.get?_none_of_le (Nat.le_refl _)
  have dx : (@Ne Nat h.objs.size (h.objs.size + 1)) := Nat.ne_of_lt (Nat.lt_succ_self _)
  have G2 := G.keeps kx
  have l1 := Heap.lt_size hx
  have l2 := Heap.lt_size hd
  generalize (h.push emptyDict).push (instObj C h.objs.size) = h2 at *
  have room : (A.under (.builtin "type.__call__" ⟨.ref C :: [.str p t], []⟩)).depth < recursionLimit := by
    rw [depth_under_make]
    have := hA.depth
    show _ < 1000
    omega
  refine codeAny_call_function (fd := fnX (mName 0) (qM 0) (dParams (mSt 0)) (dBody (mSt 0)) (dScope (mSt 0)) (mClos L 0) .none .none x1 (.str (Str.ofString "law_ik0057_01") 398) none (.ref c1) y1) room (kx _ _ e4) rfl (by rfl) (by rfl) rfl (e6.keeps kx) ?_
  rw [show bindArgs (fnX (mName 0) (qM 0) (dParams (mSt 0)) (dBody (mSt 0)) (dScope (mSt 0)) (mClos L 0) .none .none x1 (.str (Str.ofString "law_ik0057_01") 398) none (.ref c1) y1) ⟨[.ref (h.objs.size + 1), .str p t], []⟩ = pure [(Str.ofString "self", .ref (h.objs.size + 1)), (Str.ofString "obj", .str p t)] from by with_unfolding_all rfl]
  refine wpAny_pure ?_
  refine wpAny_newFunctionEnv (show ∀ x ∈ (dScope (mSt 0)).names, x.2 ≠ .cell by decide) (locs (by kernel_rfl)) (fun h₁ hns hsb => ⟨G2.T.nolimit.fresh _ hsb, ?_⟩) rfl
  show codeAny _ _ (.func _ (envM L 0 h2.objs.size f1 c1)) _ _
  have k1 : h2.StaysIn h₁ := fun b o e => hsb.extBut b o (Nat.ne_of_lt (Heap.lt_size e)) (Heap.get?_push_of_some _ e)
  have F : Fr h h2.objs.size h₁ (fun z => [(Str.ofString "self", Value.ref (h.objs.size + 1)), (Str.ofString "obj", .str p t)].reverse.lookup z) := ⟨hns, fun b o e => k1 _ _ (kx b o e), hle⟩
  have N : News h h2.objs.size h₁ [(h.objs.size + 1, instObj C h.objs.size), (h.objs.size, emptyDict)] := by
    intro q hq
    rcases List.mem_cons.mp hq with rfl | hq
    · exact ⟨k1 _ _ hx, Nat.ne_of_lt l1, x0⟩
    · rw [List.mem_singleton.mp hq]
      exact ⟨k1 _ _ hd, Nat.ne_of_lt l2, d0⟩
  generalize h.objs.size = dd at *
  generalize h2.objs.size = Lf at *
  clear hns hsb hle l1 l2 room
  have KD : (KF C ns dm _ _ (oDm ta C)).In h₁ := KF.in (F.keep _ _ e1) (F.keep _ _ e2) (F.keep _ _ e3)
  have I : InstAt h₁ (dd + 1) (instObj C dd) C (some emptyDict) := ⟨(N _ (.head _)).1, rfl, rfl, (N _ (.tail _ (.head _))).1⟩
  refine codeAny_func ?_
  conv => arg 3; arg 1; whnf
  refine wpAny_execs_cons (plainObj_wpAny_Assign_Attribute (nameE F rfl rfl rfl rfl (by decide) (nameE F rfl rfl rfl rfl (by decide) ?_)) ?_)
  · refine set_plain KD I (fi_sa n1 n2 n3) ?_
    refine osa_descr KF.slot_mset KD I (po_K n1 n2 n3) (ta_K n1 n2 n3) (ty_dm n1 n2 n3) ?_
    refine slot_set (pre := []) (post := [(dd, emptyDict)]) F N KD I (sl_dm n1 n2 n3) (by decide) (fun _ h => nomatch h) (off_c dx off_n) (ox' := { cls := .ref C, dict := some dd, slots := #[some (.str p t)] }) (by simp) rfl ?_
    intro h4 F4 N4
    refine wpAny_execs_nil ⟨rfl, ?_⟩
    exact hret _ h4 _ F4.keep ⟨dd + 1, rfl, x0, dd, t, (N4 _ (.head _)).1, (N4 _ (.tail _ (.head _))).1⟩
  · with_unfolding_all rfl
end
section
open PySem PySem.W PySem.W.X PyProof.Rows PySem.Calls
/-- a comparison tree under a fixed answer -/
noncomputable def kP (n : Nat) (c : Nat → Nat → Bool) {α : Type} : KasT α → (α → Prop) → Prop
  | .ret a, Q => Q a
  | .ask i j k, Q => i < n ∧ j < n ∧ kP n c (k (c i j)) Q
theorem kP_bind {n : Nat} {c : Nat → Nat → Bool} {α β : Type} {f : α → KasT β} {Q : β → Prop} : ∀ (t : KasT α), kP n c t (fun a => kP n c (f a) Q) → kP n c (t.bind f) Q
  | .ret _, h => h
  | .ask i j k, h => ⟨h.1, h.2.1, kP_bind (k (c i j)) h.2.2⟩
section
variable {n : Nat} {R : Nat → Int}
noncomputable def cR (R : Nat → Int) (i j : Nat) : Bool := decide (R i < R j)
noncomputable def kap (R : Nat → Int) (p : Array Nat) (i : Nat) : Int := R (p.getD i 0)
structure PermN (n : Nat) (p : Array Nat) : Prop where
  perm : p.Perm (List.toArray (List.range n))
theorem PermN.size {p : Array Nat} (h : PermN n p) : p.size = n := by have := h.perm.size_eq; simpa using this
theorem PermN.at {p : Array Nat} (h : PermN n p) {i : Nat} (hi : i < n) : p.getD i 0 < n := by
  have hs := h.size
  have e : p.getD i 0 = p[i] := by simp [Array.getD, hs, hi]
  rw [e]
  have m : p[i] ∈ p.toList := by simp
  have := (Array.perm_iff_toList_perm.mp h.perm).mem_iff.mp m
  simpa using this
theorem PermN.inj {p : Array Nat} (h : PermN n p) {i j : Nat} (hi : i < n) (hj : j < n) (hij : i ≠ j) : p.getD i 0 ≠ p.getD j 0 := by
  have hs := h.size
  have e1 : p.getD i 0 = p.toList[i]'(by simp [hs, hi]) := by simp [Array.getD, hs, hi]
  have e2 : p.getD j 0 = p.toList[j]'(by simp [hs, hj]) := by simp [Array.getD, hs, hj]
  have nd : p.toList.Nodup := (Array.perm_iff_toList_perm.mp h.perm).nodup_iff.mpr (by simpa using List.nodup_range)
  rw [e1, e2]
  intro q
  rcases Nat.lt_or_gt_of_ne hij with h1 | h1
  · exact (List.pairwise_iff_getElem.mp nd) i j (by simp [hs, hi]) (by simp [hs, hj]) h1 q
  · exact (List.pairwise_iff_getElem.mp nd) j i (by simp [hs, hj]) (by simp [hs, hi]) h1 q.symm
noncomputable def InjR (n : Nat) (R : Nat → Int) : Prop := ∀ i j, i < n → j < n → i ≠ j → R i ≠ R j
theorem kap_ne (hR : InjR n R) {p : Array Nat} (h : PermN n p) {i j : Nat} (hi : i < n) (hj : j < n) (hij : i ≠ j) : kap R p i ≠ kap R p j := hR _ _ (h.at hi) (h.at hj) (h.inj hi hj hij)
noncomputable def Asc (R : Nat → Int) (p : Array Nat) (k : Nat) : Prop := ∀ i j, i < j → j < k → kap R p i < kap R p j
noncomputable def Desc (R : Nat → Int) (p : Array Nat) (k : Nat) : Prop := ∀ i j, i < j → j < k → kap R p j < kap R p i
theorem getD_of {p q : Array Nat} {i j : Nat} (h : p[i]? = q[j]?) : p.getD i 0 = q.getD j 0 := by
  simp only [Array.getD_eq_getD_getElem?, h]
theorem kap_rev {p : Array Nat} {m k : Nat} (hm : m ≤ p.size) : kap R (kas_rev p 0 m) k = if k < m then kap R p (m - 1 - k) else kap R p k := by
  have e := getElem?_mirror_all (xs := p) (i := 0) hm k
  unfold kap kas_rev
  by_cases h : k < m
  · rw [if_pos ⟨Nat.zero_le _, h⟩] at e
    rw [if_pos h, getD_of e]
    congr 2
    first | (simp; done) | omega
  · rw [if_neg (fun q => h q.2)] at e
    rw [if_neg h, getD_of e]
theorem kap_bub {p : Array Nat} {s d k : Nat} (hs : s < p.size) (hd : d ≤ s) : kap R (bubble p s d) k = if k = s - d then kap R p s else if s - d < k ∧ k ≤ s then kap R p (k - 1) else kap R p k := by
  have e := getElem?_bubble hs d hd k
  unfold kap
  by_cases h1 : k = s - d
  · rw [if_pos h1] at e ⊢
    rw [getD_of e]
  · rw [if_neg h1] at e ⊢
    by_cases h2 : s - d < k ∧ k ≤ s
    · rw [if_pos h2] at e ⊢
      rw [getD_of e]
    · rw [if_neg h2] at e ⊢
      rw [getD_of e]
theorem PermN.rev {p : Array Nat} (h : PermN n p) (i j : Nat) : PermN n (kas_rev p i j) := ⟨(mirror_perm _ _ _ _).trans h.perm⟩
theorem PermN.bub {p : Array Nat} (h : PermN n p) (s d : Nat) : PermN n (bubble p s d) := ⟨(bubble_perm _ _ _).trans h.perm⟩
theorem pl {a b : Nat} (h : a < b) : a - 1 < b := Nat.lt_of_le_of_lt (Nat.sub_le a 1) h
theorem pk {j k : Nat} (hp : 0 < j) (h : j < k + 1) : j - 1 < k := Nat.lt_of_lt_of_le (Nat.sub_lt hp Nat.one_pos) (Nat.le_of_lt_succ h)
theorem lt_of {a b : Int} (h : ¬ b < a) (n : a ≠ b) : a < b := Int.lt_iff_le_and_ne.mpr ⟨Int.not_lt.mp h, n⟩
theorem asc_P (hR : InjR n R) {p : Array Nat} (hp : PermN n p) {Q : Nat → Prop} : ∀ (f m : Nat), 1 ≤ m → m + f ≤ n → Asc R p m → (∀ m', m ≤ m' → m' ≤ m + f → Asc R p m' → (m' < m + f → kap R p m' < kap R p (m' - 1)) → Q m') → kP n (cR R) (kas_asc p f m) Q := by
  intro f
  induction f with
  | zero => intro m h1 h2 ha k; exact k m (Nat.le_refl _) (Nat.le_refl _) ha fun q => absurd q (Nat.lt_irrefl _)
  | succ f ih =>
    intro m h1 h2 ha k
    have hm : m < n := Nat.lt_of_lt_of_le (Nat.lt_add_of_pos_right (Nat.succ_pos f)) h2
    have e1 : m + 1 + f = m + (f + 1) := Nat.add_right_comm m 1 f
    refine ⟨hp.at hm, hp.at (pl hm), ?_⟩
    by_cases hc : kap R p m < kap R p (m - 1)
    · have e : cR R (p.getD m 0) (p.getD (m - 1) 0) = true := decide_eq_true hc
      rw [e]; dsimp only; rw [if_pos rfl]
      exact k m (Nat.le_refl _) (Nat.le_add_right _ _) ha fun _ => hc
    · have e : cR R (p.getD m 0) (p.getD (m - 1) 0) = false := decide_eq_false hc
      rw [e]; dsimp only; rw [if_neg (by simp)]
      have hlt : kap R p (m - 1) < kap R p m := lt_of hc (kap_ne hR hp (i := m - 1) (j := m) (pl hm) hm (Nat.ne_of_lt (Nat.sub_lt h1 Nat.one_pos)))
      refine ih (m + 1) (Nat.le_add_left 1 m) (Nat.le_trans (Nat.le_of_eq e1) h2) ?_ fun m' a b d g => k m' (Nat.le_of_succ_le a) (Nat.le_trans b (Nat.le_of_eq e1)) d fun q => g (Nat.lt_of_lt_of_le q (Nat.le_of_eq e1.symm))
      intro i j hij hj
      by_cases hjm : j = m
      · subst hjm
        by_cases hi : i = j - 1
        · subst hi; exact hlt
        · exact Int.lt_trans (ha i (j - 1) (Nat.lt_of_le_of_ne (Nat.le_pred_of_lt hij) hi) (Nat.sub_lt h1 Nat.one_pos)) hlt
      · exact ha i j hij (Nat.lt_of_le_of_ne (Nat.le_of_lt_succ hj) hjm)
theorem desc_P (hR : InjR n R) {p : Array Nat} (hp : PermN n p) {Q : Array Nat × Nat × Nat → Prop} : ∀ (f m : Nat), 1 ≤ m → m + f ≤ n → Desc R p m → (∀ m', m ≤ m' → m' ≤ m + f → Desc R p m' → Q (p, m', 0)) → kP n (cR R) (kas_desc f p m 0) Q := by
  intro f
  induction f with
  | zero => intro m h1 h2 ha k; exact k m (Nat.le_refl _) (Nat.le_refl _) ha
  | succ f ih =>
    intro m h1 h2 ha k
    have hm : m < n := Nat.lt_of_lt_of_le (Nat.lt_add_of_pos_right (Nat.succ_pos f)) h2
    have e1 : m + 1 + f = m + (f + 1) := Nat.add_right_comm m 1 f
    refine ⟨hp.at hm, hp.at (pl hm), ?_⟩
    by_cases hc : kap R p m < kap R p (m - 1)
    · have e : cR R (p.getD m 0) (p.getD (m - 1) 0) = true := decide_eq_true hc
      rw [e]; dsimp only; rw [if_pos rfl, if_neg (Nat.lt_irrefl 0)]
      refine ih (m + 1) (Nat.le_add_left 1 m) (Nat.le_trans (Nat.le_of_eq e1) h2) ?_ fun m' a b d => k m' (Nat.le_of_succ_le a) (Nat.le_trans b (Nat.le_of_eq e1)) d
      intro i j hij hj
      by_cases hjm : j = m
      · subst hjm
        by_cases hi : i = j - 1
        · subst hi; exact hc
        · exact Int.lt_trans hc (ha i (j - 1) (Nat.lt_of_le_of_ne (Nat.le_pred_of_lt hij) hi) (Nat.sub_lt h1 Nat.one_pos))
      · exact ha i j hij (Nat.lt_of_le_of_ne (Nat.le_of_lt_succ hj) hjm)
    · have e : cR R (p.getD m 0) (p.getD (m - 1) 0) = false := decide_eq_false hc
      rw [e]; dsimp only; rw [if_neg (by simp)]
      have hlt : kap R p (m - 1) < kap R p m := lt_of hc (kap_ne hR hp (i := m - 1) (j := m) (pl hm) hm (Nat.ne_of_lt (Nat.sub_lt h1 Nat.one_pos)))
      refine ⟨hp.at (pl hm), hp.at hm, ?_⟩
      have e2 : cR R (p.getD (m - 1) 0) (p.getD m 0) = true := decide_eq_true hlt
      rw [e2]; dsimp only; rw [if_pos rfl]
      exact k m (Nat.le_refl _) (Nat.le_add_right _ _) ha
theorem rev_asc {p : Array Nat} (hp : PermN n p) {m : Nat} (hm : m ≤ n) (h : Desc R p m) : Asc R (kas_rev p 0 m) m := by
  intro i j hij hj
  have hs : m ≤ p.size := Nat.le_trans hm (Nat.le_of_eq hp.size.symm)
  rw [kap_rev hs, kap_rev hs, if_pos (Nat.lt_trans hij hj), if_pos hj]
  exact h (m - 1 - j) (m - 1 - i) (Nat.sub_lt_sub_left (Nat.lt_of_lt_of_le hij (Nat.le_pred_of_lt hj)) hij) (Nat.lt_of_le_of_lt (Nat.sub_le _ _) (Nat.sub_lt (Nat.lt_of_le_of_lt (Nat.zero_le _) hj) Nat.one_pos))
theorem tail3_P (hR : InjR n R) {p : Array Nat} (hp : PermN n p) {m : Nat} {Q : Nat × Array Nat → Prop} (h1 : 1 ≤ m) (hm : m ≤ n) (h : Desc R p m) (k : ∀ m' p', PermN n p' → m' ≤ n → 1 ≤ m' → Asc R p' m' → Q (m', p')) : kP n (cR R) (kas_tail3 m n p) Q := by
  refine kP_bind _ (asc_P hR (hp.rev 0 m) (n - m) m h1 (Nat.le_of_eq (Nat.add_sub_of_le hm)) (rev_asc hp hm h) fun m' a b d _ => ?_)
  exact k m' _ (hp.rev 0 m) (Nat.le_trans b (Nat.le_of_eq (Nat.add_sub_of_le hm))) (Nat.le_trans h1 a) d
theorem count_P (hR : InjR n R) (h2 : 2 ≤ n) {p : Array Nat} (hp : PermN n p) {Q : Nat × Array Nat → Prop} (k : ∀ m' p', PermN n p' → m' ≤ n → 1 ≤ m' → Asc R p' m' → Q (m', p')) : kP n (cR R) (kas_count n p) Q := by
  have e1 : 1 + (n - 1) = n := Nat.add_sub_of_le (Nat.le_of_succ_le h2)
  refine kP_bind _ (asc_P hR hp (n - 1) 1 (Nat.le_refl _) (Nat.le_of_eq e1) (fun i j a b => absurd b (Nat.not_lt.mpr (Nat.succ_le_of_lt (Nat.lt_of_le_of_lt (Nat.zero_le i) a)))) fun m a b d g => ?_)
  have hm : m ≤ n := Nat.le_trans b (Nat.le_of_eq e1)
  by_cases hmn : m = n
  · subst hmn
    rw [if_pos (by simp)]
    exact k m p hp (Nat.le_refl _) a d
  · rw [if_neg (by simpa using hmn)]
    by_cases h1 : m > 1
    · rw [if_pos h1]
      refine ⟨hp.at (Nat.lt_of_lt_of_le (by decide) h2), hp.at (Nat.lt_of_lt_of_le (Nat.sub_lt a Nat.one_pos) hm), ?_⟩
      have e : cR R (p.getD 0 0) (p.getD (m - 1) 0) = true := decide_eq_true (d 0 (m - 1) (Nat.sub_pos_of_lt h1) (Nat.sub_lt a Nat.one_pos))
      rw [e]; dsimp only; rw [if_pos rfl]
      exact k m p hp hm a d
    · rw [if_neg h1]
      obtain rfl : m = 1 := Nat.le_antisymm (Nat.not_lt.mp h1) a
      have hlt := g (Nat.lt_of_lt_of_le h2 (Nat.le_of_eq e1.symm))
      have e2 : 1 + 1 + (n - (1 + 1)) = n := Nat.add_sub_of_le h2
      refine kP_bind _ (desc_P hR hp (n - (1 + 1)) (1 + 1) (by decide) (Nat.le_of_eq e2) (fun i j a b => ?_) fun m' a b d => ?_)
      · obtain rfl : j = 1 := Nat.le_antisymm (Nat.le_of_lt_succ b) (Nat.succ_le_of_lt (Nat.lt_of_le_of_lt (Nat.zero_le i) a))
        obtain rfl : i = 0 := Nat.lt_one_iff.mp a
        exact hlt
      · rw [if_neg (by simp)]
        exact tail3_P hR hp (m := m') (Nat.le_trans (by decide) a) (Nat.le_trans b (Nat.le_of_eq e2)) d k
theorem place_P (hR : InjR n R) {p : Array Nat} (hp : PermN n p) {k : Nat} (hk : k < n) (ha : Asc R p k) {Q : Nat → Prop} (q : ∀ l, l ≤ k → (∀ i, i < l → kap R p i < kap R p k) → (∀ i, l ≤ i → i < k → kap R p k < kap R p i) → Q l) :
    ∀ (f l r : Nat), r - l ≤ f → l ≤ r → r ≤ k → (∀ i, i < l → kap R p i < kap R p k) → (∀ i, r ≤ i → i < k → kap R p k < kap R p i) → kP n (cR R) (kas_place p k f l r) Q := by
  intro f
  induction f with
  | zero =>
    intro l r hf hlr hrk a b
    obtain rfl : l = r := Nat.le_antisymm hlr (Nat.le_of_sub_eq_zero (Nat.le_zero.mp hf))
    exact q l hrk a b
  | succ f ih =>
    intro l r hf hlr hrk a b
    show kP n (cR R) (if l ≥ r then .ret l else _) Q
    by_cases hge : l ≥ r
    · rw [if_pos hge]
      obtain rfl : l = r := Nat.le_antisymm hlr hge
      exact q l hrk a b
    · rw [if_neg hge]
      have hm1 : l ≤ (l + r) / 2 := by clear hf hrk a b ih ha hk; omega
      have hm2 : (l + r) / 2 < r := by clear hf hrk a b ih ha hk hm1; omega
      have hmk : (l + r) / 2 < k := Nat.lt_of_lt_of_le hm2 hrk
      refine ⟨hp.at hk, hp.at (Nat.lt_trans hmk hk), ?_⟩
      by_cases hc : kap R p k < kap R p ((l + r) / 2)
      · have e : cR R (p.getD k 0) (p.getD ((l + r) / 2) 0) = true := decide_eq_true hc
        rw [e]; dsimp only; rw [if_pos rfl]
        refine ih l ((l + r) / 2) (Nat.le_of_lt_succ (Nat.lt_of_lt_of_le (Nat.sub_lt_sub_right hm1 hm2) hf)) hm1 (Nat.le_of_lt hmk) a fun i h1 h2 => ?_
        by_cases hi : i = (l + r) / 2
        · subst hi; exact hc
        · exact Int.lt_trans hc (ha ((l + r) / 2) i (Nat.lt_of_le_of_ne h1 (Ne.symm hi)) h2)
      · have e : cR R (p.getD k 0) (p.getD ((l + r) / 2) 0) = false := decide_eq_false hc
        rw [e]; dsimp only; rw [if_neg (by simp)]
        have hlt : kap R p ((l + r) / 2) < kap R p k := lt_of hc (kap_ne hR hp (i := (l + r) / 2) (j := k) (Nat.lt_trans hmk hk) hk (Nat.ne_of_lt hmk))
        refine ih ((l + r) / 2 + 1) r (Nat.le_trans (Nat.sub_le_sub_left (Nat.succ_le_succ hm1) r) (by rw [Nat.succ_eq_add_one, ← Nat.sub_sub]; exact Nat.sub_le_of_le_add hf)) hm2 hrk (fun i h1 => ?_) b
        by_cases hi : i = (l + r) / 2
        · subst hi; exact hlt
        · exact Int.lt_trans (ha i ((l + r) / 2) (Nat.lt_of_le_of_ne (Nat.le_of_lt_succ h1) hi) hmk) hlt
theorem bin_P (hR : InjR n R) {Q : Array Nat → Prop} (q : ∀ p', PermN n p' → Asc R p' n → Q p') : ∀ (f : Nat) (p : Array Nat) (k : Nat), PermN n p → k + f = n → Asc R p k → kP n (cR R) (kas_bin f p k) Q := by
  intro f
  induction f with
  | zero => intro p k hp hk ha; obtain rfl : k = n := hk; exact q p hp ha
  | succ f ih =>
    intro p k hp hk ha
    have hkn : k < n := Nat.lt_of_lt_of_eq (Nat.lt_add_of_pos_right (Nat.succ_pos f)) hk
    refine kP_bind _ (place_P hR hp hkn ha (fun l hl a b => ?_) k 0 k (Nat.sub_le k 0) (Nat.zero_le _) (Nat.le_refl _) (fun i h => absurd h (Nat.not_lt_zero i)) (fun i h1 h2 => absurd h2 (Nat.not_lt.mpr h1)))
    have hs : k < p.size := Nat.lt_of_lt_of_eq hkn hp.size.symm
    refine ih _ (k + 1) (hp.bub _ _) ((Nat.add_right_comm k 1 f).trans hk) ?_
    intro i j hij hj
    have hjk := Nat.le_of_lt_succ hj
    have hj1 : j - 1 < k := pk (Nat.lt_of_le_of_lt (Nat.zero_le i) hij) hj
    rw [kap_bub hs (Nat.sub_le k l), kap_bub hs (Nat.sub_le k l)]
    rw [Nat.sub_sub_self hl]
    by_cases h1 : i = l
    · subst h1
      rw [if_pos rfl, if_neg (Nat.ne_of_gt hij), if_pos ⟨hij, hjk⟩]
      exact b (j - 1) (Nat.le_pred_of_lt hij) hj1
    · rw [if_neg h1]
      by_cases h2 : l < i ∧ i ≤ k
      · rw [if_pos h2, if_neg (Nat.ne_of_gt (Nat.lt_trans h2.1 hij)), if_pos ⟨Nat.lt_trans h2.1 hij, hjk⟩]
        exact ha (i - 1) (j - 1) (Nat.sub_lt_sub_right (Nat.succ_le_of_lt (Nat.lt_of_le_of_lt (Nat.zero_le l) h2.1)) hij) hj1
      · rw [if_neg h2]
        have hil : i < l := Nat.lt_of_le_of_ne (Nat.not_lt.mp fun z => h2 ⟨z, Nat.le_of_lt (Nat.lt_of_lt_of_le hij hjk)⟩) h1
        by_cases h3 : j = l
        · rw [if_pos h3]
          exact a i hil
        · rw [if_neg h3]
          by_cases h4 : l < j ∧ j ≤ k
          · rw [if_pos h4]
            exact ha i (j - 1) (Nat.lt_of_lt_of_le hil (Nat.le_pred_of_lt h4.1)) hj1
          · rw [if_neg h4]
            exact ha i j hij (Nat.lt_of_lt_of_le (Nat.lt_of_le_of_ne (Nat.not_lt.mp fun z => h4 ⟨z, hjk⟩) h3) hl)
theorem sort_P (hR : InjR n R) (h2 : 2 ≤ n) {Q : Array Nat → Prop} (q : ∀ p', PermN n p' → Asc R p' n → Q p') : kP n (cR R) (kas_sort n) Q := by
  refine kP_bind _ (count_P hR h2 ⟨Array.Perm.refl _⟩ fun m p hp hm h1 ha => ?_)
  show kP n (cR R) (if m < n then _ else _) Q
  by_cases h : m < n
  · rw [if_pos h]
    rw [Nat.max_eq_left h1]
    exact bin_P hR q _ p m hp (Nat.add_sub_of_le hm) ha
  · rw [if_neg h]
    obtain rfl : m = n := Nat.le_antisymm hm (Nat.not_lt.mp h)
    exact q p hp ha
end
end
section
open PySem PySem.W PySem.W.X PyProof.Rows PySem.Calls
/-- the comparison tree runs as its answers say -/
theorem kasWp_of {n : Nat} {c : Nat → Nat → Bool} {cmp : Nat → Nat → (Bool → Shared → Prop) → Shared → Prop} {I : Shared → Prop} {α : Type} {G : α → Shared → Prop}
    (step : ∀ i j s (C : Bool → Shared → Prop), i < n → j < n → I s → (∀ s', I s' → C (c i j) s') → cmp i j C s) : ∀ (t : KasT α) (s : Shared), I s → kP n c t (fun a => ∀ s', I s' → G a s') → t.kasWp cmp G s
  | .ret a, s, hI, h => h s hI
  | .ask i j k, s, hI, h => step i j s _ h.1 h.2.1 hI fun s' hI' => kasWp_of step (k (c i j)) s' hI' h.2.2
/-- x < y by the K's own way -/
theorem wp_keyLt {w : World} {mg mb : Str → Option Value} {A : Around} {h : Heap} {g : Array GenState} {d : Drawn} {tk : Nat} {os : OsState} {L C a b : Addr} {p q : Str} {Q : Bool → Shared → Prop} {E : Value → Shared → Prop} (G : Gd w mg mb h) (hA : Fits 4 A) (hK : KCls h L C)
   (hcell : ∃ oc, h.get? (L + 1) = some oc ∧ oc.data = .cell (some (.ref 176))) (ha : InstK h C a p) (hb : InstK h C b q) (hp : p.length + 2 ≤ sizeLine) (hq : q.length + 2 ≤ sizeLine)
   (k : ∀ h' tk', h.StaysIn h' → Q (decide (cmpP p q < 0)) ⟨h', g, d, tk', os⟩) : wpAny (model RP w) A (keyLt' oneType' (.ref a) (.ref b)) Q E ⟨h, g, d, tk, os⟩ := by
  have hK0 := hK
  refine KCls.elim hK fun bt f1 f2 f3 f4 f5 f6 sl st ns dm c1 c2 t0 ta tb tc hs ts hv hv' x1 x2 y1 y2 e1 e2 e3 e4 e5 e6 e7 => ?_
  refine hide fun G2 hG2 => ?_
  obtain ⟨dd, t, ea, ed⟩ := id ha
  refine hG2 ?_
  clear hG2
  have n1 : ns ≠ C := ne_of_cls e2 e1 (fun q => absurd (Value.type.inj q) (by decide))
  have n2 : f2 ≠ C := ne_of_cls e5 e1 (fun q => absurd (Value.type.inj q) (by decide))
  have n3 : f2 ≠ ns := ne_of_cls e5 e2 (fun q => absurd (Value.type.inj q) (by decide))
  have KX : (KF C ns f2 _ _ (mObj L 1 x2 y2 c2)).In h := KF.in e1 e2 e5
  refine hide fun G3 hG3 => ?_
  obtain ⟨l1, l2, l3⟩ := KF.look (oC := cK C ns bt qK t0 (ts 13) false [Str.ofString "obj"] #[some (.builtin "object.__new__"), some (.bool false)]) (oN := dictO (esF hs ts sl f1 f2 f3 f4 f5 f6 st dm hv hv' tb tc) 3) (oD := mObj L 1 x2 y2 c2) n1 n2 n3
  refine hG3 ?_
  clear hG3
  rw [keyLt'_oneType, oneLt'_eq]
  simp only [if_true]
  refine wpAny_bind (wpAny_cRoomFor hA.cl ?_)
  refine wpAny_bind (ifBound_K (s := ⟨h, g, d, tk, os⟩) KX (C := C) (x := a) (od := some { cls := .type "dict", data := .dict #[] }) ⟨ea, rfl, rfl, ed⟩ (fi_lt n1 n2 n3) (by unfold isFn typeIn; dsimp only; rw [l3]; rfl) ?_)
  refine c_ltK G hK0 e5 e7 hcell ha hb hp hq A g d tk os _ _ hA ?_
  rintro r h' tk' hk rfl
  exact wpAny_truthy_bool (k h' tk' hk)
/-- keys: instances over texts -/
inductive InstAre (h : Heap) (C : Addr) : List Value → List Str → Prop
  | nil : InstAre h C [] []
  | cons {a : Addr} {p : Str} {vs : List Value} {ps : List Str} : InstK h C a p → InstAre h C vs ps → InstAre h C (.ref a :: vs) (p :: ps)
theorem InstAre.keeps {h h' : Heap} {C : Addr} (k : ∀ a p, InstK h C a p → InstK h' C a p) : ∀ {vs : List Value} {ps : List Str}, InstAre h C vs ps → InstAre h' C vs ps := by
  intro vs xs x
  induction x with
  | nil => exact .nil
  | cons i r ih => exact .cons (k _ _ i) ih
theorem InstAre.snoc {h : Heap} {C a : Addr} {p : Str} (i : InstK h C a p) : ∀ {vs : List Value} {ps : List Str}, InstAre h C vs ps → InstAre h C (vs ++ [.ref a]) (ps ++ [p]) := by
  intro vs xs x
  induction x with
  | nil => exact .cons i .nil
  | cons j r ih => exact .cons j ih
theorem InstAre.length {h : Heap} {C : Addr} : ∀ {vs : List Value} {ps : List Str}, InstAre h C vs ps → vs.length = ps.length := by
  intro vs xs x
  induction x with
  | nil => rfl
  | cons _ r ih => rw [List.length_cons, List.length_cons, ih]
theorem InstAre.at {h : Heap} {C : Addr} : ∀ {vs : List Value} {ps : List Str}, InstAre h C vs ps → ∀ i, i < vs.length → ∃ a p, vs.getD i .none = .ref a ∧ ps[i]? = some p ∧ InstK h C a p := by
  intro vs xs x
  induction x with
  | nil => intro i hi; exact absurd hi (Nat.not_lt_zero i)
  | cons j r ih =>
    intro i
    cases i with
    | zero => intro _; exact ⟨_, _, rfl, rfl, j⟩
    | succ i =>
      intro hi
      obtain ⟨a, p, e1, e2, e3⟩ := ih i (Nat.lt_of_succ_lt_succ hi)
      exact ⟨a, p, e1, e2, e3⟩
theorem InstAre.all {h : Heap} {C : Addr} : ∀ {vs : List Value} {ps : List Str}, InstAre h C vs ps → ∀ v ∈ vs, ∃ a p, v = .ref a ∧ InstK h C a p := by
  intro vs xs x
  induction x with
  | nil => intro v hv; cases hv
  | cons j r ih =>
    intro v hv
    rcases List.mem_cons.mp hv with rfl | hv
    · exact ⟨_, _, rfl, j⟩
    · exact ih v hv
/-- an update of a list leaves an object of K -/
theorem InstK.upd {h h' : Heap} {C a l : Addr} {p : Str} {o : Obj} (i : InstK h C a p) (hs : Heap.SameBut l h h') (hl : h.get? l = some o) (hc : o.cls = .type "list") : InstK h' C a p := by
  refine hide fun G5 hG5 => ?_
  obtain ⟨dd, t, e, f⟩ := i
  refine hG5 ?_
  clear hG5
  have n1 : a ≠ l := fun q => by rw [q, hl] at e; cases e; cases hc
  have n2 : dd ≠ l := fun q => by rw [q, hl] at f; cases f; exact absurd (Value.type.inj hc) (by decide)
  exact ⟨dd, t, (hs.2 a n1).trans e, (hs.2 dd n2).trans f⟩
noncomputable def txt (xs : List Str) (i : Nat) : Str := xs.getD i (Str.ofString "")
theorem zip_kas (ks vs : List Value) (hl : ks.length = vs.length) : ((List.toArray (List.range vs.length)).map (kas_item (ks.toArray.zip vs.toArray))) = ks.toArray.zip vs.toArray := by
  apply Array.ext
  · simp [hl]
  · intro i h1 h2
    have h1' : i < vs.length := by simpa using h1
    have h2' : i < ks.length := by omega
    simp [kas_item, Array.getD, h1', h2']
    rw [dif_pos (by omega)]
theorem kas_item_zip {ks vs : List Value} (hl : ks.length = vs.length) {i : Nat} (hi : i < vs.length) : kas_item (ks.toArray.zip vs.toArray) i = (ks.getD i .none, vs.getD i .none) := by
  have h2' : i < ks.length := by omega
  simp [kas_item, Array.getD, hi, h2']
  rw [dif_pos (by omega)]
/-- what sorted gives -/
noncomputable def SortedBy (r : Str → Int) (xs ys : List Str) : Prop := ys.Perm xs ∧ ys.Pairwise fun x y => r x < r y
theorem strs_getD {vs : List Value} {xs : List Str} (h : StrsAre vs xs) {i : Nat} (hi : i < vs.length) : ∃ t, vs.getD i .none = .str (txt xs i) t := by
  rcases strsAre_at h i with ⟨e, _⟩ | ⟨x, t, e, e'⟩
  · rw [List.getElem?_eq_none_iff] at e; omega
  · exact ⟨t, by rw [List.getD_eq_getElem?_getD, e]; show Value.str x t = Value.str (xs.getD i _) t; rw [List.getD_eq_getElem?_getD, e']; rfl⟩
theorem strs_map {vs : List Value} {xs : List Str} (h : StrsAre vs xs) : ∀ (l : List Nat), (∀ i ∈ l, i < vs.length) → StrsAre (l.map fun i => vs.getD i .none) (l.map (txt xs))
  | [], _ => .nil
  | i :: l, hl => by
    obtain ⟨t, e⟩ := strs_getD h (hl i (.head _))
    rw [List.map_cons, List.map_cons, e]
    exact .cons _ _ (strs_map h l fun j hj => hl j (.tail _ hj))
theorem sorted_of {xs : List Str} {r : Str → Int} {p : Array Nat} {n : Nat} (hn : n = xs.length) (hp : PermN n p) (ha : Asc (fun i => r (txt xs i)) p n) : SortedBy r xs (p.toList.map (txt xs)) := by
  subst hn
  have pl : p.toList.Perm (List.range xs.length) := by simpa using Array.perm_iff_toList_perm.mp hp.perm
  have e : (List.range xs.length).map (txt xs) = xs := by
    apply List.ext_getElem
    · simp
    · intro i h1 h2
      simp [txt, List.getD_eq_getElem?_getD, h2]
  refine ⟨by have q := pl.map (txt xs); rw [e] at q; exact q, ?_⟩
  rw [List.pairwise_map, List.pairwise_iff_getElem]
  intro i j hi hj hij
  have hs := hp.size
  have q := ha i j hij (by simpa [hs] using hj)
  unfold kap at q
  have e1 : p.getD i 0 = p.toList[i] := by simp [Array.getD, show i < p.size by simpa using hi]
  have e2 : p.getD j 0 = p.toList[j] := by simp [Array.getD, show j < p.size by simpa using hj]
  rw [e1, e2] at q
  exact q
section
variable {w : World} {mg mb : Str → Option Value} {A : Around} {h : Heap} {g : Array GenState} {d : Drawn} {os : OsState} {L C a kS : Addr} {vs : List Value} {xs : List Str} {r : Str → Int} {e1 : Nat} {E : Value → Shared → Prop} {P : PySem.Fin → Shared → Prop}
/-- how sort ends -/
theorem sk_tail {h' : Heap} {tk : Nat} {keys : Array Value} {e : Nat} {st : SortSt} {out : List Value} (hs : h.StaysIn h') (hk0 : h.get? kS = none) (ha0 : h.get? a = none) (hka : kS ≠ a)
    (hk : h'.get? kS = some (seqObj "list" keys e)) (ha : h'.get? a = some (seqObj "list" #[] e1)) (hkz : keys.size ≤ 64) (hout : (arrOf st).map (·.2) = out.toArray) (hoz : out.length ≤ 64) (hfl : failedOf st = none)
    (k : ∀ h'' tk' c, h.StaysIn h'' → h''.get? a = some (seqObj "list" out.toArray c) → P (.done (.ret .none)) ⟨h'', g, d, tk', os⟩) : wpAny (model RP w) A (ksk_tail a false e1 (.ref kS) st) P E ⟨h', g, d, tk, os⟩ := by
  have s1 := Heap.SameBut.update h' kS (Obj.mapSeq fun _ => (#[] : Array Value))
  have na1 : (h'.update kS (Obj.mapSeq fun _ => (#[] : Array Value))).get? a = some (seqObj "list" #[] e1) := (s1.2 a hka.symm).trans ha
  have s2 := Heap.SameBut.update (h'.update kS (Obj.mapSeq fun _ => (#[] : Array Value))) a (Obj.mapSeq fun _ => out.toArray)
  obtain ⟨c2, hc2⟩ : ∃ c2, ((h'.update kS (Obj.mapSeq fun _ => (#[] : Array Value))).update a (Obj.mapSeq fun _ => out.toArray)).get? a = some (seqObj "list" out.toArray c2) := ⟨_, get?_update_seq na1 fun _ => out.toArray⟩
  unfold ksk_tail
  simp only [Bool.false_eq_true, if_false]
  rw [hout]
  refine wpAny_bind (listUpdate_at hk rfl ?_ (by rw [sizeLine_eq]; omega) (Nat.zero_le _))
  refine wpAny_bind (wpAny_letGo ?_)
  refine wpAny_bind (seqEpoch_at na1 rfl ?_)
  refine wpAny_bind (listUpdate_at na1 rfl ?_ (Nat.zero_le _) (by rw [List.size_toArray, sizeLine_eq]; omega))
  rw [hfl]
  simp only [bne_self_eq_false, Bool.false_eq_true, if_false]
  refine wpAny_pure (k _ _ c2 (fun b o q => ?_) hc2)
  have b1 : b ≠ kS := fun z => by rw [z, hk0] at q; cases q
  have b2 : b ≠ a := fun z => by rw [z, ha0] at q; cases q
  exact (s2.2 b b2).trans ((s1.2 b b1).trans (hs _ _ q))
theorem sk_end {h' : Heap} {tk : Nat} {keys : List Value} {e : Nat} (G : Gd w mg mb h) (hA : Fits 4 A) (hK : KCls h L C) (hcell : ∃ oc, h.get? (L + 1) = some oc ∧ oc.data = .cell (some (.ref 176)))
    (hs : h.StaysIn h') (hk0 : h.get? kS = none) (ha0 : h.get? a = none) (hka : kS ≠ a)
    (hk : h'.get? kS = some (seqObj "list" keys.toArray e)) (ha : h'.get? a = some (seqObj "list" #[] e1)) (hx : StrsAre vs xs) (hi : InstAre h' C keys xs) (h64 : xs.length < 64) (hlen : ∀ x ∈ xs, x.length + 2 ≤ sizeLine)
    (hr : ∀ x ∈ xs, ∀ y ∈ xs, (cmpP x y < 0 ↔ r x < r y)) (hinj : InjR xs.length fun i => r (txt xs i))
    (k : ∀ h'' tk' c out ys, h.StaysIn h'' → h''.get? a = some (seqObj "list" (List.toArray out) c) → StrsAre out ys → SortedBy r xs ys → P (.done (.ret .none)) ⟨h'', g, d, tk', os⟩) :
    wpAny (model RP w) A (ksk_end a false vs.toArray e1 (.ref kS) keys.toArray) P E ⟨h', g, d, tk, os⟩ := by
  have lv := strs_len hx
  have lk := hi.length
  have lkv : keys.length = vs.length := by omega
  unfold ksk_end
  simp only [Bool.false_eq_true, if_false]
  by_cases h2 : vs.toArray.size < 2
  · rw [if_pos h2, if_pos h2]
    refine wpAny_bind (wpAny_pure ?_)
    rw [StateT.run_pure]
    refine wpAny_bind (wpAny_pure ?_)
    dsimp only
    rw [List.size_toArray] at h2
    refine sk_tail (out := vs) hs hk0 ha0 hka hk ha (by rw [List.size_toArray]; omega) ?_ (by omega) rfl fun h'' tk' c q1 q2 => k h'' tk' c vs xs q1 q2 hx ⟨List.Perm.refl _, ?_⟩
    · show (keys.toArray.zip vs.toArray).map (·.2) = vs.toArray
      apply Array.ext
      · simp [lkv]
      · intro i a b; simp
    · match xs, lv with
      | [], _ => exact List.Pairwise.nil
      | [x], _ => exact List.pairwise_singleton _ _
      | x :: y :: xs, lv => simp at lv; omega
  · rw [if_neg h2, if_neg h2]
    rw [List.size_toArray] at h2
    have hT : ∀ v ∈ keys, Looks (model RP w) h' (typeOf v) (.ref C) := fun v hv => by
      refine hide fun G6 hG6 => ?_
      obtain ⟨x, p, rfl, dd, t, ea, ed⟩ := hi.all v hv
      refine hG6 ?_
      clear hG6
      exact InstAt.type (C := C) (od := some { cls := .type "dict", data := .dict #[] }) ⟨ea, rfl, rfl, ed⟩
    refine wpAny_bind (kas_kind (s := ⟨h', g, d, tk, os⟩) (by omega) hT rfl (by simp) ?_)
    have est : SortSt.mk' oneType' (keys.toArray.zip vs.toArray) #[] 7 none = kas_st oneType' (keys.toArray.zip vs.toArray) (List.toArray (List.range vs.length)) := by
      unfold kas_st
      rw [zip_kas keys vs lkv]
    have ask : (kas_sort vs.length).kasWp (kas_cmp RP w A oneType' (keys.toArray.zip vs.toArray)) (fun p s' => ∃ h'' tk'', s' = ⟨h'', g, d, tk'', os⟩ ∧ h.StaysIn h'' ∧ h''.get? kS = some (seqObj "list" keys.toArray e) ∧ h''.get? a = some (seqObj "list" #[] e1) ∧ PermN vs.length p ∧ Asc (fun i => r (txt xs i)) p vs.length) ⟨h', g, d, tk, os⟩ := by
      refine kasWp_of (n := vs.length) (c := cR fun i => r (txt xs i)) (I := fun s' => ∃ h'' tk'', s' = ⟨h'', g, d, tk'', os⟩ ∧ h'.StaysIn h'') ?_ _ _ ⟨h', tk, rfl, fun _ _ z => z⟩ (sort_P (by rw [lv]; exact hinj) (by omega) fun p hp hasc s' hI => ?_)
      · intro i j s' CC hi1 hj1 hq7
        refine hide fun G7 hG7 => ?_
        obtain ⟨h'', tk'', rfl, hk2⟩ := hq7
        refine hG7 ?_
        clear hG7
        intro hC
        unfold kas_cmp
        rw [kas_item_zip lkv hi1, kas_item_zip lkv hj1]
        refine hide fun G8 hG8 => ?_
        obtain ⟨x, p, ex, ep, ix⟩ := hi.at i (by omega)
        refine hG8 ?_
        clear hG8
        refine hide fun G9 hG9 => ?_
        obtain ⟨y, q, ey, eq, iy⟩ := hi.at j (by omega)
        refine hG9 ?_
        clear hG9
        rw [ex, ey]
        have mp : p ∈ xs := List.mem_of_getElem? ep
        have mq : q ∈ xs := List.mem_of_getElem? eq
        have tp : txt xs i = p := by unfold txt; rw [List.getD_eq_getElem?_getD, ep]; rfl
        have tq : txt xs j = q := by unfold txt; rw [List.getD_eq_getElem?_getD, eq]; rfl
        have hst : h.StaysIn h'' := fun b o z => hk2 _ _ (hs _ _ z)
        refine wp_keyLt (G.keeps hst) hA (hK.keeps hst) (by obtain ⟨oc, z1, z2⟩ := hcell; exact ⟨oc, hst _ _ z1, z2⟩) (ix.keeps hk2) (iy.keeps hk2) (hlen _ mp) (hlen _ mq) fun h3 tk3 hk3 => ?_
        have ec : cR (fun i => r (txt xs i)) i j = decide (cmpP p q < 0) := by
          refine decide_eq_decide.mpr ?_
          show r (txt xs i) < r (txt xs j) ↔ _
          rw [tp, tq]
          exact (hr p mp q mq).symm
        rw [← ec]
        exact hC _ ⟨h3, tk3, rfl, fun b o z => hk3 _ _ (hk2 _ _ z)⟩
      · refine hide fun G10 hG10 => ?_
        obtain ⟨h'', tk'', rfl, hk2⟩ := hI
        refine hG10 ?_
        clear hG10
        exact ⟨h'', tk'', rfl, fun b o z => hk2 _ _ (hs _ _ z), hk2 _ _ hk, hk2 _ _ ha, hp, hasc⟩
    have run := kas_runs (E := E) (Q := fun _ st' s' => ∃ p : Array Nat, arrOf st' = p.map (kas_item (keys.toArray.zip vs.toArray)) ∧ failedOf st' = none ∧ ∃ h'' tk'', s' = ⟨h'', g, d, tk'', os⟩ ∧ h.StaysIn h'' ∧ h''.get? kS = some (seqObj "list" keys.toArray e) ∧ h''.get? a = some (seqObj "list" #[] e1) ∧ PermN vs.length p ∧ Asc (fun i => r (txt xs i)) p vs.length)
      (by omega) (by omega) (fun p' st' s' a1 a2 a3 a4 => ⟨p', a2, a3, a4⟩) ask
    rw [← est] at run
    refine wpAny_bind (wpAny_mono run ?_ fun _ _ e => e)
    intro ⟨⟨⟩, st'⟩ s' hq11
    refine hide fun G11 hG11 => ?_
    obtain ⟨p, har, hf, h'', tk'', rfl, b1, b2, b3, hp, hasc⟩ := hq11
    refine hG11 ?_
    clear hG11
    dsimp only
    have pin : ∀ i ∈ p.toList, i < vs.length := fun i hi' => by
      have := (Array.perm_iff_toList_perm.mp hp.perm).mem_iff.mp hi'
      simpa using this
    refine sk_tail (out := p.toList.map fun i => vs.getD i .none) b1 hk0 ha0 hka b2 b3 (by rw [List.size_toArray]; omega) ?_ (by rw [List.length_map, Array.length_toList, hp.size]; omega) hf fun h3 tk3 c q1 q2 => k h3 tk3 c _ _ q1 q2 (strs_map hx _ pin) (sorted_of lv hp hasc)
    apply Array.toList_inj.mp
    rw [har, Array.map_map, Array.toList_map]
    refine List.map_congr_left fun i hi' => ?_
    show (kas_item (keys.toArray.zip vs.toArray) i).2 = _
    rw [kas_item_zip lkv (pin i hi')]
theorem sk_rest {h' : Heap} {tk : Nat} (G : Gd w mg mb h) (hA : Fits 4 A) (hK : KCls h L C) (hcell : ∃ oc, h.get? (L + 1) = some oc ∧ oc.data = .cell (some (.ref 176)))
    (hs : h.StaysIn h') (hk0 : h.get? kS = none) (ha0 : h.get? a = none) (hka : kS ≠ a)
    (hk : h'.get? kS = some (seqObj "list" #[] 0)) (ha : h'.get? a = some (seqObj "list" #[] e1)) (hx : StrsAre vs xs) (h64 : xs.length < 64) (hlen : ∀ x ∈ xs, x.length + 2 ≤ sizeLine)
    (hr : ∀ x ∈ xs, ∀ y ∈ xs, (cmpP x y < 0 ↔ r x < r y)) (hinj : InjR xs.length fun i => r (txt xs i))
    (k : ∀ h'' tk' c out ys, h.StaysIn h'' → h''.get? a = some (seqObj "list" (List.toArray out) c) → StrsAre out ys → SortedBy r xs ys → P (.done (.ret .none)) ⟨h'', g, d, tk', os⟩) :
    wpAny (model RP w) A (ksk_rest a (.ref C) false vs.toArray e1 (.ref kS)) P E ⟨h', g, d, tk, os⟩ := by
  have lv := strs_len hx
  unfold ksk_rest
  refine wpAny_bind (wpAny_rule ?_)
  first
    | rw [List.forIn_toArray]
    | (rw [← Array.forIn_toList]; simp only [List.toList_toArray])
    | rw [← Array.forIn_toList]
  refine wpAny_bind (ksk_fold (fun i s' => ∃ h'' tk'' kA e, s' = ⟨h'', g, d, tk'', os⟩ ∧ h.StaysIn h'' ∧ h''.get? kS = some (seqObj "list" kA e) ∧ h''.get? a = some (seqObj "list" #[] e1) ∧ InstAre h'' C kA.toList (xs.take i)) vs 0 _
    ⟨h', tk, #[], 0, rfl, hs, hk, ha, .nil⟩ ?step ?done)
  case step =>
    intro j x s' hxj hq12
    refine hide fun G12 hG12 => ?_
    obtain ⟨h'', tk'', kA, e, rfl, hs2, hk2, ha2, hi⟩ := hq12
    refine hG12 ?_
    clear hG12
    simp only [Nat.zero_add] at hi ⊢
    refine hide fun G13 hG13 => ?_
    obtain ⟨p, t, hpj, rfl⟩ : ∃ p t, xs[j]? = some p ∧ x = .str p t := by
      rcases strsAre_at hx j with ⟨q, _⟩ | ⟨p, t, q, q'⟩
      · rw [q] at hxj; cases hxj
      · rw [q] at hxj; cases hxj; exact ⟨p, t, q', rfl⟩
    refine hG13 ?_
    clear hG13
    have hz : kA.size ≤ 64 := by
      have h1 := hi.length
      rw [Array.length_toList, List.length_take] at h1
      omega
    refine wpAny_bind (wpAny_attempt (c_mkK (G.keeps hs2) (hK.keeps hs2) p t A g d tk'' os _ _ (hA.le (by decide)) ?_))
    intro v h3 tk3 hk3 hq14
    refine hide fun G14 hG14 => ?_
    obtain ⟨y, rfl, hy, iy⟩ := hq14
    refine hG14 ?_
    clear hG14
    dsimp only
    have nk := hk3 _ _ hk2
    have s1 := Heap.SameBut.update h3 kS (Obj.mapSeq (·.push (.ref y)))
    obtain ⟨c2, hc2⟩ : ∃ c2, (h3.update kS (Obj.mapSeq (·.push (.ref y)))).get? kS = some (seqObj "list" (kA.push (.ref y)) c2) := ⟨_, get?_update_seq nk (·.push (.ref y))⟩
    have ek : xs.take (j + 1) = xs.take j ++ [p] := by rw [List.take_add_one, hpj]; simp
    have ea : (kA.push (Value.ref y)).toList = kA.toList ++ [Value.ref y] := by simp
    refine wpAny_bind (listUpdate_at nk rfl ?_ (by rw [sizeLine_eq]; omega) (Nat.le_trans (Nat.le_of_eq (Array.size_push ..)) (by rw [sizeLine_eq]; omega)))
    refine wpAny_pure ⟨rfl, _, _, kA.push (.ref y), c2, rfl, fun b o q => ?_, hc2, (s1.2 a hka.symm).trans (hk3 _ _ ha2), ?_⟩
    · exact (s1.2 b fun z => by rw [z, hk0] at q; cases q).trans (hk3 _ _ (hs2 _ _ q))
    · rw [ea, ek]
      exact InstAre.snoc (iy.upd s1 nk rfl) (hi.keeps fun a' p' i' => (i'.keeps hk3).upd s1 nk rfl)
  case done =>
    intro s' hq15
    refine hide fun G15 hG15 => ?_
    obtain ⟨h'', tk'', kA, e, rfl, hs2, hk2, ha2, hi⟩ := hq15
    refine hG15 ?_
    clear hG15
    have hi' : InstAre h'' C kA.toList xs := by
      have e3 : xs.take (0 + vs.length) = xs := List.take_of_length_le (by omega)
      rw [e3] at hi
      exact hi
    try dsimp only
    refine wpAny_bind (listItems_at hk2 rfl ?_)
    have ekA : kA = kA.toList.toArray := by simp
    rw [ekA] at hk2 ⊢
    exact sk_end G hA hK hcell hs2 hk0 ha0 hka hk2 ha2 hx hi' h64 hlen hr hinj k
theorem c_sorted {l : Addr} (G : Gd w mg mb h) (hK : KCls h L C) (hcell : ∃ oc, h.get? (L + 1) = some oc ∧ oc.data = .cell (some (.ref 176)))
    (hl : h.IsList l vs.toArray) (hx : StrsAre vs xs) (h64 : xs.length < 64) (hlen : ∀ x ∈ xs, x.length + 2 ≤ sizeLine)
    (hr : ∀ x ∈ xs, ∀ y ∈ xs, (cmpP x y < 0 ↔ r x < r y)) (hinj : InjR xs.length fun i => r (txt xs i)) (hA : Fits 6 A) {tk : Nat} {Q : Value → Shared → Prop}
    (hret : ∀ D h' tk' ys, h.StaysIn h' → h.get? D = none → IsStrs h' D ys → SortedBy r xs ys → Q (.ref D) ⟨h', g, d, tk', os⟩) :
    wpAny (model RP w) A (call (.builtin "sorted") [.ref l] [(Str.ofString "key", .ref C)]) Q E ⟨h, g, d, tk, os⟩ := by
  have lv := strs_len hx
  refine call_function_entry_kw kind_sorted plain_sorted entry_sorted (ksk_s1 _ _) ?_
  unfold Builtin.«sorted»
  refine wpAny_bind (m := checkCount "sorted" 1 1 _) (wpAny_pure ?_)
  refine wpAny_bind (collect_list hl ?_ (by rw [sizeLine_eq]; omega))
  refine wpAny_bind (wpAny_newList ?_ (by rw [sizeLine_eq]; omega))
  have hsz : ((h.push (seqObj "list" #[] 0)).update h.objs.size (Obj.mapSeq (· ++ vs.toArray))).objs.size = h.objs.size + 1 := by
    rw [Heap.size_update, size_push']
  have hoL : (((h.push (seqObj "list" #[] 0)).update h.objs.size (Obj.mapSeq (· ++ vs.toArray))).push (seqObj "list" vs.toArray 0)).get? (h.objs.size + 1) = some (seqObj "list" vs.toArray 0) := by
    rw [← hsz]; exact Heap.get?_push_size _ rfl
  have hszL : (((h.push (seqObj "list" #[] 0)).update h.objs.size (Obj.mapSeq (· ++ vs.toArray))).push (seqObj "list" vs.toArray 0)).objs.size = h.objs.size + 2 := by
    rw [size_push', hsz]
  have keep : h.StaysIn (((h.push (seqObj "list" #[] 0)).update h.objs.size (Obj.mapSeq (· ++ vs.toArray))).push (seqObj "list" vs.toArray 0)) := fun b o q => by
    have hlt : b < h.objs.size := Heap.lt_size q
    rw [Heap.get?_push_ne _ _ _ (by rw [hsz]; exact Nat.ne_of_lt (Nat.lt_succ_of_lt hlt)), Heap.get?_update_ne _ _ _ _ (Nat.ne_of_lt hlt), Heap.get?_push_ne _ _ _ (Nat.ne_of_lt hlt)]
    exact q
  show wpAny _ _ _ _ _ ⟨((h.push (seqObj "list" #[] 0)).update h.objs.size (Obj.mapSeq (· ++ vs.toArray))).push (seqObj "list" vs.toArray 0), g, d, tk, os⟩
  rw [hsz]
  have ha0 : h.get? (h.objs.size + 1) = none := Heap.get?_none_of_le (Nat.le_succ _)
  refine wpAny_bind (wpAny_holding (wpAny_call_entry_kw slot_list_sort ⟨_, hoL, rfl⟩ entry_list_sort ?body (ksk_l1 _ _)))
  case body =>
    show wpAny (model RP w) A.in1.in1 (Builtin.«list.sort» ⟨[.ref (h.objs.size + 1)], [(Str.ofString "key", .ref C)]⟩) _ _ _
    rw [ksk_t1]
    generalize ((h.push (seqObj "list" #[] 0)).update h.objs.size (Obj.mapSeq (· ++ vs.toArray))).push (seqObj "list" vs.toArray 0) = H at hoL hszL keep ⊢
    have s1 := Heap.SameBut.update H (h.objs.size + 1) (Obj.mapSeq fun _ => (#[] : Array Value))
    obtain ⟨e1, ho1⟩ : ∃ e1, (H.update (h.objs.size + 1) (Obj.mapSeq fun _ => (#[] : Array Value))).get? (h.objs.size + 1) = some (seqObj "list" #[] e1) := ⟨_, get?_update_seq hoL fun _ => #[]⟩
    have hkS : ((H.update (h.objs.size + 1) (Obj.mapSeq fun _ => (#[] : Array Value))).push (seqObj "tuple" vs.toArray 0)).objs.size = h.objs.size + 3 := by rw [size_push', Heap.size_update, hszL]
    unfold ksk_tree
    refine wpAny_bind (listItems_at hoL rfl ?_)
    refine wpAny_bind (listUpdate_at hoL rfl ?_ (by rw [List.size_toArray, sizeLine_eq]; omega) (Nat.zero_le _))
    refine wpAny_bind (seqEpoch_at ho1 rfl ?_)
    refine wpAny_bind (wpAny_newTuple ?_ (by show vs.length ≤ _; rw [sizeLine_eq]; omega))
    refine wpAny_bind (wpAny_newList ?_ (Nat.zero_le _))
    refine wpAny_holding ?_
    have hz : (h.objs.size + 1 : Nat) < h.objs.size + 3 := by omega
    refine sk_rest G hA.in1.in1 hK hcell (fun b o q => ?_) (Heap.get?_none_of_le (by rw [hkS]; exact Nat.le_add_right _ _)) ha0 (by rw [hkS]; exact Nat.ne_of_gt hz) (Heap.get?_push_size _ rfl) (Heap.get?_push_of_some _ (Heap.get?_push_of_some _ ho1)) hx h64 hlen hr hinj (fun h'' tk' c out ys q1 q2 q3 q4 => ⟨_, rfl, wpAny_pure ⟨_, rfl, hret _ h'' tk' ys q1 ha0 ⟨out, c, q2, q3⟩ q4⟩⟩)
    exact Heap.get?_push_of_some _ (Heap.get?_push_of_some _ ((s1.2 b fun z => by rw [z, ha0] at q; cases q).trans (keep _ _ q)))
end
end
section
open PySem PySem.W PySem.W.X PyProof.Rows PySem.Calls
/-- all that is new, but the locals -/
noncomputable def allNews (h₀ : Heap) (L : Addr) (h : Heap) : List (Addr × Obj) := (List.range h.objs.size).filterMap fun b => if b = L then none else if (h₀.get? b).isSome then none else (h.get? b).map fun o => (b, o)
theorem mem_allNews {h₀ h : Heap} {L b : Addr} {o : Obj} : (b, o) ∈ allNews h₀ L h ↔ b ≠ L ∧ h₀.get? b = none ∧ h.get? b = some o := by
  unfold allNews
  rw [List.mem_filterMap]
  constructor
  · rintro ⟨c, hc, e⟩
    split at e
    · cases e
    · rename_i h1
      split at e
      · cases e
      · rename_i h2
        cases q : h.get? c with
        | none => rw [q] at e; cases e
        | some o' =>
          rw [q] at e
          cases e
          exact ⟨h1, by simpa using h2, q⟩
  · rintro ⟨h1, h2, h3⟩
    refine ⟨b, List.mem_range.mpr (Heap.lt_size h3), ?_⟩
    rw [if_neg h1, h2, h3]
    rfl
theorem allNews_news {h₀ h : Heap} {L : Addr} : News h₀ L h (allNews h₀ L h) := fun p hp => by
  obtain ⟨b, o⟩ := p
  obtain ⟨h1, h2, h3⟩ := mem_allNews.mp hp
  exact ⟨h3, h1, h2⟩
/-- what stands when all that was new is kept -/
theorem allNews_keep {h₀ h h' : Heap} {L : Addr} {m m' : Str → Option Value} (F : Fr h₀ L h m) (F' : Fr h₀ L h' m') (N : ∀ p ∈ allNews h₀ L h, h'.get? p.1 = some p.2) : ∀ b o, b ≠ L → h.get? b = some o → h'.get? b = some o := fun b o hb e => by
  cases q : h₀.get? b with
  | none => exact N (b, o) (mem_allNews.mpr ⟨hb, q, e⟩)
  | some o' =>
    have := F.keep _ _ q
    rw [e] at this
    cases this
    exact F'.keep _ _ q
/-- a list of lists of texts -/
inductive RowsAre (h : Heap) : List Value → List (List Str) → Prop
  | nil : RowsAre h [] []
  | cons {b : Addr} {row : List Str} {vs : List Value} {rows : List (List Str)} : IsStrs h b row → RowsAre h vs rows → RowsAre h (.ref b :: vs) (row :: rows)
theorem RowsAre.keeps {h h' : Heap} (k : ∀ b row, IsStrs h b row → IsStrs h' b row) : ∀ {vs : List Value} {rows : List (List Str)}, RowsAre h vs rows → RowsAre h' vs rows := by
  intro vs xs x
  induction x with
  | nil => exact .nil
  | cons i r ih => exact .cons (k _ _ i) ih
theorem RowsAre.snoc {h : Heap} {b : Addr} {row : List Str} (i : IsStrs h b row) : ∀ {vs : List Value} {rows : List (List Str)}, RowsAre h vs rows → RowsAre h (vs ++ [.ref b]) (rows ++ [row]) := by
  intro vs xs x
  induction x with
  | nil => exact .cons i .nil
  | cons j r ih => exact .cons j ih
theorem RowsAre.length {h : Heap} : ∀ {vs : List Value} {rows : List (List Str)}, RowsAre h vs rows → vs.length = rows.length := by
  intro vs xs x
  induction x with
  | nil => rfl
  | cons _ r ih => rw [List.length_cons, List.length_cons, ih]
theorem RowsAre.at {h : Heap} : ∀ {vs : List Value} {rows : List (List Str)}, RowsAre h vs rows → ∀ (i : Nat), (vs[i]? = none ∧ rows[i]? = none) ∨ ∃ b row, vs[i]? = some (.ref b) ∧ rows[i]? = some row ∧ IsStrs h b row := by
  intro vs xs x
  induction x with
  | nil => intro i; exact .inl ⟨rfl, rfl⟩
  | cons j r ih =>
    intro i
    cases i with
    | zero => exact .inr ⟨_, _, rfl, rfl, j⟩
    | succ i => exact ih i
noncomputable def RowsAt (h : Heap) (a : Addr) (rows : List (List Str)) : Prop := ∃ vs n, h.get? a = some { cls := .type "list", dict := none, data := .seq (vs : List Value).toArray n, slots := #[] } ∧ RowsAre h vs rows
theorem isStrs_but {h h' : Heap} {L b : Addr} {m : Str → Option Value} {row : List Str} (hN : h.Ns L m) (k : ∀ b o, b ≠ L → h.get? b = some o → h'.get? b = some o) (i : IsStrs h b row) : IsStrs h' b row := by
  obtain ⟨vs, n, e, s⟩ := i
  obtain ⟨o, es, ep, eo, ed, _⟩ := hN
  exact ⟨vs, n, k _ _ (fun q => by rw [q, eo] at e; cases e; cases ed) e, s⟩
theorem RowsAt.but {h h' : Heap} {L a : Addr} {m : Str → Option Value} {rows : List (List Str)} (hN : h.Ns L m) (k : ∀ b o, b ≠ L → h.get? b = some o → h'.get? b = some o) (i : RowsAt h a rows) : RowsAt h' a rows := by
  obtain ⟨vs, n, e, s⟩ := i
  have hN' := hN
  obtain ⟨o, es, ep, eo, ed, _⟩ := hN
  exact ⟨vs, n, k _ _ (fun q => by rw [q, eo] at e; cases e; cases ed) e, s.keeps fun b row => isStrs_but hN' k⟩
end
section
open PySem PySem.W PySem.W.X PyProof.Rows PySem.Calls
theorem fill10 (P : Params) (h : Heap) : PySem.Challenge.rw_ik0057_01 = PySem.Challenge.rw_ik0057_01 → (KM P).In h → (KM P).In h := by
  k_fill
  intro _ X
  exact X
theorem ent181 (P : Params) : (KM P).lookup 181 = some ⟨.type "function", none, .func (fnOf (Str.ofString "_law_shelf") (Str.ofString "_law_shelf") (dParams (stAt 28)) (dBody (stAt 28)) (dScope (stAt 28)) .none .none .none (.str (Str.ofString "law_ik0057_01") 398) none (.ref 180) .none), #[]⟩ := by kernel_rfl
/-- a contract that may grow table 37, used in a body -/
theorem ConT.use {w : World} {k j : Nat} {f : Value} {vs : List Value} {h₀ : Heap} {Post : Value → Heap → Prop} {A : Around} {s : Shared} {L : Addr} {m : Str → Option Value} {o : Obj} {news : List (Addr × Obj)} {Q E : Value → Shared → Prop}
    (C : ConT w j f vs s.heap Post) (hA : Fits k A) (hj : j ≤ k) (F : Fr h₀ L s.heap m) (N : News h₀ L s.heap ((37, o) :: news)) (off : ∀ p ∈ news, p.1 ≠ 37)
    (hQ : ∀ r h' tk', Fr h₀ L h' m → News h₀ L h' news → (∀ b o, b ≠ 37 → s.heap.get? b = some o → h'.get? b = some o) → Post r h' → Q r { s with heap := h', toks := tk' }) : wpAny (model RP w) A (call f vs) Q E s := by
  obtain ⟨h, g, d, tk, os⟩ := s
  refine C A g d tk os Q E (hA.le hj) fun r h' tk' hk p => hQ r h' tk' ?_ ?_ hk p
  · have n37 := N _ (.head _)
    exact ⟨F.ns.at' fun o e => hk _ _ (fun q => n37.2.1 q.symm) e, fun b o e => hk _ _ (fun q => by rw [q, n37.2.2] at e; cases e) (F.keep b o e), F.above⟩
  · exact fun p hp => ⟨hk _ _ (off p hp) (N p (.tail _ hp)).1, (N p (.tail _ hp)).2⟩
/-- entering a def while table 37 may grow: the base hides it -/
theorem enterT {w : World} {k : Nat} {mg mb : Str → Option Value} {hb h : Heap} {f c : Addr} {vs : List Value} {Post : Value → Heap → Prop} {name : Str} {params : Arguments} {body : List Stmt} {scope : Scope} {pm : Value} {binds : List (Str × Value)} {o37 : Obj}
    (G : Gd w mg mb hb) (hbs : hb.StaysIn h) (hb37 : hb.get? 37 = none) (h37 : h.get? 37 = some o37) (ho : (KM w.params).lookup f = some ⟨.type "function", none, .func (fnOf name name params body scope .none .none .none pm none (.ref c) .none), #[]⟩) (hc : codeIn (KM w.params) (.ref c) name = true)
    (hbind : ∀ fd, fd = fnOf name name params body scope .none .none .none pm none (.ref c) .none → bindArgs fd ⟨vs, []⟩ = pure binds) (hloc : (binds.all fun x => decide (scope.names.lookup x.1 = some .local)) = true)
    (hx : ∀ (A : Around) (g : Array GenState) (d : Drawn) (tk : Nat) (os : OsState) (R : Value → Shared → Prop) (L : Addr) (h₁ h₀ : Heap), Fits k A → (∀ r h' tk', h₀.StaysIn h' → Post r h' → R r ⟨h', g, d, tk', os⟩) → (∀ b o, b ≠ 37 → h.get? b = some o → h₀.get? b = some o) → (∀ b, h.get? b = none → h₀.get? b = none) → Gd w mg mb h₀ →
      Fr h₀ L h₁ (fun x => binds.reverse.lookup x) → News h₀ L h₁ [(37, o37)] →
      wpAny (model RP w) A (execs body (envOf name scope L f (.ref c))) (fun fl s' => R (match fl with | .ret v => v | _ => .none) s') (fun _ _ => False) ⟨h₁, g, d, tk, os⟩)
    (hco : scope.isCoroutine = false := by rfl) (hgen : scope.isGenerator = false := by rfl) (hk : scope.kind = .function := by rfl) (hcell : ∀ x ∈ scope.names, x.2 ≠ .cell := by decide) :
    ConT w (k + 1) (.ref f) vs h Post := by
  intro A g d tk os Q E hA hret
  have Gh : Gd w mg mb h := G.keeps hbs
  refine wpAny_call ?_
  refine codeAny_call_function (fd := fnOf name name params body scope .none .none .none pm none (.ref c) .none) hA.room (Gh.K _ _ ho) rfl hco hgen rfl (codeRec_of Gh.K hc) ?_
  rw [hbind _ rfl]
  refine wpAny_pure ?_
  refine wpAny_newFunctionEnv hcell (locs hloc) (fun h₁ hns hsb => ⟨Gh.T.nolimit.fresh _ hsb, ?_⟩) hk
  show codeAny _ _ (.func body (envOf name scope h.objs.size f (.ref c))) _ _
  have hk₁ : h.StaysIn h₁ := fun b o e => hsb.extBut b o (Nat.ne_of_lt (Heap.lt_size e)) (Heap.get?_push_of_some _ e)
  have in0 : ∀ b o, b ≠ 37 → h.get? b = some o → (hideAll h [37]).get? b = some o := fun b o hb e => hideAll_get _ e (by simpa using hb)
  have F : Fr (hideAll h [37]) h.objs.size h₁ (fun x => binds.reverse.lookup x) := ⟨hns, fun b o e => hk₁ _ _ (of_hideAll _ e), Nat.le_of_eq (hideAll_size _ _)⟩
  have G0 : Gd w mg mb (hideAll h [37]) := G.keeps fun b o e => in0 b o (fun q => by rw [q, hb37] at e; cases e) (hbs _ _ e)
  refine codeAny_func (wpAny_mono (hx (A.deeper _) g d _ os Q _ h₁ (hideAll h [37]) (hA.deeper _) (fun r h' tk' hs p => hret r h' tk' (fun b o hb e => hs _ _ (in0 b o hb e)) p) in0 (fun b e => by
    cases q : (hideAll h [37]).get? b with
    | none => rfl
    | some o => rw [of_hideAll _ q] at e; cases e) G0 F ?_) (fun _ _ x => x) fun _ _ x => x.elim)
  intro p hp
  rw [List.mem_singleton.mp hp]
  exact ⟨hk₁ _ _ h37, Nat.ne_of_lt (Heap.lt_size h37), hideAll_none [37] (.head _)⟩
theorem ints_len : ∀ {vs : List Value} {xs : List Int}, IntsAre vs xs → vs.length = xs.length := by
  intro vs xs x
  induction x with
  | nil => rfl
  | cons _ _ r ih => rw [List.length_cons, List.length_cons, ih]
theorem codeRec_but {h h' : Heap} {L : Addr} {m : Str → Option Value} {c : Value} {q : Str} (hN : h.Ns L m) (k : ∀ b o, b ≠ L → h.get? b = some o → h'.get? b = some o) (i : h.CodeRec c q) : h'.CodeRec c q := by
  obtain ⟨c, o, vs, t, e, eo, ed, r⟩ := i
  obtain ⟨o', es, ep, eo', ed', _⟩ := hN
  exact ⟨c, o, vs, t, e, k _ _ (fun q => by rw [q, eo'] at eo; cases eo; rw [ed'] at ed; cases ed) eo, ed, r⟩
theorem TabOk.but {hb h h' : Heap} {L : Addr} {m : Str → Option Value} (hN : h.Ns L m) (k : ∀ b o, b ≠ L → h.get? b = some o → h'.get? b = some o) (x : TabOk hb h) : TabOk hb h' := by
  have hN' := hN
  obtain ⟨o', es, ep, eo', ed', _⟩ := hN
  have kk : ∀ b o vs, h.get? b = some o → o.data = .fields vs → h'.get? b = some o := fun b o vs e q => k _ _ (fun z => by rw [z, eo'] at e; cases e; rw [ed'] at q; cases q) e
  rcases x with e | ⟨ck, P, cs, a, b, c, d, e, f, i⟩
  · exact .inl (kk _ _ _ e rfl)
  · refine .inr ⟨ck, P, cs, kk _ _ _ a rfl, b, c, ?_, kk _ _ _ e rfl, f, fun i' c' q p r => codeRec_but hN' k (i i' c' q p r)⟩
    obtain ⟨o, vs, file, tf, flags, tg, inF, text, tt, e1, e2, e3, r⟩ := d
    exact ⟨o, vs, file, tf, flags, tg, inF, text, tt, kk _ _ _ e1 e3, e2, e3, r⟩
/-- what the sort asks of the paths -/
structure PathsOk (r : Str → Int) (ps : List Str) : Prop where
  few : ps.length < 64
  len : ∀ x ∈ ps, x.length ≤ 1000
  ord : ∀ x ∈ ps, ∀ y ∈ ps, (cmpP x y < 0 ↔ r x < r y)
  inj : InjR ps.length fun i => r (txt ps i)
noncomputable def partsP (p : Str) : List Str := Txt.split p (Str.ofString "/")
/-- a turn of the shelf -/
noncomputable def shelfStep (k : Int) (acc : List Str) (x : Int) : List Str :=
  if (x.fdiv 4).fmod 3 = k then acc else if (acc.any fun y => y == laidP (rowOf x)) = true then acc else acc ++ [laidP (rowOf x)]
noncomputable def pathsP (k : Int) (ns : List Int) : List Str := ns.foldl (shelfStep k) []
theorem intsAre_at : ∀ {vs : List Value} {xs : List Int}, IntsAre vs xs → ∀ (i : Nat), (vs[i]? = none ∧ xs[i]? = none) ∨ ∃ x t, vs[i]? = some (.int x t) ∧ xs[i]? = some x := by
  intro vs xs x
  induction x with
  | nil => intro i; exact .inl ⟨rfl, rfl⟩
  | cons y t h ih =>
    intro i
    cases i with
    | zero => exact .inr ⟨y, t, rfl, rfl⟩
    | succ i => exact ih i
theorem ints_elim {vs : List Value} {ns : List Int} (hv : IntsAre vs ns) {i : Nat} {v : Value} (h : vs.toArray[i]? = some v) {G : Value → Prop} (k : ∀ x u, ns[i]? = some x → G (.int x u)) : G v := by
  rcases intsAre_at hv i with ⟨e, _⟩ | ⟨y, u, e, e'⟩
  · simp [e] at h
  · simp [e] at h
    subst h
    exact k y u e'
/-- the loop's invariant -/
noncomputable def ShInv (lp : Addr) (o37 : Obj) (k : Int) (ns : List Int) (m0 : Str → Option Value) (i : Nat) (m : Str → Option Value) (nw : List (Addr × Obj)) : Prop :=
  ∃ ws n, nw = [(lp, PySem.W.listOf ws.toArray n), (37, o37)] ∧ StrsAre ws ((ns.take i).foldl (shelfStep k) []) ∧ ws.length ≤ i ∧ (∀ z, z ≠ Str.ofString "x" → z ≠ Str.ofString "path" → m z = m0 z)
theorem ShInv.mk {lp : Addr} {o37 : Obj} {k : Int} {ns : List Int} {m0 m : Str → Option Value} {i n : Nat} {ws : List Value} (h1 : StrsAre ws ((ns.take i).foldl (shelfStep k) [])) (h2 : ws.length ≤ i) (h3 : ∀ z, z ≠ Str.ofString "x" → z ≠ Str.ofString "path" → m z = m0 z) :
    ShInv lp o37 k ns m0 i m [(lp, PySem.W.listOf ws.toArray n), (37, o37)] := ⟨ws, n, rfl, h1, h2, h3⟩
theorem ShInv.elim {lp : Addr} {o37 : Obj} {k : Int} {ns : List Int} {m0 m : Str → Option Value} {i : Nat} {nw : List (Addr × Obj)} (h : ShInv lp o37 k ns m0 i m nw) {G : (Str → Option Value) → List (Addr × Obj) → Prop}
    (q : ∀ ws n acc xv pv, (ns.take i).foldl (shelfStep k) [] = acc → StrsAre ws acc → ws.length ≤ i → G (fun y => if y = Str.ofString "x" then xv else if y = Str.ofString "path" then pv else m0 y) [(lp, PySem.W.listOf ws.toArray n), (37, o37)]) : G m nw := by
  obtain ⟨ws, n, rfl, h1, h2, h3⟩ := h
  have e : m = fun y => if y = Str.ofString "x" then m (Str.ofString "x") else if y = Str.ofString "path" then m (Str.ofString "path") else m0 y := funext fun z => by
    by_cases q1 : z = Str.ofString "x"
    · rw [if_pos q1, q1]
    · rw [if_neg q1]
      by_cases q2 : z = Str.ofString "path"
      · rw [if_pos q2, q2]
      · rw [if_neg q2, h3 z q1 q2]
  rw [e]
  exact q ws n _ _ _ rfl h1 h2
theorem sh_map {m0 : Str → Option Value} {c xv pv : Option Value} (z : Str) : (if z = Str.ofString "x" then c else if z = Str.ofString "x" then xv else if z = Str.ofString "path" then pv else m0 z) = (if z = Str.ofString "x" then c else if z = Str.ofString "path" then pv else m0 z) := by
  by_cases q : z = Str.ofString "x"
  · rw [if_pos q, if_pos q]
  · rw [if_neg q, if_neg q, if_neg q]
theorem sh_step {k : Int} {ns : List Int} {i : Nat} {x : Int} {acc : List Str} (h : ns[i]? = some x) (e : (ns.take i).foldl (shelfStep k) [] = acc) : (ns.take (i + 1)).foldl (shelfStep k) [] = shelfStep k acc x := by
  rw [List.take_add_one, h, List.foldl_append, e]
  rfl
/-- the last comprehension's invariant -/
noncomputable def PartInv (W : List (Addr × Obj)) (ys : List Str) (i : Nat) (zs : List Value) (nw : List (Addr × Obj)) : Prop := ∃ own, nw = own ++ W ∧ ∀ h', (∀ p ∈ own, h'.get? p.1 = some p.2) → RowsAre h' zs ((ys.take i).map partsP)
theorem PartInv.elim {W : List (Addr × Obj)} {ys : List Str} {i : Nat} {zs : List Value} {nw : List (Addr × Obj)} (h : PartInv W ys i zs nw) {G : List (Addr × Obj) → Prop} (q : ∀ own, (∀ h', (∀ p ∈ own, h'.get? p.1 = some p.2) → RowsAre h' zs ((ys.take i).map partsP)) → G (own ++ W)) : G nw := by
  obtain ⟨own, rfl, h⟩ := h
  exact q own h
theorem strs_at_el {vs : List Value} {xs : List Str} (hv : StrsAre vs xs) {i : Nat} {v : Value} (h : vs.toArray[i]? = some v) {G : Value → Prop} (k : ∀ y u, xs[i]? = some y → G (.str y u)) : G v := by
  rcases strsAre_at hv i with ⟨e, _⟩ | ⟨y, u, e, e'⟩
  · simp [e] at h
  · simp [e] at h
    subst h
    exact k y u e'
set_option hygiene false in
local macro_rules | `(tactic| walk_at "eval ListComp") => `(tactic| (refine here ?_))
set_option hygiene false in
local macro_rules | `(tactic| walk_at "call builtin:str.split") => `(tactic| ((with_reducible show wpAny _ _ (call (Value.builtin "str.split") [Value.str _ _, Value.str _ _]) _ _ _); refine KSpl.split1 (by k_asm) (by k_asm) (by decide) ?_ (by with_reducible assumption); intro D' l' h' k' e' a' F' N' l1'; rw [e'] at a'; clear e'; (try dsimp only)))
set_option hygiene false in
local macro_rules | `(tactic| walk_at "exec For Name Name cons nil") => `(tactic| (refine here ?_))
set_option hygiene false in
local macro_rules | `(tactic| walk_at "call builtin:list.append") => `(tactic| (k_here; (refine' append_snoc ?F ?N ?U ?z ?_; (case F => k_asm); (case N => k_asm); (case U => k_upd); (case z => with_reducible assumption)); intro h' F' N'))
set_option maxHeartbeats 1000000 in
theorem c_shelf {w : World} {mg mb : Str → Option Value} {hb h : Heap} (G : Gd w mg mb hb) (hbs : hb.StaysIn h) (hb37 : hb.get? 37 = none) (tab : TabOk hb h) {o37 : Obj} (h37 : h.get? 37 = some o37) {l : Addr} {vs : List Value} {ns : List Int} {n : Nat} {k : Int} {tk0 : Tok}
   (hl : h.get? l = some { cls := .type "list", dict := none, data := .seq vs.toArray n, slots := #[] }) (hv : IntsAre vs ns) (hl37 : l ≠ 37) (hn : ns.length ≤ 100) (laid : ∀ x, LaidOk (rowOf x)) (r : Str → Int) (pok : PathsOk r (pathsP k ns)) :
   ConT w 9 (.ref 181) [.ref l, .int k tk0] h (fun v h' => ∃ a ys, v = .ref a ∧ TabOk hb h' ∧ SortedBy r (pathsP k ns) ys ∧ RowsAt h' a (ys.map partsP)) := by
  refine enterT G hbs hb37 h37 (ent181 _) (by kernel_rfl) (binds := [(Str.ofString "numbers", .ref l), (Str.ofString "other", .int k tk0)]) ?_ (by kernel_rfl) ?_
  · rintro _ rfl
    with_unfolding_all rfl
  · intro A g d tk os R L h₁ h₀ hA hret in0 no0 G0 F N
    conv => arg 3; arg 1; whnf
    obtain ⟨hd', dp', fr', gu', un'⟩ := A
    obtain rfl : hd' = none := hA.handled
    have T := G0.T
    have X := G0.K
    k_steps
    refine there ?_
    rename Fr _ _ _ _ => F5
    rename News _ _ _ _ => N5
    obtain ⟨lp, hlp, M5⟩ := news_head N5
    subst hlp
    obtain ⟨m0, hm0, G5⟩ := fr_name F5
    refine for_list (p := l) (items := vs.toArray) (h₀ := h₀) rfl (ShInv lp o37 k ns m0) ?_ ?_ (by rfl) (by rfl) G5 N5 ?_ ?_ ?_
    · intro i m nw _
      exact .inl ⟨_, in0 _ _ hl37 hl, rfl, _, rfl⟩
    · intro Q' q
      exact wpAny_Name (wpAny_loadName_local (by rfl) (by rfl) G5.ns (by rw [← hm0]; rfl) q) (by decide)
    · exact ShInv.mk (ws := []) (n := 0) .nil (Nat.le_refl _) fun _ _ _ => rfl
    · intro i v m nw I oI h10 tk10 E' hvi hI
      apply ShInv.elim hI
      clear hI
      apply ints_elim hv hvi
      clear hvi
      intro x u hxi ws n' acc xv pv eA hws hlen F6 N6 off
      have eS := sh_step hxi eA
      clear eA
      have hi : i < ns.length := (List.getElem?_eq_some_iff.mp hxi).1
      have hwl : ws.length ≤ 1000 := by omega
      replace F6 := fr_eqm F6 (m' := fun y => if y = Str.ofString "x" then some (.int x u) else if y = Str.ofString "path" then pv else m0 y) (fun z => sh_map z)
      subst hm0
      change Fr h₀ L h10 _ at F6
      change News h₀ L h10 _ at N6
      have o1 : (@Ne Nat lp I) := off _ (.head _)
      have o2 : (@Ne Nat 37 I) := off _ (.tail _ (.head _))
      have o4 : (@Ne Nat I lp) := Ne.symm o1
      refine absQ fun Q0 hQ0 => ?_
      k_steps
      refine ConO.use (c_row (mg := mg) (mb := mb) (by exact G0.keeps (Fr.keep (by k_asm))) x u) hA (by decide) (by k_asm) (by k_asm) ?_
      intro a h11 tk11 F11 N11 na hs
      refine strs_elim hs fun us nu ha hus => ?_
      clear hs
      replace N11 := N11 _ ha
      have o5 : (@Ne Nat a lp) := Ne.symm (na _ (.tail _ (.head _)))
      have o6 : (@Ne Nat 37 lp) := Nat.ne_of_lt (by assumption)
      k_steps
      refine Con.use (c_laid (mg := mg) (mb := mb) (by exact G0.keeps (Fr.keep (by k_asm))) ⟨us, nu, ha, hus⟩ (laid x)) hA (by decide) (by k_asm) (by k_asm) ?_
      intro r h12 tk12 F12 N12 _ hp12
      apply ex_eq hp12
      clear hp12
      intro t12
      k_steps
      all_goals (
        refine hQ0 _ _ ?_
        refine' Turn.next (all := (a, _) :: (I, oI) :: _) ?f ?n _ (fun _ hp => .tail _ hp) ?o ?j
        case f => k_asm
        case n => k_asm
        case o => exact off_cons o1 (off_cons o2 off_nil)
        case j =>
          refine ShInv.mk ?_ ?_ (fun z h1 h2 => by simp only [h1, h2, if_false])
          · rw [eS]
            clear hret T X G G0 laid
            first
              | (rw [show shelfStep k acc x = acc by unfold shelfStep; simp only [*, if_true, if_false, Bool.false_eq_true]]; with_reducible assumption)
              | (rw [show shelfStep k acc x = acc ++ [laidP (rowOf x)] by unfold shelfStep; simp only [*, if_true, if_false, Bool.false_eq_true]]; exact strs_snoc hws)
          · (try simp only [List.length_append, List.length_cons, List.length_nil] at hlen ⊢)
            omega)
    · intro m nw h10 tk10 hI
      apply ShInv.elim hI
      clear hI
      intro ws n' acc xv pv eA hws hlen F6 N6
      subst eA
      subst hm0
      change Fr h₀ L h10 _ at F6
      change News h₀ L h10 _ at N6
      have o6 : (@Ne Nat 37 lp) := Nat.ne_of_lt (by assumption)
      dsimp only
      k_steps
      refine there ?_
      have st10 : h.StaysIn h10 := fun b o e => by
        by_cases q : b = 37
        · subst q
          rw [h37] at e
          cases e
          exact (N6 _ (.tail _ (.head _))).1
        · exact F6.keep _ _ (in0 _ _ q e)
      rw [List.size_toArray, ints_len hv, List.take_length] at hws
      refine LCg.ListComp_U (cl := []) F6 (by rfl) (by decide) (by rfl) (by decide) (by rfl) ?_
      k_steps
      refine ConT.use (news := [(lp, PySem.W.listOf ws.toArray n')]) (c_key G (fun b o e => st10 _ _ (hbs _ _ e)) hb37 (tab.keeps st10) (.ref 176)) hA (by decide) F6 (news_pick N6 [1, 0] 2) (off_cons (I := 37) (Ne.symm o6) off_nil) ?_
      intro r11 h11 tk11 F11 N11 hk11 hp11
      refine hide fun G11 hG11 => ?_
      obtain ⟨L', C, rfl, tab11, hK, hcell⟩ := hp11
      refine hG11 ?_
      clear hG11
      k_steps
      refine c_sorted (r := r) (G0.keeps F11.keep) hK hcell ⟨_, N11.get (by k_mem), rfl, _, rfl⟩ hws pok.few (fun x hx => by have := pok.len x hx; rw [sizeLine_eq]; omega) pok.ord pok.inj (hA.le (by decide)) ?_
      intro D h12 tk12 ys st12 hD hys hsb
      refine strs_elim hys fun us nu eD hus => ?_
      clear hys
      have F12 := grow_fr F11 st12
      have tab12 := tab11.keeps st12
      have DL : D ≠ L := fun q => by obtain ⟨o', _, _, ho, _⟩ := F11.ns; rw [q, ho] at hD; cases hD
      have D0 : h₀.get? D = none := by
        cases e' : h₀.get? D with
        | none => rfl
        | some o' => rw [F11.keep _ _ e'] at hD; cases hD
      have mD : (D, ({ cls := .type "list", data := .seq us.toArray nu } : Obj)) ∈ allNews h₀ L h12 := mem_allNews.mpr ⟨DL, D0, eD⟩
      try dsimp only
      refine LCg.CompSrc.ledger rfl F12 allNews_news mD (by rw [List.size_toArray, strs_len hus, hsb.1.length_eq, sizeLine_eq]; exact Nat.le_of_lt (Nat.lt_of_lt_of_le pok.few (by decide))) ?_
      intro g'
      refine rest_ind (PartInv (allNews h₀ L h12) ys) ⟨[], rfl, fun _ _ => .nil⟩ ?_ ?_
      · intro i zs news v' I2 oI2 C2 oC2 D2 m2 h2' tk2 E2 hi hI hv'
        apply PartInv.elim hI
        clear hI
        apply strs_at_el hus hv'
        clear hv'
        intro p u hpi own hzs hC2 hx2 F2 N2 off2 ne2
        have hpl : p.length + 2 ≤ sizeLine := by
          have := pok.len p (hsb.1.mem_iff.mp (List.mem_of_getElem? hpi))
          rw [sizeLine_eq]; omega
        have eS : (ys.take (i + 1)).map partsP = (ys.take i).map partsP ++ [partsP p] := by
          rw [List.take_add_one, hpi, List.map_append]
          rfl
        k_steps
        unfold Halt
        refine LCg.CompEnd.intro F' N' ((D', PySem.W.listOf (strValues l').toArray 0) :: (own ++ allNews h₀ L h12)) ?_ ⟨⟨Nat.ne_of_gt (l1' _ (.head _)), Nat.ne_of_gt (l1' _ (.tail _ (.head _))), Nat.ne_of_gt (l1' _ (.tail _ (.tail _ (.head _))))⟩, off2⟩ (.inr ⟨_, .tail _ (List.mem_append_right _ mD), rfl, _, rfl⟩) ⟨(D', PySem.W.listOf (strValues l').toArray 0) :: own, rfl, fun h3 q => ?_⟩
        · intro p hp
          rcases List.mem_cons.mp hp with rfl | hp
          · exact .tail _ (.head _)
          · rcases List.mem_cons.mp hp with rfl | hp
            · exact .tail _ (.tail _ (.head _))
            · rcases List.mem_cons.mp hp with rfl | hp
              · exact .tail _ (.tail _ (.tail _ (.head _)))
              · rcases List.mem_cons.mp hp with rfl | hp
                · exact .head _
                · exact .tail _ (.tail _ (.tail _ (.tail _ hp)))
        · rw [eS]
          exact RowsAre.snoc ⟨_, _, q _ (.head _), a'⟩ (hzs h3 fun p hp => q p (.tail _ hp))
      · intro zs nw hI
        apply PartInv.elim hI
        clear hI
        intro own hzs D' h' tk' F' N' o1
        have keep := allNews_keep F12 F' (fun p hp => (N' p (.tail _ (List.mem_append_right _ hp))).1)
        rw [List.size_toArray, strs_len hus, List.take_length] at hzs
        exact hret _ _ _ F'.keep ⟨D', ys, rfl, tab12.but F12.ns keep, hsb, zs, zs.length, (N' _ (.head _)).1, hzs h' fun p hp => (N' p (.tail _ (List.mem_append_left _ hp))).1⟩
end
section
open PySem PySem.W PySem.W.X PyProof.Rows PySem.Calls PyProof.V PySem.Spec
theorem er_canLayAll0 : ∀ ns : List Str, (∀ x ∈ ns, PyData.strOk x = true) → PyData.canLayAll0 (ns.map PyData.str) = true
  | [], _ => rfl
  | x :: r, h => by simp [PyData.canLayAll0, PyData.canLay0, h x (.head _), er_canLayAll0 r fun y hy => h y (.tail _ hy)]
theorem er_depthAll : ∀ ns : List Str, PyData.depthAll (ns.map PyData.str) = 0
  | [] => rfl
  | _ :: r => by simp [PyData.depthAll, PyData.depth, er_depthAll r]
theorem er_shaped (ns : List Str) (h : ∀ x ∈ ns, PyData.strOk x = true) : SeqAt.shaped (.list (ns.map PyData.str)) = true := by
  simp [SeqAt.shaped, PyData.canLay0, PyData.depth, er_canLayAll0 ns h, er_depthAll]
theorem er_sameAll : ∀ ns ms : List Str, PySem.Spec.sameAll (ns.map PyData.str) (ms.map PyData.str) = decide (ns = ms)
  | [], [] => by simp [PySem.Spec.sameAll]
  | [], _ :: _ => by simp [PySem.Spec.sameAll]
  | _ :: _, [] => by simp [PySem.Spec.sameAll]
  | a :: r, b :: t => by
    simp only [List.map_cons, PySem.Spec.sameAll, PySem.Spec.same, er_sameAll r t]
    by_cases h : a = b <;> by_cases h' : r = t <;> simp [h, h']
theorem er_carried : ∀ {vs : List Value} {ns : List Str}, StrsAre vs ns → CarriedAll vs (ns.map PyData.str) := by
  intro vs xs x
  induction x with
  | nil => exact .nil
  | cons _ t r ih => exact .cons (.str _ t) ih
section
variable {prog : Program} {w : World} {A : Around} {E : Value → Shared → Prop} {s : Shared} {a b : Addr} {xs ys : List Value} {ns ms : List Str} {Q : Value → Shared → Prop}
theorem eq_rows (ha : s.heap.IsList a xs.toArray) (hb : s.heap.IsList b ys.toArray) (hi : StrsAre xs ns) (hj : StrsAre ys ms) (hn : ∀ x ∈ ns, PyData.strOk x = true) (hm : ∀ x ∈ ms, PyData.strOk x = true) (hu : A.units + 64 < cLine) (h : Q (.bool (decide (ns = ms))) s) :
    wpAny (model prog w) A (compareOp .Eq (.ref a) (.ref b)) Q E s :=
  eq_dataH_same (reads_newData ha (er_carried hi)) (reads_newData hb (er_carried hj)) (er_shaped _ hn) (er_shaped _ hm) hu (SeqAt.noMix_of_shape (.list .str) rfl _ _ (list_map_has fun _ => rfl) (list_map_has fun _ => rfl)) (by
    have e : PySem.Spec.same (.list (ns.map PyData.str)) (.list (ms.map PyData.str)) = decide (ns = ms) := by simp only [PySem.Spec.same]; exact er_sameAll ns ms
    rw [e]; exact h)
end
end
section
open PySem PySem.W PySem.W.X PyProof.Rows PySem.Calls
/-- a raised record with any context -/
structure NewExcG (h h' : Heap) (e : Addr) (cls : String) (c : Value) : Prop where
  keeps : ∀ b o, h.get? b = some o → h'.get? b = some o
  new : h.get? e = none
  there : ∃ ob t, h'.get? e = some ob ∧ ob.cls = .type cls ∧ ob.data = .fields #[t, .none, c, .none, .bool false, .none]
theorem excG {h h' : Heap} {e : Addr} {cls : String} (x : Heap.NewExc h h' e cls) : NewExcG h h' e cls .none := by
  refine hide fun G1 hG1 => ?_
  obtain ⟨a, b, ob, t, c, d, f⟩ := x
  refine hG1 ?_
  clear hG1
  exact ⟨a, b, ob, t, c, d, f⟩
/-- an entry is put ahead of a record; the record's other fields stay -/
theorem entry_f {M : Model} {A : Around} {E : Value → Shared → Prop} {s : Shared} {base : Heap} {env : Env} {outer : List Env} {L e : Addr} {oe : Obj} {vs : Array Value} {head a0 : Value} {hadNext : Bool} {Q : Unit → Shared → Prop}
    (hfr : A.frames = some (env :: outer)) (hl : s.heap.FunFrames base (env :: outer)) (hf : env.frame = some L) (he : s.heap.get? e = some oe) (hkb : base.StaysIn s.heap) (hen : base.get? e = none) (hd : oe.data = .fields vs) (hsz : 1 < vs.size) (h0 : vs[0]? = some a0)
    (h : ∀ h' T, Heap.NotedW base (env :: outer) e oe.cls a0 (rawInt L) s.heap h' → h'.get? e = some (Obj.mapFields (·.setIfInBounds 1 (Value.ref T)) oe) → Q () { s with heap := h' }) :
    wpAny M A (do let a ← frameOf env; let pl ← entryPlaceOf L hadNext; let b ← EntryCells.newEntry head a .none (rawInt L) .none pl; setField (.ref e) 1 b) Q E s := by
  have out : e ∉ (env :: outer).filterMap (·.frame) := fun hm => by
    refine hide fun G2 hG2 => ?_
    obtain ⟨_, o, ho, no⟩ := hl.mem hm
    refine hG2 ?_
    clear hG2
    rw [he] at ho
    cases ho
    exact no vs hd
  refine wpAny_bind (wpAny_frameOf_fun hfr hl hf fun g hs => ?_)
  refine wpAny_bind (wpAny_entryPlaceOf fun pl hpl => ?_)
  unfold EntryCells.newEntry newFields
  refine wpAny_bind (wpAny_newObj_type ?_ (hpl.sizeOk5 _ _ _ _ _))
  generalize hob : ({ cls := .type "traceback", dict := none, data := .fields ([head, .ref L, .none, rawInt L, .none] ++ (if pl.isEmpty then List.replicate 6 Value.none else pl)).toArray } : Obj) = ot
  have hfree : ot.isFreed = false := by subst hob; rfl
  have e1 : g.get? e = some oe := (hs.2.1 e out).trans he
  have e2 := Heap.get?_push_of_some (h := g) ot e1
  have neT : g.objs.size ≠ e := Nat.ne_of_gt (Heap.lt_size e1)
  have e3 := Heap.get?_update_self (Obj.mapFields (·.setIfInBounds 1 (Value.ref g.objs.size))) e2 (Obj.isFreed_of_fields (Obj.data_mapFields hd _))
  have t3 := (Heap.get?_update_other (g.push ot) (Obj.mapFields (·.setIfInBounds 1 (Value.ref g.objs.size))) (Ne.symm neT)).trans (Heap.get?_push_size g hfree)
  have stay : ∀ b o, b ≠ e → g.get? b = some o → ((g.push ot).update e (Obj.mapFields (·.setIfInBounds 1 (Value.ref g.objs.size)))).get? b = some o := fun b o q hb =>
    (Heap.get?_update_other _ _ (Ne.symm q)).trans (Heap.get?_push_of_some _ hb)
  have kb : base.StaysIn g := fun b o q => (hs.2.1 b fun hm => by rw [(hl.mem hm).1] at q; cases q).trans (hkb b o q)
  have off : ∀ b o, s.heap.get? b = some o → (∀ vs, o.data ≠ .fields vs) → b ≠ e := fun b o hb nf q => by
    rw [q, he] at hb
    cases hb
    exact nf vs hd
  refine wpAny_setField e2 hd hsz (h _ g.objs.size ⟨fun b o q => stay b o (fun z => by rw [z, hen] at q; cases q) (kb b o q), hl.of_keeps fun b o hb nf => ?_, ?_, fun b o hb nf => ?_⟩ e3)
  · obtain ⟨sl, q⟩ := hs.2.2 b o hb
    exact ⟨_, stay b _ (off b o hb nf) q, rfl⟩
  · refine ⟨_, _, g.objs.size, ot, _, e3, ⟨Obj.cls_mapFields _ _, by rw [Array.getElem?_setIfInBounds_ne (by decide)]; exact h0⟩, Obj.data_mapFields hd _, by simp [hsz], kb.fresh, neT, t3, by subst hob; rfl, by first | (simp; done) | (rcases hpl with rfl | ⟨_, _, _, _, _, _, _, rfl⟩ <;> simp)⟩
  · obtain ⟨sl, q⟩ := hs.2.2 b o hb
    exact ⟨sl, stay b _ (off b o hb nf) q⟩
section
variable {prog : Program} {w : World} {A₀ : Around} {E : Value → Shared → Prop} {s' : Shared} {h₀ h : Heap} {L a e : Addr} {m : Str → Option Value} {name : Str} {scope : Scope} {cd : Value} {X : String} {new : List (Addr × Obj)} {env : Env} {oL : Obj} {L' : Addr} {c : Value}
theorem noted_g {Q : Unit → Shared → Prop} (hfr : A₀.frames = some [env]) (Fs : TI.Frs [env] [(L, oL)]) (hx : NewExcG h s'.heap e X c) (F : Fr h₀ L' h m) (N : News h₀ L' h (new ++ [(L, oL)])) (hne : ∀ p ∈ new, p.1 ≠ L)
    (k : ∀ h' sl, TI.Frs [env] [(L, { oL with slots := sl })] → TT.HeldN h₀ L' h' m e X (new ++ [(L, { oL with slots := sl })]) → (∃ ob vs, h'.get? e = some ob ∧ ob.data = .fields vs ∧ vs[2]? = some c) → Q () { s' with heap := h' }) (hk : scope.kind = .function := by rfl) :
    wpAny (model prog w) (A₀.deeper (envOf name scope L' a cd)) (noteFrame (.ref e) (envOf name scope L' a cd)) Q E s' := by
  refine hide fun G3 hG3 => ?_
  obtain ⟨ob, tp, he, hcls, hd⟩ := hx.there
  refine hG3 ?_
  clear hG3
  refine hide fun G4 hG4 => ?_
  obtain ⟨hff, hNs, frs₁, SU, ht⟩ := TI.frames_at (name := name) (a := a) (cd := cd) (h' := s'.heap) (base := TI.gone h (L' :: [(L, oL)].map (·.1))) hk Fs F N TI.tail_sub (fun b o hb' => ⟨o.slots, hx.keeps b o hb'⟩) fun b hm => TI.gone_none hm
  refine hG4 ?_
  clear hG4
  unfold noteFrame
  simp only [show (envOf name scope L' a cd).frame = some L' from rfl]
  refine wpAny_bind (wpAny_field he hd (x := .none) rfl ?_)
  rw [if_neg (by decide)]
  refine entry_f (a0 := tp) (Around.frames_deeper hfr) hff rfl he (fun b o eb => hx.keeps b o (TI.gone_some eb).2) (TT.none_of (fun b o eb => (TI.gone_some eb).2) hx.new) hd (by show 1 < 6; decide) rfl fun h' T hN hT => ?_
  refine hide fun G5 hG5 => ?_
  obtain ⟨frs₂, SU₂, Fs₂, H⟩ := TLg.held_of_notedA (X := X) Fs F N (fun p hp hm => by
    rcases List.mem_cons.mp hm with q | hm
    · exact (N p (List.mem_append_left _ hp)).2.1 q
    · exact hne p hp (List.mem_singleton.mp hm)) hNs SU ht hx.new (by rw [← hcls]; exact hN)
  refine hG5 ?_
  clear hG5
  obtain ⟨sl, rfl⟩ := TLg.one_up SU₂
  exact k h' sl Fs₂ H ⟨_, _, hT, Obj.data_mapFields hd _, by simp⟩
end
section
variable {M : Model} {A : Around} {E : Value → Shared → Prop} {s : Shared} {h₀ : Heap} {L a e : Addr} {m : Str → Option Value} {name : Str} {scope : Scope} {cd : Value} {X : String} {news : List (Addr × Obj)}
theorem again_n {Q : Unit → Shared → Prop} (H : TT.HeldN h₀ L s.heap m e X news) (k : Q () s) : wpAny M A (noteFrame (.ref e) (envOf name scope L a cd)) Q E s :=
  noted_again H.held fun _ _ => k
theorem fly_n {fl : Value} {Q : Unit → Shared → Prop} (H : TT.HeldNA h₀ L s.heap m e X news fl) (k : ∀ h', TT.HeldN h₀ L h' m e X news → Q () { s with heap := h' }) :
    wpAny M A (setFlight (.ref e) (envOf name scope L a cd).frame) Q E s := by
  refine hide fun G6 hG6 => ?_
  obtain ⟨⟨F, ⟨ob, vs, tb, otb, tvs, he, hcls, hd, h1, htb, htd, h3, htbL, htbe, htb0⟩, hf⟩, N, hap⟩ := H
  refine hG6 ?_
  clear hG6
  have hsz : 3 < tvs.size := (Array.getElem?_eq_some_iff.mp h3).1
  have happ := hap ob vs tb he hd h1
  refine hide fun G7 hG7 => ?_
  obtain ⟨oL, esL, epL, hL, hLd, hLk, hLf⟩ := F.ns
  refine hG7 ?_
  clear hG7
  unfold setFlight
  refine wpAny_bind (wpAny_field he hd h1 ?_)
  rw [if_pos (show (Value.ref tb != Value.none) = true from by simp)]
  show wpAny M A (setField (.ref tb) 3 (rawInt L)) Q E s
  refine wpAny_setField htb htd hsz ?_
  have he' := (Heap.get?_update_ne s.heap _ _ (Obj.mapFields (·.setIfInBounds 3 (rawInt L))) htbe.symm).trans he
  have F' : Fr h₀ L (s.heap.update tb (Obj.mapFields (·.setIfInBounds 3 (rawInt L)))) m :=
    ⟨⟨oL, esL, epL, (Heap.get?_update_ne _ _ _ _ htbL.symm).trans hL, hLd, hLk, hLf⟩,
     fun b o hb => (Heap.get?_update_ne _ _ _ _ (fun q => by rw [q, htb0] at hb; cases hb)).trans (F.keep b o hb), F.above⟩
  refine k _ ⟨⟨F', ⟨ob, vs, tb, _, _, he', hcls, hd, h1,
    Heap.get?_update_self _ htb (Obj.isFreed_of_fields (Obj.data_mapFields htd _)), Obj.data_mapFields htd _, by simp [Array.getElem?_setIfInBounds, hsz], htbL, htbe, htb0⟩, hf⟩,
    fun p hp => ⟨(Heap.get?_update_ne _ _ _ _ (happ p hp)).trans (N p hp).1, (N p hp).2⟩, ?_⟩
  intro ob' vs' tb' e1 e2 e3 p hp
  rw [he'] at e1
  obtain rfl := Option.some.inj e1
  exact hap ob vs' tb' he e2 e3 p hp
theorem pass_n {α : Type} {what : String} {fl : Value} {Q : α → Shared → Prop} (H : TT.HeldNA h₀ L s.heap m e X news fl) (k : ∀ h', TT.HeldN h₀ L h' m e X news → E (.ref e) { s with heap := h' }) :
    wpAny M A (PySem.passOn what (.ref e) (envOf name scope L a cd)) Q E s := by
  have H' := H
  refine hide fun G8 hG8 => ?_
  obtain ⟨⟨_, ⟨ob, vs, tb, otb, tvs, he, hcls, hd, h1, _⟩, _⟩, _, _⟩ := H
  refine hG8 ?_
  clear hG8
  unfold PySem.passOn
  refine wpAny_bind (wpAny_field he hd h1 ?_)
  rw [if_neg (show ¬ ((Value.ref tb == Value.none) = true) from by simp)]
  first
    | exact wpAny_bind (wpAny_pure (wpAny_bind (fly_n H' fun h' K' => wpAny_throw (k h' K'))))
    | exact wpAny_bind (fly_n H' fun h' K' => wpAny_throw (k h' K'))
/-- the held record and its entry stand in the ledger -/
theorem held_led {h : Heap} {fl : Value} (H : TT.HeldNA h₀ L h m e X news fl) : ∃ ob tb otb vs tvs, ob.cls = .type X ∧ ob.data = .fields vs ∧ vs[1]? = some (.ref tb) ∧ otb.data = .fields tvs ∧ tvs[3]? = some fl ∧ tb ≠ e ∧ News h₀ L h ((e, ob) :: (tb, otb) :: news) ∧ ∀ p ∈ news, p.1 ≠ tb := by
  have ne := H.held.ne
  refine hide fun G9 hG9 => ?_
  obtain ⟨⟨F, ⟨ob, vs, tb, otb, tvs, he, hcls, hd, h1, htb, htd, h3, htbL, htbe, htb0⟩, hf⟩, N, hap⟩ := H
  refine hG9 ?_
  clear hG9
  refine ⟨ob, tb, otb, vs, tvs, hcls, hd, h1, htd, h3, htbe, fun p hp => ?_, hap ob vs tb he hd h1⟩
  rcases List.mem_cons.mp hp with rfl | hp
  · exact ⟨he, ne, hf⟩
  rcases List.mem_cons.mp hp with rfl | hp
  · exact ⟨htb, htbL, htb0⟩
  · exact N p hp
theorem led_held {h : Heap} {m' : Str → Option Value} {fl : Value} {ob otb : Obj} {tb : Addr} {vs tvs : Array Value} {news' : List (Addr × Obj)} (hcls : ob.cls = .type X) (hd : ob.data = .fields vs) (h1 : vs[1]? = some (.ref tb)) (htd : otb.data = .fields tvs) (h3 : tvs[3]? = some fl) (ne : tb ≠ e)
    (F : Fr h₀ L h m') (N : News h₀ L h ((e, ob) :: (tb, otb) :: news')) (ap : ∀ p ∈ news', p.1 ≠ tb) : TT.HeldNA h₀ L h m' e X news' fl := by
  have n1 := N _ (.head _)
  have n2 := N _ (.tail _ (.head _))
  refine ⟨⟨F, ⟨ob, vs, tb, otb, tvs, n1.1, hcls, hd, h1, n2.1, htd, h3, n2.2.1, ne, n2.2.2⟩, n1.2.2⟩, fun p hp => N p (.tail _ (.tail _ hp)), ?_⟩
  intro ob' vs' tb' e1 e2 e3 p hp
  rw [n1.1] at e1
  obtain rfl := Option.some.inj e1
  rw [hd] at e2
  injection e2 with e2
  subst e2
  rw [h1] at e3
  injection e3 with e3
  injection e3 with e3
  subst e3
  exact ap p hp
end
section
variable {prog : Program} {w : World} {A : Around} {E : Value → Shared → Prop} {s : Shared} {env : Env}
theorem skip_while {test : Expr} {body : List Stmt} {pos : Pos} {Q : Flow → Shared → Prop} (hE : PassesOwn (model prog w) A env E)
    (h : wpAny (model prog w) A (isTrue test env (eval test env)) (fun b s₂ => b = false ∧ Q .next s₂) E s) : wpAny (model prog w) A (exec (.While test body [] pos) env) Q E s :=
  whl_start 1 (whl_turn hE (wpAny_mono h (fun _ _ x => WhlIf.no x.1 (wpAny_execs_nil x.2)) fun _ _ x => x))
end
end
section
open PySem PySem.W PySem.W.X PyProof.Rows PySem.Calls
theorem entry_unchain : entryFor table "proto.unchain" = some Builtin.«proto.unchain» := entryFor_of_fast (by kernel_rfl)
/-- what a raise finds: nothing handled, or a record without context -/
noncomputable def NoChain (A : Around) (h : Heap) : Prop := A.handled = none ∨ ∃ e o vs, A.handled = some (.ref e) ∧ h.get? e = some o ∧ o.data = .fields vs ∧ vs[2]? = some .none
section
variable {α : Type} {prog : Program} {w : World} {A : Around} {E : Value → Shared → Prop} {s : Shared}
theorem raiseNew_g {h : Heap} {n : Addr} {ob : Obj} {t : Value} {cls : String} {Q : α → Shared → Prop} (hc : NoChain A h) (hk : ∀ b o, h.get? b = some o → s.heap.get? b = some o) (hn : h.get? n = none)
    (ho : s.heap.get? n = some ob) (hcl : ob.cls = .type cls) (hd : ob.data = .fields #[t, .none, .none, .none, .bool false, .none])
    (hE : ∀ h', NewExcG h h' n cls (A.handled.getD .none) → E (.ref n) { s with heap := h' }) : wpAny (model prog w) A (raiseNew (.ref n) : Sem α) Q E s := by
  unfold raiseNew
  refine wpAny_bind (wpAny_handled ?_)
  rcases hc with hh | ⟨e, o, vs, hh, he, hde, h2⟩
  · rw [hh]
    first
      | exact wpAny_throw (hE _ ⟨hk, hn, ob, t, ho, hcl, by rw [hh]; exact hd⟩)
      | exact wpAny_bind (wpAny_pure (wpAny_throw (hE _ ⟨hk, hn, ob, t, ho, hcl, by rw [hh]; exact hd⟩)))
  · rw [hh]
    have ne : (Value.ref e != Value.ref n) = true := by
      have : e ≠ n := fun q => by rw [q, hn] at he; cases he
      simpa using this
    dsimp only
    rw [if_pos ne]
    have fin : wpAny (model prog w) A (updateField n 2 (.ref e)) (fun _ s' => wpAny (model prog w) A (throw (.ref n) : Sem α) Q E s') E s := by
      show wpAny _ _ (setField (.ref n) 2 (.ref e)) _ _ _
      refine wpAny_setField ho hd (by show 2 < 6; decide) (wpAny_throw (hE _ ⟨fun b o' hb => ?_, hn, _, t, Heap.get?_update_self _ ho (Obj.isFreed_of_fields (Obj.data_mapFields hd _)), (Obj.cls_mapFields _ _).trans hcl, (Obj.data_mapFields hd _).trans (by rw [hh]; simp)⟩))
      exact (Heap.get?_update_ne _ _ _ _ (fun q => by rw [q, hn] at hb; cases hb)).trans (hk _ _ hb)
    have un : ∀ Q' : Value → Shared → Prop, Q' .none s → wpAny (model prog w) A (runValue (.builtin "proto.unchain" ⟨[.ref n, .ref e, .ref e, .bool false], []⟩)) Q' E s := fun Q' q => by
      refine wpAny_runValue (codeAny_builtin entry_unchain ?_)
      unfold Builtin.«proto.unchain»
      dsimp only
      refine wpAny_bind (wpAny_field (hk _ _ he) hde h2 ?_)
      rw [if_pos (by decide)]
      first
        | exact wpAny_pure q
        | exact wpAny_bind (wpAny_pure (wpAny_pure q))
        | exact wpAny_bind (wpAny_pure q)
        | (unfold ret; exact wpAny_bind (wpAny_pure (wpAny_pure q)))
        | (unfold ret; exact wpAny_pure q)
    first
      | exact wpAny_bind (wpAny_bind (wpAny_holding (un _ fin)))
      | exact wpAny_bind (wpAny_holding (un _ (wpAny_bind fin)))
      | exact wpAny_bind (wpAny_bind (wpAny_holding (un _ (wpAny_bind fin))))
theorem raise_gW {cls msg : String} {Q : α → Shared → Prop} (hp : PlainExc cls) (hc : NoChain A s.heap)
    (h : ∀ h' tk e, NewExcG s.heap h' e cls (A.handled.getD .none) → E (.ref e) { s with heap := h', toks := tk }) : wpAny (model prog w) A (raiseErrorWords cls msg : Sem α) Q E s := by
  unfold raiseErrorWords
  refine wpAny_bind (wpAny_mkText (wpAny_bind ?_))
  unfold newExc newTuple
  refine wpAny_bind (wpAny_newObj_type ?_)
  refine wpAny_bind (m := firstArgMember _ _) (wpAny_of_eq (a := Value.none) (by simp only [firstArgMember, hp.first]; rfl) ?_)
  rw [hp.own]
  refine wpAny_newObj_type ?_
  exact raiseNew_g (t := .ref s.heap.objs.size) (cls := cls) hc (fun b o hb => Heap.get?_push_of_some _ (Heap.get?_push_of_some _ hb)) (Heap.get?_none_of_le (by simp)) (Heap.get?_push_size _ rfl) rfl (by simp) fun h' x => h _ _ _ x
theorem raise_gM {cls msg : String} {Q : α → Shared → Prop} (hp : PlainExc cls) (hc : NoChain A s.heap)
    (h : ∀ h' tk e, NewExcG s.heap h' e cls (A.handled.getD .none) → E (.ref e) { s with heap := h', toks := tk }) (hm : (msg : Str).length ≤ sizeLine := by size_fits) : wpAny (model prog w) A (raiseErrorMade cls msg : Sem α) Q E s := by
  unfold raiseErrorMade
  refine wpAny_bind (wpAny_mkStr (wpAny_bind ?_) hm)
  unfold newExc newTuple
  refine wpAny_bind (wpAny_newObj_type ?_)
  refine wpAny_bind (m := firstArgMember _ _) (wpAny_of_eq (a := Value.none) (by simp only [firstArgMember, hp.first]; rfl) ?_)
  rw [hp.own]
  refine wpAny_newObj_type ?_
  exact raiseNew_g (t := .ref s.heap.objs.size) (cls := cls) hc (fun b o hb => Heap.get?_push_of_some _ (Heap.get?_push_of_some _ hb)) (Heap.get?_none_of_le (by simp)) (Heap.get?_push_size _ rfl) rfl (by simp) fun h' x => h _ _ _ x
theorem getItem_out {l : Addr} {items : Array Value} {k : Int} {t : Tok} {Q : Value → Shared → Prop} (hc : NoChain A s.heap) (hl : s.heap.IsList l items)
    (h0 : 0 ≤ k) (hout : (items.size : Int) ≤ k) (hhi : k < 2 ^ 63)
    (hE : ∀ h' tk e, NewExcG s.heap h' e "IndexError" (A.handled.getD .none) → E (.ref e) { s with heap := h', toks := tk }) :
    wpAny (model prog w) A (getItem (.ref l) (.int k t)) Q E s := by
  refine hide fun G1 hG1 => ?_
  obtain ⟨o, ho, hco, ne, hd⟩ := id hl
  refine hG1 ?_
  clear hG1
  unfold getItem
  try with_reducible refine wpAny_holding ?_
  first | refine wpAny_bind (wpAny_pure ?_) | skip
  refine wpAny_bind (wpAny_sequenceKey hl.typeIs (by decide) ?_)
  refine wpAny_bind (wpAny_callSpecial?_slot (name := Str.ofString "__getitem__") hl.typeIs slot_list_getitem
    (wpAny_call_entry slot_list_getitem hl.typeIs entry_list_getitem ?_ (args_list_getitem _ _)))
  show wpAny _ _ (Builtin.List.listSubscript? (.int k t) >>= _) _ _ s
  refine wpAny_bind (wpAny_listSubscript_int (fitsIndex_both (by omega) hhi) ?_)
  clear hhi
  cases k with
  | negSucc j => exact absurd h0 (by have := Int.negSucc_lt_zero j; omega)
  | ofNat j =>
    have hx : items[j]? = none := Array.getElem?_eq_none (by have : (items.size : Int) ≤ (j : Int) := hout; omega)
    show wpAny _ _ ((seqItemAt l j >>= fun r => pure (r.map (j, ·))) >>= _) _ _ s
    refine wpAny_bind (wpAny_bind (wpAny_seqItemAt ho hd (wpAny_pure ?_)))
    rw [hx]
    first
      | exact wpAny_bind (wpAny_rule (raise_gW plainExc_IndexError hc hE))
      | exact wpAny_bind (wpAny_rule (wpAny_bind (raise_gW plainExc_IndexError hc hE)))
      | exact wpAny_bind (wpAny_bind (wpAny_rule (raise_gW plainExc_IndexError hc hE)))
      | exact wpAny_rule (raise_gW plainExc_IndexError hc hE)
      | exact wpAny_bind (wpAny_rule (raise_gM plainExc_IndexError hc hE))
      | exact wpAny_bind (wpAny_rule (wpAny_bind (raise_gM plainExc_IndexError hc hE)))
      | exact wpAny_bind (wpAny_bind (wpAny_rule (raise_gM plainExc_IndexError hc hE)))
      | exact wpAny_rule (raise_gM plainExc_IndexError hc hE)
theorem item_outG {value slice : PySem.Expr} {l : Addr} {items : Array Value} {k : Int} {u : Tok} {Q : Value → Shared → Prop} (hc : NoChain A s.heap) (hl : s.heap.IsList l items)
    (h0 : 0 ≤ k) (hout : (items.size : Int) ≤ k) (hhi : k < 2 ^ 63)
    (hE : ∀ h' tk e, NewExcG s.heap h' e "IndexError" (A.handled.getD .none) → E (.ref e) { s with heap := h', toks := tk })
    (hs : subscripted slice false (.ref l) (.int k u) = operate [.ref l, .int k u] (getItem (.ref l) (.int k u)) := by with_unfolding_all rfl) :
    wpAny (model prog w) A (subscriptTail value slice (.ref l) (.int k u)) Q E s :=
  tail_any hl.typeIs slot_list_getitem.lookup (getItem_out hc hl h0 hout hhi hE) hs
end
end
section
open PySem PySem.W PySem.W.X PyProof.Rows PySem.Calls
theorem fill11 (P : Params) (h : Heap) : PySem.Challenge.rw_ik0057_01 = PySem.Challenge.rw_ik0057_01 → (KM P).In h → (KM P).In h := by
  k_fill
  intro _ X
  exact X
theorem ent28 (P : Params) : (KM P).lookup 28 = some ⟨.type "function", none, .func (fnOf (Str.ofString "sorted_list_difference") (Str.ofString "sorted_list_difference") (dParams (stAt 2)) (dBody (stAt 2)) (dScope (stAt 2)) .none .none .none (.str (Str.ofString "cpy313.unittest.util") 194) none (.ref 27) .none), #[]⟩ := by kernel_rfl
/-- what the two rows of rows tell -/
inductive Diff : List (List Str) → List (List Str) → List (List Str) → List (List Str) → Prop
  | nilL (as) : Diff [] as [] as
  | nilR (es) : Diff es [] es []
  | lt {e a es as ms us} : ltR e a = true → Diff es (a :: as) ms us → Diff (e :: es) (a :: as) (e :: ms) us
  | gt {e a es as ms us} : ltR e a = false → ltR a e = true → Diff (e :: es) as ms us → Diff (e :: es) (a :: as) ms (a :: us)
  | eq {e a es as ms us} : ltR e a = false → ltR a e = false → Diff es as ms us → Diff (e :: es) (a :: as) ms us
noncomputable def wBody : Stmt → List Stmt | .While _ b _ _ => b | _ => []
noncomputable def tBody : Stmt → List Stmt | .Try b _ _ _ _ => b | _ => []
noncomputable def tHand : Stmt → List ExceptHandler | .Try _ b _ _ _ => b | _ => []
noncomputable def sWhile : Stmt := (dBody (stAt 2))[3]?.getD (.Pass ⟨0, 0, 0, 0⟩)
noncomputable def sTry : Stmt := (wBody sWhile)[0]?.getD (.Pass ⟨0, 0, 0, 0⟩)
noncomputable abbrev sEnv (L : Addr) : Env := envOf (Str.ofString "sorted_list_difference") (dScope (stAt 2)) L 28 (.ref 27)
noncomputable def sMap (a1 a2 lm lu : Addr) (i j : Nat) (ti tj : Tok) (m : Str → Option Value) : Str → Option Value := fun y =>
  if y = Str.ofString "i" then some (.int i ti) else if y = Str.ofString "j" then some (.int j tj) else if y = Str.ofString "expected" then some (.ref a1) else if y = Str.ofString "actual" then some (.ref a2)
  else if y = Str.ofString "missing" then some (.ref lm) else if y = Str.ofString "unexpected" then some (.ref lu) else m y
/-- reading a row of rows, in or out of range -/
theorem item_row {w : World} {A : Around} {hb : Heap} {L a1 : Addr} {vs : List Value} {n1 : Nat} {es : List (List Str)} {s : Shared} {m : Str → Option Value} {value slice : PySem.Expr} {k : Int} {i : Nat} {u : Tok} {Q E : Value → Shared → Prop}
   (h1 : hb.get? a1 = some { cls := .type "list", dict := none, data := .seq vs.toArray n1, slots := #[] }) (hv : RowsAre hb vs es) (he : es.length ≤ 1000) (F : Fr hb L s.heap m) (hc : NoChain A s.heap) (hk : k = i) (hi : i ≤ 1001)
   (yes : ∀ b row, es[i]? = some row → IsStrs hb b row → Q (.ref b) s) (no : es.length ≤ i → ∀ h' tk e, NewExcG s.heap h' e "IndexError" (A.handled.getD .none) → E (.ref e) { s with heap := h', toks := tk })
    (hs : subscripted slice false (.ref a1) (.int k u) = operate [.ref a1, .int k u] (getItem (.ref a1) (.int k u)) := by with_unfolding_all rfl) (hg : ∀ r, letTemporaryGo value (.ref a1) r = pure () := by intro _; with_unfolding_all rfl) :
    wpAny (model RP w) A (subscriptTail value slice (.ref a1) (.int k u)) Q E s := by
  have hl : s.heap.IsList a1 vs.toArray := ⟨_, F.keep _ _ h1, rfl, _, rfl⟩
  have hlen := hv.length
  subst hk
  rcases hv.at i with ⟨e1, e2⟩ | ⟨b, row, e1, e2, hr⟩
  · have hle : es.length ≤ i := List.getElem?_eq_none_iff.mp e2
    exact item_outG hc hl (Int.natCast_nonneg _) (by simp only [List.size_toArray]; omega) (by omega) (no hle) hs
  · exact item_listL hl (Int.natCast_nonneg _) (by omega) (by simpa using e1) (yes _ _ e2 hr) hs hg
/-- the pure state -/
noncomputable def Pst (es as : List (List Str)) (i j : Nat) (ms ns : List (List Str)) : Prop := ∀ m' u', Diff (es.drop i) (as.drop j) m' u' → Diff es as (ms ++ m') (ns ++ u')
theorem Pst.lt {es as ms ns : List (List Str)} {i j : Nat} {e a : List Str} (he : es[i]? = some e) (ha : as[j]? = some a) (h : ltR e a = true) (p : Pst es as i j ms ns) : Pst es as (i + 1) j (ms ++ [e]) ns := fun m' u' x => by
  have z := p (e :: m') u' (by rw [drop_some he, drop_some ha]; exact .lt h (by rw [← drop_some ha]; exact x))
  simpa using z
theorem Pst.gt {es as ms ns : List (List Str)} {i j : Nat} {e a : List Str} (he : es[i]? = some e) (ha : as[j]? = some a) (h : ltR e a = false) (h' : ltR a e = true) (p : Pst es as i j ms ns) : Pst es as i (j + 1) ms (ns ++ [a]) := fun m' u' x => by
  have z := p m' (a :: u') (by rw [drop_some he, drop_some ha]; exact .gt h h' (by rw [← drop_some he]; exact x))
  simpa using z
theorem Pst.eq {es as ms ns : List (List Str)} {i j : Nat} {e a : List Str} (he : es[i]? = some e) (ha : as[j]? = some a) (h : ltR e a = false) (h' : ltR a e = false) (p : Pst es as i j ms ns) : Pst es as (i + 1) (j + 1) ms ns := fun m' u' x => by
  exact p m' u' (by rw [drop_some he, drop_some ha]; exact .eq h h' x)
theorem nodup_next {es : List (List Str)} (hn : es.Nodup) {i : Nat} {e e' : List Str} (he : es[i]? = some e) (he' : es[i + 1]? = some e') : e' ≠ e := fun q => by
  subst q
  obtain ⟨l1, r1⟩ := List.getElem?_eq_some_iff.mp he
  obtain ⟨l2, r2⟩ := List.getElem?_eq_some_iff.mp he'
  exact (List.pairwise_iff_getElem.mp hn) i (i + 1) l1 l2 (Nat.lt_succ_self _) (by rw [r1, r2])
structure SSt (hb : Heap) (a1 a2 lm lu L0 : Addr) (oL : Obj) (es as : List (List Str)) (i j : Nat) (m : Str → Option Value) (news : List (Addr × Obj)) : Prop where
  hi : i ≤ es.length
  hj : j ≤ as.length
  map : ∃ ti tj, ∀ z, m z = sMap a1 a2 lm lu i j ti tj m z
  led : ∃ nm nu wm wu sl ms ns, news = [(lm, PySem.W.listOf wm.toArray nm), (lu, PySem.W.listOf wu.toArray nu), (L0, { oL with slots := sl })] ∧ RowsAre hb wm ms ∧ RowsAre hb wu ns ∧ (wm.length ≤ i ∧ wu.length ≤ j) ∧ Pst es as i j ms ns
theorem sMap_self {a1 a2 lm lu : Addr} {i j : Nat} {ti tj : Tok} {m : Str → Option Value} (e1 : m (Str.ofString "i") = some (.int i ti)) (e2 : m (Str.ofString "j") = some (.int j tj)) (e3 : m (Str.ofString "expected") = some (.ref a1)) (e4 : m (Str.ofString "actual") = some (.ref a2)) (e5 : m (Str.ofString "missing") = some (.ref lm)) (e6 : m (Str.ofString "unexpected") = some (.ref lu)) :
    ∃ ti tj, ∀ z, m z = sMap a1 a2 lm lu i j ti tj m z := ⟨ti, tj, fun z => by
  unfold sMap
  split
  · rename_i q; rw [q, e1]
  split
  · rename_i q; rw [q, e2]
  split
  · rename_i q; rw [q, e3]
  split
  · rename_i q; rw [q, e4]
  split
  · rename_i q; rw [q, e5]
  split
  · rename_i q; rw [q, e6]
  · rfl⟩
set_option hygiene false in
local macro_rules | `(tactic| walk_at "exec While Compare") => `(tactic| (refine here ?_))
set_option hygiene false in
local macro_rules | `(tactic| walk_at "compareOp") => `(tactic| (refine here ?_))
set_option hygiene false in
local macro_rules | `(tactic| walk_at "subscriptTail Name Name ref int") => `(tactic| (refine here ?_))
set_option hygiene false in
local macro_rules | `(tactic| walk_at "subscriptTail") => `(tactic| (refine here ?_))
set_option hygiene false in
local macro_rules | `(tactic| walk_at "exec While") => `(tactic| (refine here ?_))
set_option hygiene false in
local macro_rules | `(tactic| walk_at "exec Try cons nil") => `(tactic| (refine here ?_))
noncomputable def tFin : Stmt → List Stmt | .Try _ _ _ b _ => b | _ => []
noncomputable def ifElse : Stmt → List Stmt | .If _ _ b _ => b | _ => []
noncomputable def sTry2 : Stmt := (ifElse ((ifElse ((tBody sTry)[2]?.getD (.Pass ⟨0, 0, 0, 0⟩)))[0]?.getD (.Pass ⟨0, 0, 0, 0⟩)))[1]?.getD (.Pass ⟨0, 0, 0, 0⟩)
theorem sld_fin {w : World} {mg mb : Str → Option Value} {hb : Heap} (G : Gd w mg mb hb) {a2 b L : Addr} {us : List Value} {n2 : Nat} {as : List (List Str)}
   (h2 : hb.get? a2 = some { cls := .type "list", dict := none, data := .seq us.toArray n2, slots := #[] })
   (hu : RowsAre hb us as) (hl : as.length ≤ 1000) (hok : ∀ row ∈ as, ∀ x ∈ row, PyData.strOk x = true) (hn : as.Nodup) {A : Around} {g : Array GenState} {d : Drawn} {os : OsState} (hA : A.units + 64 < cLine) {E : Value → Shared → Prop} {Q : Flow → Shared → Prop}
   {h : Heap} {tk : Nat} {m : Str → Option Value} {j : Nat} {tj : Tok} {a : List Str} {news : List (Addr × Obj)} (hj : as[j]? = some a) (hb2 : IsStrs hb b a)
   (hc : ∀ h' : Heap, (∀ p ∈ news, h'.get? p.1 = some p.2) → NoChain A h')
   (F : Fr hb L h (fun y => if y = Str.ofString "j" then some (.int j tj) else if y = Str.ofString "actual" then some (.ref a2) else if y = Str.ofString "a" then some (.ref b) else m y)) (N : News hb L h news)
   (pE : PassesOwn (model RP w) A (sEnv L) E)
   (yes : ∀ h' tk' t, Fr hb L h' (fun y => if y = Str.ofString "j" then some (.int ((j : Int) + 1) t) else if y = Str.ofString "j" then some (.int j tj) else if y = Str.ofString "actual" then some (.ref a2) else if y = Str.ofString "a" then some (.ref b) else m y) → News hb L h' news → j + 1 ≤ as.length → Q .next ⟨h', g, d, tk', os⟩)
   (no : ∀ h' h'' tk' t e, Fr hb L h' (fun y => if y = Str.ofString "j" then some (.int ((j : Int) + 1) t) else if y = Str.ofString "j" then some (.int j tj) else if y = Str.ofString "actual" then some (.ref a2) else if y = Str.ofString "a" then some (.ref b) else m y) → News hb L h' news → as.length ≤ j + 1 → NewExcG h' h'' e "IndexError" (A.handled.getD .none) → E (.ref e) ⟨h'', g, d, tk', os⟩) :
   wpAny (model RP w) A (execs (tFin sTry2) (sEnv L)) Q E ⟨h, g, d, tk, os⟩ := by
    conv => arg 3; arg 1; whnf
    have T := G.T
    have X := G.K
    k_steps
    rename Fr _ _ _ _ => F1
    rename News _ _ _ _ => N1
    refine there ?_
    have hlt : j < as.length := (List.getElem?_eq_some_iff.mp hj).1
    refine skip_while pE ?_
    k_steps
    refine there ?_
    refine item_row h2 hu hl F1 (hc _ fun p hp => (N1 p hp).1) (i := j + 1) (Int.natCast_succ j).symm (by omega) ?_ ?_
    · intro b' row e' hr'
      k_steps
      refine there ?_
      refine hide fun G1 hG1 => ?_
      obtain ⟨zs, nz, hz, hzs⟩ := hb2
      refine hG1 ?_
      clear hG1
      refine hide fun G2 hG2 => ?_
      obtain ⟨ys, ny, hy, hys⟩ := hr'
      refine hG2 ?_
      clear hG2
      refine eq_rows ⟨_, F1.keep _ _ hy, rfl, _, rfl⟩ ⟨_, F1.keep _ _ hz, rfl, _, rfl⟩ hys hzs (hok _ (List.mem_of_getElem? e')) (hok _ (List.mem_of_getElem? hj)) hA ?_
      rw [decide_eq_false (nodup_next hn hj e')]
      k_steps
      exact yes _ _ _ F1 N1 hlt
    · intro hle h'' tk'' e'' hx
      exact no _ _ _ _ _ F1 N1 hle hx
end
section
open PySem PySem.W PySem.W.X PyProof.Rows PySem.Calls
set_option hygiene false in
local macro_rules | `(tactic| walk_at "exec While Compare") => `(tactic| (refine here ?_))
set_option hygiene false in
local macro_rules | `(tactic| walk_at "compareOp") => `(tactic| (refine here ?_))
set_option hygiene false in
local macro_rules | `(tactic| walk_at "subscriptTail Name Name ref int") => `(tactic| (refine here ?_))
set_option hygiene false in
local macro_rules | `(tactic| walk_at "subscriptTail") => `(tactic| (refine here ?_))
set_option hygiene false in
local macro_rules | `(tactic| walk_at "exec While") => `(tactic| (refine here ?_))
set_option hygiene false in
local macro_rules | `(tactic| walk_at "exec Try cons nil") => `(tactic| (refine here ?_))
set_option hygiene false in
local macro_rules | `(tactic| walk_at "call builtin:list.append") => `(tactic| (k_here; (refine' append_snoc ?F ?N ?U ?z ?_; (case F => k_asm); (case N => k_asm); (case U => k_upd); (case z => omega)); intro h' F' N'))
noncomputable def fMap (a2 b : Addr) (j : Nat) (tj : Tok) (m : Str → Option Value) : Str → Option Value := fun y => if y = Str.ofString "j" then some (.int j tj) else if y = Str.ofString "actual" then some (.ref a2) else if y = Str.ofString "a" then some (.ref b) else m y
theorem fMap_self {a2 b : Addr} {j : Nat} {tj : Tok} {m : Str → Option Value} (e1 : m (Str.ofString "j") = some (.int j tj)) (e2 : m (Str.ofString "actual") = some (.ref a2)) (e3 : m (Str.ofString "a") = some (.ref b)) : ∀ z, m z = fMap a2 b j tj m z := fun z => by
  unfold fMap
  split
  · rename_i q; rw [q, e1]
  split
  · rename_i q; rw [q, e2]
  split
  · rename_i q; rw [q, e3]
  rfl
theorem _root_.PyProof.Rows.TT.HeldNA.self {h₀ h : Heap} {L e : Addr} {m : Str → Option Value} {X : String} {news : List (Addr × Obj)} {fl : Value} {ob : Obj} (H : TT.HeldNA h₀ L h m e X news fl) (ho : h.get? e = some ob) : TT.HeldNA h₀ L h m e X ((e, ob) :: news) fl := by
  refine hide fun G1 hG1 => ?_
  obtain ⟨o7, tb, otb, xs, ts, c1, c2, c3, c4, c5, c7, N7, ap7⟩ := held_led H
  refine hG1 ?_
  clear hG1
  have e0 := (N7 _ (.head _)).1
  rw [ho] at e0
  cases e0
  refine led_held c1 c2 c3 c4 c5 c7 H.held.fr (fun p hp => N7 p ?_) (fun p hp => ?_)
  · rcases List.mem_cons.mp hp with q | hp
    · rw [q]; exact .head _
    rcases List.mem_cons.mp hp with q | hp
    · rw [q]; exact .tail _ (.head _)
    rcases List.mem_cons.mp hp with q | hp
    · rw [q]; exact .head _
    · exact .tail _ (.tail _ hp)
  · rcases List.mem_cons.mp hp with q | hp
    · rw [q]; exact Ne.symm c7
    · exact ap7 p hp
theorem skip_mid {prog : Program} {w : World} {A : Around} {E : Value → Shared → Prop} {s : Shared} {env : Env} {test : Expr} {body : List Stmt} {pos : Pos} {Q : Flow → Shared → Prop} (hE : PassesOwn (model prog w) A env E)
    (h : wpAny (model prog w) A (isTrue test env (eval test env)) (fun b s₂ => b = false ∧ ∃ tk, s₂ = { s with toks := tk }) E s) (q : ∀ tk, Q .next { s with toks := tk }) : wpAny (model prog w) A (exec (.While test body [] pos) env) Q E s :=
  skip_while hE (wpAny_mono h (fun b s₂ x => ⟨x.1, by obtain ⟨_, tk, rfl⟩ := x; exact q tk⟩) fun _ _ x => x)
theorem to_room {i a : Nat} (h : i ≤ a) (h2 : a ≤ 1000) : i ≤ 1001 := Nat.le_succ_of_le (Nat.le_trans h h2)
theorem step_both (i j : Nat) : i + j < i + 1 + (j + 1) := by omega
theorem step_one (i j : Nat) : i + j < i + 1 + j := by omega
theorem snoc_le {ws : List Value} {v : Value} {i : Nat} (h : ws.length ≤ i) : (ws ++ [v]).length ≤ i + 1 := by rw [List.length_append]; exact Nat.succ_le_succ h
theorem fits_room {k : Nat} {A : Around} (f : Fits k A) : A.units + 64 < cLine := by have := f.units; show _ < 9900; omega
set_option maxHeartbeats 1000000 in
theorem sld_turn {w : World} {mg mb : Str → Option Value} {hb : Heap} (G : Gd w mg mb hb) {a1 a2 lm lu L L0 : Addr} {oL : Obj} {vs us : List Value} {n1 n2 : Nat} {es as : List (List Str)}
   (h1 : hb.get? a1 = some { cls := .type "list", dict := none, data := .seq vs.toArray n1, slots := #[] }) (h2 : hb.get? a2 = some { cls := .type "list", dict := none, data := .seq us.toArray n2, slots := #[] })
   (hv : RowsAre hb vs es) (hu : RowsAre hb us as) (hes : es.length ≤ 1000) (has : as.length ≤ 1000) (oke : ∀ row ∈ es, ∀ x ∈ row, PyData.strOk x = true) (oka : ∀ row ∈ as, ∀ x ∈ row, PyData.strOk x = true) (hne : es.Nodup) (hna : as.Nodup)
   {A₀ : Around} {env0 : Env} (hfr : A₀.frames = some [env0]) (Fs : TI.Frs [env0] [(L0, oL)]) {g : Array GenState} {d : Drawn} {os : OsState} (hA : Fits 1 (A₀.deeper (sEnv L))) {E0 : Value → Shared → Prop} {Q : Flow → Shared → Prop}
   {h : Heap} {tk : Nat} {m : Str → Option Value} {i j : Nat} {news : List (Addr × Obj)}
   (F : Fr hb L h m) (N : News hb L h news) (st : SSt hb a1 a2 lm lu L0 oL es as i j m news) (o1 : @Ne Nat lm lu) (o2 : @Ne Nat lm L0) (o3 : @Ne Nat lu L0)
   (p1 : PassesOwn (model RP w) (A₀.deeper (sEnv L)) (sEnv L) E0) (p2 : ∀ e, PassesOwnAt (model RP w) ((A₀.deeper (sEnv L)).mark (some e)) (A₀.deeper (sEnv L)) (sEnv L) E0) (p3 : ∀ e, PassesOwn (model RP w) ((A₀.deeper (sEnv L)).mark (some e)) (sEnv L) E0)
   (thrown : ∀ h' h'' m' news' i' j' e tk' c, Fr hb L h' m' → News hb L h' news' → SSt hb a1 a2 lm lu L0 oL es as i' j' m' news' → (es.length ≤ i' ∨ as.length ≤ j') → NewExcG h' h'' e "IndexError" c → E0 (.ref e) ⟨h'', g, d, tk', os⟩)
   (held : ∀ h' m' news' i' j' e tk', TT.HeldN hb L h' m' e "IndexError" news' → SSt hb a1 a2 lm lu L0 oL es as i' j' m' news' → (es.length ≤ i' ∨ as.length ≤ j') → E0 (.ref e) ⟨h', g, d, tk', os⟩)
   (next : ∀ h' m' news' i' j' tk', Fr hb L h' m' → News hb L h' news' → SSt hb a1 a2 lm lu L0 oL es as i' j' m' news' → i + j < i' + j' → Q .next ⟨h', g, d, tk', os⟩) :
   wpAny (model RP w) (A₀.deeper (sEnv L)) (execs (tBody sTry) (sEnv L)) Q E0 ⟨h, g, d, tk, os⟩ := by
    conv => arg 3; arg 1; whnf
    refine hide fun G2 hG2 => ?_
    obtain ⟨hd', dp', fr', gu', un'⟩ := A₀
    refine hG2 ?_
    clear hG2
    obtain rfl : hd' = none := hA.handled
    have T := G.T
    have X := G.K
    have o4 : @Ne Nat lu lm := Ne.symm o1
    have o5 : @Ne Nat L0 lm := Ne.symm o2
    have o6 : @Ne Nat L0 lu := Ne.symm o3
    refine hide fun G3 hG3 => ?_
    obtain ⟨hi, hj, ⟨ti, tj, hm⟩, nm, nu, wm, wu, sl, ms, ns, rfl, hwm, hwu, hlen, hP⟩ := st
    refine hG3 ?_
    clear hG3
    replace F := fr_eqm F hm
    clear hm
    unfold sMap at F
    k_steps
    refine there ?_
    refine item_row h1 hv hes F (.inl rfl) rfl (to_room hi hes) ?_ fun hle h'' tk'' e'' hx => thrown _ _ _ _ i j _ _ _ F N ⟨hi, hj, sMap_self rfl rfl rfl rfl rfl rfl, _, _, _, _, _, _, _, rfl, hwm, hwu, hlen, hP⟩ (.inl hle) hx
    intro b1 e1 he1 hr1
    k_steps
    refine there ?_
    rename Fr _ _ _ _ => F2
    rename News _ _ _ _ => N2
    refine item_row h2 hu has F2 (.inl rfl) rfl (to_room hj has) ?_ fun hle h'' tk'' e'' hx => thrown _ _ _ _ i j _ _ _ F2 N2 ⟨hi, hj, sMap_self rfl rfl rfl rfl rfl rfl, _, _, _, _, _, _, _, rfl, hwm, hwu, hlen, hP⟩ (.inr hle) hx
    intro b2 e2 he2 hr2
    have hr1' := hr1
    have hr2' := hr2
    refine hide fun G4 hG4 => ?_
    obtain ⟨zs, nz, hz, hzs⟩ := hr1'
    refine hG4 ?_
    clear hG4
    refine hide fun G5 hG5 => ?_
    obtain ⟨ys, ny, hy, hys⟩ := hr2'
    refine hG5 ?_
    clear hG5
    k_steps
    refine there ?_
    rename Fr _ _ _ _ => F3
    rename News _ _ _ _ => N3
    refine cmp_lt_rows (F3.keep _ _ hz) (F3.keep _ _ hy) hzs hys hA.cl ?_
    have hil : i < es.length := (List.getElem?_eq_some_iff.mp he1).1
    have hjl : j < as.length := (List.getElem?_eq_some_iff.mp he2).1
    obtain ⟨hlm, hlu⟩ := hlen
    have hwm1 : wm.length ≤ 1000 := Nat.le_trans hlm (Nat.le_trans hi hes)
    have hwu1 : wu.length ≤ 1000 := Nat.le_trans hlu (Nat.le_trans hj has)
    cases hlt : ltR e1 e2
    · k_steps
      refine there ?_
      refine cmp_gt_rows (F3.keep _ _ hz) (F3.keep _ _ hy) hzs hys hA.cl ?_
      cases hgt : ltR e2 e1
      · k_steps
        rename Fr _ _ _ _ => F4
        rename News _ _ _ _ => N4
        refine there ?_
        have hun : (Around.deeper { handled := none, depth := dp', frames := fr', guards := gu', units := un' } (sEnv L)).units + 64 < cLine := fits_room hA
        refine hide fun G6 hG6 => ?_
        obtain ⟨M4, hM4, F4⟩ := fr_name F4
        refine hG6 ?_
        clear hG6
        obtain ⟨t1, q1⟩ : ∃ t, M4 (Str.ofString "i") = some (.int ((i : Int) + 1) t) := ⟨_, by rw [← hM4]; rfl⟩
        have q2 : M4 (Str.ofString "j") = some (.int j tj) := by rw [← hM4]; rfl
        have q3 : M4 (Str.ofString "expected") = some (.ref a1) := by rw [← hM4]; rfl
        have q4 : M4 (Str.ofString "actual") = some (.ref a2) := by rw [← hM4]; rfl
        have q5 : M4 (Str.ofString "missing") = some (.ref lm) := by rw [← hM4]; rfl
        have q6 : M4 (Str.ofString "unexpected") = some (.ref lu) := by rw [← hM4]; rfl
        have q7 : M4 (Str.ofString "a") = some (.ref b2) := by rw [← hM4]; rfl
        have q8 : M4 (Str.ofString "e") = some (.ref b1) := by rw [← hM4]; rfl
        have S5 := fun (tk : Tok) (sl' : Array (Option Value)) => SSt.mk (hb := hb) (a1 := a1) (a2 := a2) (L0 := L0) (oL := oL) (es := es) (as := as) (i := i + 1) (j := j + 1) (Nat.succ_le_of_lt hil) (Nat.succ_le_of_lt hjl) (sMap_self (m := fun y => if y = Str.ofString "j" then some (.int ((j : Int) + 1) tk) else fMap a2 b2 j tj M4 y) q1 rfl q3 rfl q5 q6)
          ⟨nm, nu, wm, wu, sl', ms, ns, rfl, hwm, hwu, ⟨Nat.le_succ_of_le hlm, Nat.le_succ_of_le hlu⟩, hP.eq he1 he2 hlt hgt⟩
        clear hM4
        refine wpAny_Try_finally ?_
        refine wpAny_execs_cons (skip_mid (by with_unfolding_all passes_own) ?_ fun tk' => wpAny_execs_nil ?_)
        · replace F4 := fr_eqm F4 (m' := fun y => if y = Str.ofString "i" then some (.int ((i : Int) + 1) t1) else if y = Str.ofString "expected" then some (.ref a1) else if y = Str.ofString "e" then some (.ref b1) else M4 y) (fun z => by
            split
            · rename_i q; rw [q, q1]
            split
            · rename_i q; rw [q, q3]
            split
            · rename_i q; rw [q, q8]
            rfl)
          k_steps
          refine there ?_
          refine item_row h1 hv hes F4 (.inl rfl) (i := i + 1) (Int.natCast_succ i).symm (to_room (Nat.succ_le_of_lt hil) hes) ?_ ?_
          · intro b' row e' hr'
            k_steps
            refine there ?_
            refine hide fun G7 hG7 => ?_
            obtain ⟨xs, nx, hx, hxs⟩ := hr'
            refine hG7 ?_
            clear hG7
            refine eq_rows ⟨_, F4.keep _ _ hx, rfl, _, rfl⟩ ⟨_, F4.keep _ _ hz, rfl, _, rfl⟩ hxs hzs (oke _ (List.mem_of_getElem? e')) (oke _ (List.mem_of_getElem? he1)) hun ?_
            rw [decide_eq_false (nodup_next hne he1 e')]
            k_steps
          · intro hle h5 tk5 x1 hx
            replace F4 := fr_eqm F4 (m' := fMap a2 b2 j tj M4) (fun z => by
              refine Eq.trans ?_ (fMap_self q2 q4 q7 z)
              split
              · rename_i q; rw [q, q1]
              split
              · rename_i q; rw [q, q3]
              split
              · rename_i q; rw [q, q8]
              rfl)
            refine noted_g (oL := { oL with slots := sl }) (new := [(lm, PySem.W.listOf wm.toArray nm), (lu, PySem.W.listOf wu.toArray nu)]) hfr (TI.Frs.up (b := [(L0, { oL with slots := sl })]) Fs ⟨rfl, ⟨sl, rfl⟩, trivial⟩) hx F4 N4 (off_cons o2 (off_cons o3 off_nil)) ?_
            intro h6 sl6 Fs6 H6 hq8
            refine hide fun G8 hG8 => ?_
            obtain ⟨o6, v6, g6, d6, c6⟩ := hq8
            refine hG8 ?_
            clear hG8
            have H6' := H6.self g6
            refine ⟨ref_ne_byPass _, again_n H6' (H6'.land fun h7 H7 => ?_)⟩
            refine hide fun G9 hG9 => ?_
            obtain ⟨o7, tb, otb, xs, ts, c1, c2, c3, c4, c5, c7, N7, ap7⟩ := held_led H7
            refine hG9 ?_
            clear hG9
            refine wpAny_passesOwnAt (p2 _) ?_
            refine sld_fin (A := (Around.deeper { handled := none, depth := dp', frames := fr', guards := gu', units := un' } (sEnv L)).mark (some (.ref x1))) G h2 hu has oka hna (by exact hun) he2 hr2 (fun h' k => .inr ⟨x1, o6, v6, rfl, k _ (.tail _ (.tail _ (.head _))), d6, c6⟩) H7.held.fr N7 (p3 _) ?_ ?_
            · intro h8 tk8 t8 F8 N8 hj8
              exact pass_n (led_held c1 c2 c3 c4 c5 c7 F8 (fun p hp => N8 p (by
                rcases List.mem_cons.mp hp with q | hp
                · rw [q]; exact .head _
                rcases List.mem_cons.mp hp with q | hp
                · rw [q]; exact .tail _ (.head _)
                · exact .tail _ (.tail _ (.tail _ hp)))) (fun p hp => ap7 p (.tail _ hp))) fun h9 H9 => held _ _ _ _ _ _ _ H9 (S5 _ _) (.inl hle)
            · intro h8 h8' tk8 t8 e8 F8 N8 hle8 hx8
              exact thrown _ _ _ _ _ _ _ _ _ F8 (fun p hp => N8 p (.tail _ (.tail _ (.tail _ hp)))) (S5 _ _) (.inl hle) hx8
        · refine wpAny_execs_nil ?_
          refine wpAny_passesOwn p1 ?_
          refine sld_fin G h2 hu has oka hna hun he2 hr2 (fun _ _ => .inl rfl) (fr_eqm F4 (fMap_self q2 q4 q7)) N4 p1 ?_ ?_
          · intro h8 tk8 t8 F8 N8 hj8
            exact wpAny_execs_nil (wpAny_execs_nil (wpAny_execs_nil (next _ _ _ _ _ _ F8 N8 (S5 _ _) (step_both i j))))
          · intro h8 h8' tk8 t8 e8 F8 N8 hle8 hx8
            exact thrown _ _ _ _ _ _ _ _ _ F8 N8 (S5 _ _) (.inr hle8) hx8
      · k_steps
        rename Fr _ _ _ _ => F4
        rename News _ _ _ _ => N4
        refine there ?_
        have S4 := fun (tk : Tok) => SSt.mk (hb := hb) (a1 := a1) (a2 := a2) (L0 := L0) (oL := oL) (es := es) (as := as) (i := i) (j := j + 1) hi (Nat.succ_le_of_lt hjl) (sMap_self (m := fun y => if y = Str.ofString "j" then some (.int ((j : Int) + 1) tk) else if y = Str.ofString "a" then some (.ref b2) else if y = Str.ofString "e" then some (.ref b1) else if y = Str.ofString "i" then some (.int i ti) else if y = Str.ofString "j" then some (.int j tj) else if y = Str.ofString "expected" then some (.ref a1) else if y = Str.ofString "actual" then some (.ref a2)
  else if y = Str.ofString "missing" then some (.ref lm) else if y = Str.ofString "unexpected" then some (.ref lu) else m y) rfl rfl rfl rfl rfl rfl) ⟨nm, nu + 1, wm, wu ++ [.ref b2], sl, ms, ns ++ [e2], rfl, hwm, hwu.snoc hr2, ⟨hlm, snoc_le hlu⟩, hP.gt he1 he2 hlt hgt⟩
        refine skip_mid p1 ?_ fun tk' => ?_
        · k_steps
          refine there ?_
          refine item_row h2 hu has F4 (.inl rfl) (i := j + 1) (Int.natCast_succ j).symm (to_room (Nat.succ_le_of_lt hjl) has) ?_ fun hle h'' tk'' e'' hx => thrown _ _ _ _ _ _ _ _ _ F4 N4 (S4 _) (.inr hle) hx
          intro b' row e' hr'
          k_steps
          refine there ?_
          refine hide fun G10 hG10 => ?_
          obtain ⟨xs, nx, hx, hxs⟩ := hr'
          refine hG10 ?_
          clear hG10
          refine eq_rows ⟨_, F4.keep _ _ hx, rfl, _, rfl⟩ ⟨_, F4.keep _ _ hy, rfl, _, rfl⟩ hxs hys (oka _ (List.mem_of_getElem? e')) (oka _ (List.mem_of_getElem? he2)) (fits_room hA) ?_
          rw [decide_eq_false (nodup_next hna he2 e')]
          k_steps
        · exact wpAny_execs_nil (wpAny_execs_nil (wpAny_execs_nil (next _ _ _ _ _ _ F4 N4 (S4 _) (Nat.lt_succ_self _))))
    · k_steps
      rename Fr _ _ _ _ => F4
      rename News _ _ _ _ => N4
      refine there ?_
      have S4 := fun (tk : Tok) => SSt.mk (hb := hb) (a1 := a1) (a2 := a2) (L0 := L0) (oL := oL) (es := es) (as := as) (i := i + 1) (j := j) (Nat.succ_le_of_lt hil) hj (sMap_self (m := fun y => if y = Str.ofString "i" then some (.int ((i : Int) + 1) tk) else if y = Str.ofString "a" then some (.ref b2) else if y = Str.ofString "e" then some (.ref b1) else if y = Str.ofString "i" then some (.int i ti) else if y = Str.ofString "j" then some (.int j tj) else if y = Str.ofString "expected" then some (.ref a1) else if y = Str.ofString "actual" then some (.ref a2)
  else if y = Str.ofString "missing" then some (.ref lm) else if y = Str.ofString "unexpected" then some (.ref lu) else m y) rfl rfl rfl rfl rfl rfl) ⟨nm + 1, nu, wm ++ [.ref b1], wu, sl, ms ++ [e1], ns, rfl, hwm.snoc hr1, hwu, ⟨snoc_le hlm, hlu⟩, hP.lt he1 he2 hlt⟩
      refine skip_mid p1 ?_ fun tk' => ?_
      · k_steps
        refine there ?_
        refine item_row h1 hv hes F4 (.inl rfl) (i := i + 1) (Int.natCast_succ i).symm (to_room (Nat.succ_le_of_lt hil) hes) ?_ fun hle h'' tk'' e'' hx => thrown _ _ _ _ _ _ _ _ _ F4 N4 (S4 _) (.inl hle) hx
        intro b' row e' hr'
        k_steps
        refine there ?_
        refine hide fun G11 hG11 => ?_
        obtain ⟨xs, nx, hx, hxs⟩ := hr'
        refine hG11 ?_
        clear hG11
        refine eq_rows ⟨_, F4.keep _ _ hx, rfl, _, rfl⟩ ⟨_, F4.keep _ _ hz, rfl, _, rfl⟩ hxs hzs (oke _ (List.mem_of_getElem? e')) (oke _ (List.mem_of_getElem? he1)) (fits_room hA) ?_
        rw [decide_eq_false (nodup_next hne he1 e')]
        k_steps
      · exact wpAny_execs_nil (wpAny_execs_nil (next _ _ _ _ _ _ F4 N4 (S4 _) (step_one i j)))
end
section
open PySem PySem.W PySem.W.X PyProof.Rows PySem.Calls
/-- entering a def that may raise and catch: the base is all but the caller's locals -/
theorem enterL {w : World} {k : Nat} {mg mb : Str → Option Value} {h₀ : Heap} {A : Around} {s : Shared} {L a : Addr} {m : Str → Option Value} {cn : Str} {cs : Scope} {ccd : Value} {Q E : Value → Shared → Prop} {Post : Value → Heap → Prop} {f c : Addr} {vs : List Value} {name : Str} {params : Arguments} {body : List Stmt} {scope : Scope} {pm : Value} {binds : List (Str × Value)}
    (G : Gd w mg mb h₀) (hA : Fits (k + 1) A) (hfr : A.frames = some [envOf cn cs L a ccd]) (hck : cs.kind = .function) (F : Fr h₀ L s.heap m)
    (ho : (KM w.params).lookup f = some ⟨.type "function", none, .func (fnOf name name params body scope .none .none .none pm none (.ref c) .none), #[]⟩) (hc : codeIn (KM w.params) (.ref c) name = true)
    (hbind : ∀ fd, fd = fnOf name name params body scope .none .none .none pm none (.ref c) .none → bindArgs fd ⟨vs, []⟩ = pure binds) (hloc : (binds.all fun x => decide (scope.names.lookup x.1 = some .local)) = true)
    (hx : ∀ (R : Value → Shared → Prop) (L2 : Addr) (h₁ hb : Heap) (oL : Obj) (tk : Nat), (∀ b o, b ≠ L → s.heap.get? b = some o → hb.get? b = some o) → Gd w mg mb hb → TI.Frs [envOf cn cs L a ccd] [(L, oL)] → Fr hb L2 h₁ (fun x => binds.reverse.lookup x) → News hb L2 h₁ [(L, oL)] →
      (∀ r h' tk' sl, hb.StaysIn h' → h'.get? L = some { oL with slots := sl } → Post r h' → R r { s with heap := h', toks := tk' }) → Fits k (A.deeper (envOf name scope L2 f (.ref c))) →
      wpAny (model RP w) (A.deeper (envOf name scope L2 f (.ref c))) (execs body (envOf name scope L2 f (.ref c))) (fun fl s' => R (match fl with | .ret v => v | _ => .none) s') (fun _ _ => False) { s with heap := h₁, toks := tk })
    (hQ : ∀ r h' tk', Fr h₀ L h' m → (∀ b o, b ≠ L → s.heap.get? b = some o → h'.get? b = some o) → Post r h' → Q r { s with heap := h', toks := tk' })
    (hco : scope.isCoroutine = false := by rfl) (hgen : scope.isGenerator = false := by rfl) (hk : scope.kind = .function := by rfl) (hcell : ∀ x ∈ scope.names, x.2 ≠ .cell := by decide) :
    wpAny (model RP w) A (call (.ref f) vs) Q E s := by
  refine hide fun G1 hG1 => ?_
  obtain ⟨h, g, d, tk, os⟩ := s
  refine hG1 ?_
  clear hG1
  have Gh : Gd w mg mb h := G.keeps F.keep
  refine hide fun G2 hG2 => ?_
  obtain ⟨oL, es, ep, hL, hLd, hLk, hLf⟩ := F.ns
  refine hG2 ?_
  clear hG2
  refine wpAny_call ?_
  refine codeAny_call_function (fd := fnOf name name params body scope .none .none .none pm none (.ref c) .none) hA.room (Gh.K _ _ ho) rfl hco hgen rfl (codeRec_of Gh.K hc) ?_
  rw [hbind _ rfl]
  refine wpAny_pure ?_
  refine wpAny_newFunctionEnv hcell (locs hloc) (fun h₁ hns hsb => ⟨Gh.T.nolimit.fresh _ hsb, ?_⟩) hk
  show codeAny _ _ (.func body (envOf name scope h.objs.size f (.ref c))) _ _
  have hk₁ : h.StaysIn h₁ := fun b o e => hsb.extBut b o (Nat.ne_of_lt (Heap.lt_size e)) (Heap.get?_push_of_some _ e)
  have in0 : ∀ b o, b ≠ L → h.get? b = some o → (hideAll h [L]).get? b = some o := fun b o hb e => hideAll_get _ e (by simpa using hb)
  have F1 : Fr (hideAll h [L]) h.objs.size h₁ (fun x => binds.reverse.lookup x) := ⟨hns, fun b o e => hk₁ _ _ (of_hideAll _ e), Nat.le_of_eq (hideAll_size _ _)⟩
  have G0 : Gd w mg mb (hideAll h [L]) := G.keeps fun b o e => in0 b o (fun q => by
    have := Nat.lt_of_lt_of_le (Heap.lt_size e) F.above
    rw [q] at this
    exact absurd this (Nat.lt_irrefl _)) (F.keep _ _ e)
  have hkind : (envOf cn cs L a ccd).scope.kind ≠ .module := by
    show cs.kind ≠ .module
    rw [hck]; decide
  refine codeAny_func (wpAny_mono (hx (fun r s' => Q r s') h.objs.size h₁ (hideAll h [L]) oL _ in0 G0 ⟨hkind, rfl, ⟨es, ep, hLd⟩, trivial⟩ F1 ?_ (fun r h' tk' sl st e p => hQ r h' tk' ⟨⟨_, es, ep, e, hLd, hLk, hLf⟩, fun b o e' => ?_, F.above⟩ (fun b o hb e' => st _ _ (in0 b o hb e')) p) (hA.deeper _)) (fun _ _ x => x) fun _ _ x => x.elim)
  · intro p hp
    rw [List.mem_singleton.mp hp]
    exact ⟨hk₁ _ _ hL, Nat.ne_of_lt (Heap.lt_size hL), hideAll_none [L] (.head _)⟩
  · exact st _ _ (in0 _ _ (fun q => by
      have := Nat.lt_of_lt_of_le (Heap.lt_size e') F.above
      rw [q] at this
      exact absurd this (Nat.lt_irrefl _)) (F.keep _ _ e'))
set_option hygiene false in
local macro_rules | `(tactic| walk_at "exec While") => `(tactic| (refine here ?_))
set_option hygiene false in
local macro_rules | `(tactic| walk_at "exec While Constant") => `(tactic| (refine here ?_))
set_option hygiene false in
local macro_rules | `(tactic| walk_at "exec Try") => `(tactic| (refine here ?_))
theorem news_two {h₀ h : Heap} {L a b : Addr} {o p : Obj} {r : List (Addr × Obj)} (N : News h₀ L h ((a, o) :: (b, p) :: r)) : ∃ a' b', a' = a ∧ b' = b ∧ News h₀ L h ((b', p) :: (a', o) :: r) :=
  ⟨a, b, rfl, rfl, fun q hq => by
    rcases List.mem_cons.mp hq with e | hq
    · rw [e]; exact N _ (.tail _ (.head _))
    rcases List.mem_cons.mp hq with e | hq
    · rw [e]; exact N _ (.head _)
    · exact N _ (.tail _ (.tail _ hq))⟩
theorem hb_none {h hb : Heap} {L b : Addr} (ne : b ≠ L) (inb : ∀ b o, b ≠ L → h.get? b = some o → hb.get? b = some o) (z : hb.get? b = none) : h.get? b = none := by
  cases q : h.get? b with
  | none => rfl
  | some o => rw [inb _ _ ne q] at z; cases z
theorem sst_exit {es as : List (List Str)} {i j : Nat} {ms ns : List (List Str)} (h : Pst es as i j ms ns) (x : es.length ≤ i ∨ as.length ≤ j) : Diff es as (ms ++ es.drop i) (ns ++ as.drop j) := by
  refine h _ _ ?_
  rcases x with x | x
  · rw [List.drop_eq_nil_of_le x]; exact .nilL _
  · rw [List.drop_eq_nil_of_le x]; exact .nilR _
theorem extend_any {prog : Program} {w : World} {A : Around} {E : Value → Shared → Prop} {s : Shared} {h₀ : Heap} {L D b : Addr} {m : Str → Option Value} {news : List (Addr × Obj)} {news' : Nat → List (Addr × Obj)} {ws zs : List Value} {n n2 : Nat} {Q : Value → Shared → Prop}
    (F : Fr h₀ L s.heap m) (N : News h₀ L s.heap news) (hb : (b, PySem.W.listOf zs.toArray n2) ∈ news) (U : ∀ k, Upd D (PySem.W.listOf ws.toArray n) (PySem.W.listOf (ws ++ zs).toArray k) news (news' k)) (hz : ws.length + zs.length ≤ 3000)
    (h : ∀ h' k, Fr h₀ L h' m → News h₀ L h' (news' k) → Q .none { s with heap := h' }) : wpAny (model prog w) A (call (.builtin "list.extend") [.ref D, .ref b]) Q E s := by
  have tl : ¬(!ws.toArray.isEmpty && Builtin.List.listTooLong (ws.toArray.size + zs.toArray.size)) = true := by
    have : Builtin.List.listTooLong (ws.toArray.size + zs.toArray.size) = false := by
      unfold Builtin.List.listTooLong
      simp only [List.size_toArray, sizeLine_eq, decide_eq_false_iff_not]
      omega
    rw [this, Bool.and_false]
    exact Bool.false_ne_true
  by_cases e : zs = []
  · subst e
    have U0 := U n
    rw [List.append_nil] at U0
    exact kxn_extend F N hb rfl U0 tl (by rw [sizeLine_eq]; show ws.length ≤ _; omega) (by rw [sizeLine_eq]; simp only [List.size_toArray]; omega) fun h' F' N' => h h' n F' N'
  · exact kl_extend F N hb rfl (by show zs.length ≠ 0; exact fun q => e (List.length_eq_zero_iff.mp q)) (U (n + 1)) tl (by rw [sizeLine_eq]; show ws.length ≤ _; omega) (by rw [sizeLine_eq]; simp only [List.size_toArray]; omega) fun h' F' N' => h h' (n + 1) F' N'
theorem pick_from {vs : List Value} {i : Nat} (h : i ≤ vs.length) : kms_pick vs (some (i : Int)) none = vs.drop i := by
  unfold kms_pick kms_lo kms_hi
  have h0 : ¬ ((i : Int) < 0) := by omega
  simp only [h0, if_false, Int.toNat_natCast, Nat.min_eq_left h]
  exact List.take_of_length_le (by simp)
theorem room_drop {ws vs : List Value} {i a : Nat} (h1 : ws.length ≤ i) (h2 : i ≤ a) (e : vs.length = a) (h3 : a ≤ 1000) : ws.length + (vs.drop i).length ≤ 3000 := by
  rw [List.length_drop]; omega
theorem line_of {vs : List Value} {a : Nat} (e : vs.length = a) (h : a ≤ 1000) : vs.toArray.size ≤ sizeLine := by
  rw [sizeLine_eq]; show vs.length ≤ _; omega
theorem RowsAre.drop {h : Heap} : ∀ {vs : List Value} {rows : List (List Str)}, RowsAre h vs rows → ∀ i : Nat, RowsAre h (vs.drop i) (rows.drop i) := by
  intro vs xs x
  induction x with
  | nil => intro k; simp; exact .nil
  | cons j r ih =>
    intro k
    cases k with
    | zero => exact .cons j r
    | succ k => exact ih k
theorem RowsAre.append {h : Heap} {us : List Value} {qs : List (List Str)} (k : RowsAre h us qs) : ∀ {vs : List Value} {rows : List (List Str)}, RowsAre h vs rows → RowsAre h (vs ++ us) (rows ++ qs) := by
  intro vs xs x
  induction x with
  | nil => exact k
  | cons j r ih => exact .cons j ih
set_option hygiene false in
local macro_rules | `(tactic| walk_at "subscriptTail Name Slice ref ref") => `(tactic| (refine here ?_))
set_option hygiene false in
local macro_rules | `(tactic| walk_at "call builtin:list.extend") => `(tactic| (refine here ?_))
set_option maxHeartbeats 1000000 in
theorem sld_try {w : World} {mg mb : Str → Option Value} {hb : Heap} (G : Gd w mg mb hb) {a1 a2 lm lu L L0 : Addr} {oL : Obj} {vs us : List Value} {n1 n2 : Nat} {es as : List (List Str)}
   (h1 : hb.get? a1 = some { cls := .type "list", dict := none, data := .seq vs.toArray n1, slots := #[] }) (h2 : hb.get? a2 = some { cls := .type "list", dict := none, data := .seq us.toArray n2, slots := #[] })
   (hv : RowsAre hb vs es) (hu : RowsAre hb us as) (hes : es.length ≤ 1000) (has : as.length ≤ 1000) (oke : ∀ row ∈ es, ∀ x ∈ row, PyData.strOk x = true) (oka : ∀ row ∈ as, ∀ x ∈ row, PyData.strOk x = true) (hne : es.Nodup) (hna : as.Nodup)
   {A₀ : Around} {env0 : Env} (hfr : A₀.frames = some [env0]) (Fs : TI.Frs [env0] [(L0, oL)]) {g : Array GenState} {d : Drawn} {os : OsState} (hA : Fits 1 (A₀.deeper (sEnv L))) {E : Value → Shared → Prop} {Q : Flow → Shared → Prop}
   {h : Heap} {tk : Nat} {m : Str → Option Value} {i j : Nat} {news : List (Addr × Obj)}
   (F : Fr hb L h m) (N : News hb L h news) (st : SSt hb a1 a2 lm lu L0 oL es as i j m news) (o1 : @Ne Nat lm lu) (o2 : @Ne Nat lm L0) (o3 : @Ne Nat lu L0)
   (next : ∀ h' m' news' i' j' tk', Fr hb L h' m' → News hb L h' news' → SSt hb a1 a2 lm lu L0 oL es as i' j' m' news' → i + j < i' + j' → Q .next ⟨h', g, d, tk', os⟩)
   (brk : ∀ h' m' tk' nm nu wm wu sl ms ns, Fr hb L h' m' → News hb L h' [(lm, PySem.W.listOf (wm : List Value).toArray nm), (lu, PySem.W.listOf (wu : List Value).toArray nu), (L0, { oL with slots := sl })] → m' (Str.ofString "missing") = some (.ref lm) → m' (Str.ofString "unexpected") = some (.ref lu) →
     RowsAre hb wm ms → RowsAre hb wu ns → Diff es as ms ns → Q .brk ⟨h', g, d, tk', os⟩) :
   wpAny (model RP w) (A₀.deeper (sEnv L)) (exec sTry (sEnv L)) Q E ⟨h, g, d, tk, os⟩ := by
  refine wpAny_noRaise ?_
  conv => arg 3; arg 1; whnf
  refine wpAny_Try_except ?_
  have hand : ∀ h' m' news' i' j' e tk', TT.HeldNA hb L h' m' e "IndexError" news' .none → SSt hb a1 a2 lm lu L0 oL es as i' j' m' news' → (es.length ≤ i' ∨ as.length ≤ j') →
      wpAny (model RP w) (A₀.deeper (sEnv L)) (handleBy (.ref e) (sEnv L) (tHand sTry)) Q (fun _ _ => False) ⟨h', g, d, tk', os⟩ := by
    clear next F N st
    intro h' m' news' i' j' e tk' H S hx
    conv => arg 3; arg 3; whnf
    refine TT.clause_hitTN H G.T (k := fun h5 F5 N5 => ?_)
    refine hide fun G3 hG3 => ?_
    obtain ⟨hi, hj, ⟨ti, tj, hm⟩, nm, nu, wm, wu, sl, ms, ns, rfl, hwm, hwu, hlen, hP⟩ := S
    refine hG3 ?_
    clear hG3
    replace F5 := fr_eqm F5 hm
    clear hm H
    unfold sMap at F5
    refine hide fun G4 hG4 => ?_
    obtain ⟨hd', dp', fr', gu', un'⟩ := A₀
    refine hG4 ?_
    clear hG4
    obtain rfl : hd' = none := hA.handled
    have T := G.T
    have X := G.K
    have o4 : @Ne Nat lu lm := Ne.symm o1
    have o5 : @Ne Nat L0 lm := Ne.symm o2
    have o6 : @Ne Nat L0 lu := Ne.symm o3
    have e1 := hv.length
    have e2 := hu.length
    k_steps
    refine there ?_
    refine kms_slice_lit (s := ⟨h5, g, d, tk', os⟩) (zs := vs.drop i') F5 N5 ⟨_, F5.keep _ _ h1, rfl, _, rfl⟩ (by kmk_part) (by kmk_part) (pick_from (vs := vs) (Nat.le_trans hi (Nat.le_of_eq e1.symm))) ?_ (by with_unfolding_all rfl) (by kmk_pure) (line_of e1 hes)
    intro D1 h6 F6 N6 l6
    have oD1 : @Ne Nat D1 lm := Ne.symm (Nat.ne_of_lt (l6 _ (.head _)))
    have oD2 : @Ne Nat D1 lu := Ne.symm (Nat.ne_of_lt (l6 _ (.tail _ (.head _))))
    k_steps
    refine there ?_
    refine extend_any (news' := fun k => [(D1, PySem.W.listOf (vs.drop i').toArray 0), (lm, PySem.W.listOf (wm ++ vs.drop i').toArray k), (lu, PySem.W.listOf wu.toArray nu), (L0, { oL with slots := sl })]) F6 N6 (.head _) (fun k => by k_upd) (room_drop hlen.1 hi e1 hes) ?_
    intro h7 nm7 F7 N7
    k_steps
    refine there ?_
    refine kms_slice_lit (s := ⟨h7, g, d, _, os⟩) (zs := us.drop j') F7 N7 ⟨_, F7.keep _ _ h2, rfl, _, rfl⟩ (by kmk_part) (by kmk_part) (pick_from (vs := us) (Nat.le_trans hj (Nat.le_of_eq e2.symm))) ?_ (by with_unfolding_all rfl) (by kmk_pure) (line_of e2 has)
    intro D2 h8 F8 N8 l8
    have oD3 : @Ne Nat D2 D1 := Ne.symm (Nat.ne_of_lt (l8 _ (.head _)))
    have oD4 : @Ne Nat D2 lm := Ne.symm (Nat.ne_of_lt (l8 _ (.tail _ (.head _))))
    have oD5 : @Ne Nat D2 lu := Ne.symm (Nat.ne_of_lt (l8 _ (.tail _ (.tail _ (.head _)))))
    k_steps
    refine there ?_
    refine extend_any (news' := fun k => [(D2, PySem.W.listOf (us.drop j').toArray 0), (D1, PySem.W.listOf (vs.drop i').toArray 0), (lm, PySem.W.listOf (wm ++ vs.drop i').toArray nm7), (lu, PySem.W.listOf (wu ++ us.drop j').toArray k), (L0, { oL with slots := sl })]) F8 N8 (.head _) (fun k => by k_upd) (room_drop hlen.2 hj e2 has) ?_
    intro h9 nu9 F9 N9
    k_steps
    exact brk _ _ _ _ _ _ _ _ _ _ F9 (fun p hp => N9 p (.tail _ (.tail _ hp))) rfl rfl ((hv.drop i').append hwm) ((hu.drop j').append hwu) (sst_exit hP hx)
  refine sld_turn G h1 h2 hv hu hes has oke oka hne hna hfr Fs hA F N st o1 o2 o3 (by with_unfolding_all passes_own) (fun _ => by with_unfolding_all passes_own) (fun _ => by with_unfolding_all passes_own) ?_ ?_ ?_
  · intro h' h'' m' news' i' j' e tk' c F' N' S' hx hexc
    refine hide fun G5 hG5 => ?_
    obtain ⟨hi, hj, hmap, nm, nu, wm, wu, sl, ms, ns, rfl, hwm, hwu, hlen, hP⟩ := S'
    refine hG5 ?_
    clear hG5
    refine noted_g (oL := { oL with slots := sl }) (new := [(lm, PySem.W.listOf wm.toArray nm), (lu, PySem.W.listOf wu.toArray nu)]) hfr (TI.Frs.up (b := [(L0, { oL with slots := sl })]) Fs ⟨rfl, ⟨sl, rfl⟩, trivial⟩) hexc F' N' (off_cons o2 (off_cons o3 off_nil)) ?_
    rintro h6 sl6 Fs6 H6 -
    exact H6.land fun h7 H7 => hand _ _ _ _ _ _ _ H7 ⟨hi, hj, hmap, nm, nu, wm, wu, sl6, ms, ns, rfl, hwm, hwu, hlen, hP⟩ hx
  · intro h' m' news' i' j' e tk' H S hx
    exact again_n H (H.land fun h7 H7 => hand _ _ _ _ _ _ _ H7 S hx)
  · intro h' m' news' i' j' tk' F' N' S' hlt
    exact wpAny_execs_nil (next _ _ _ _ _ _ F' N' S' hlt)
theorem turns_room {i j i4 j4 a b : Nat} (h : i + j < i4 + j4) (b1 : i4 ≤ a) (b2 : j4 ≤ b) (ha : a ≤ 1000) (hb : b ≤ 1000) : 2001 - (i4 + j4) < 2001 - (i + j) := by omega
set_option maxHeartbeats 1000000 in
theorem t_sld {w : World} {mg mb : Str → Option Value} {h₀ : Heap} {A : Around} {s : Shared} {L a : Addr} {m : Str → Option Value} {cn : Str} {cs : Scope} {ccd : Value} {Q E : Value → Shared → Prop}
    (G : Gd w mg mb h₀) (hA : Fits 2 A) (hfr : A.frames = some [envOf cn cs L a ccd]) (hck : cs.kind = .function) (F : Fr h₀ L s.heap m) {a1 a2 : Addr} {es as : List (List Str)} (r1 : RowsAt s.heap a1 es) (r2 : RowsAt s.heap a2 as)
    (hes : es.length ≤ 1000) (has : as.length ≤ 1000) (oke : ∀ row ∈ es, ∀ x ∈ row, PyData.strOk x = true) (oka : ∀ row ∈ as, ∀ x ∈ row, PyData.strOk x = true) (hne : es.Nodup) (hna : as.Nodup)
    (hQ : ∀ r h' tk', Fr h₀ L h' m → (∀ b o, b ≠ L → s.heap.get? b = some o → h'.get? b = some o) → (∃ t lm lu ms ns n, r = .ref t ∧ s.heap.get? t = none ∧ h'.get? t = some { cls := .type "tuple", dict := none, data := .seq #[.ref lm, .ref lu] n, slots := #[] } ∧ RowsAt h' lm ms ∧ RowsAt h' lu ns ∧ Diff es as ms ns) → Q r { s with heap := h', toks := tk' }) :
    wpAny (model RP w) A (call (.ref 28) [.ref a1, .ref a2]) Q E s := by
  refine enterL (k := 1) G hA hfr hck F (ent28 _) (by kernel_rfl) (binds := [(Str.ofString "expected", .ref a1), (Str.ofString "actual", .ref a2)]) ?_ (by kernel_rfl) ?_ hQ
  · rintro _ rfl
    with_unfolding_all rfl
  · intro R L2 h₁ hb oL tk inb Gb Fs F1 N1 hret hA2
    have r1' := r1.but F.ns inb
    have r2' := r2.but F.ns inb
    refine hide fun G6 hG6 => ?_
    obtain ⟨vs, n1, h1, hv⟩ := r1'
    refine hG6 ?_
    clear hG6
    refine hide fun G7 hG7 => ?_
    obtain ⟨us, n2, h2, hu⟩ := r2'
    refine hG7 ?_
    clear hG7
    clear r1 r2 hQ G
    conv => arg 3; arg 1; whnf
    refine hide fun G8 hG8 => ?_
    obtain ⟨hd', dp', fr', gu', un'⟩ := A
    refine hG8 ?_
    clear hG8
    obtain rfl : hd' = none := hA.handled
    have T := Gb.T
    have X := Gb.K
    clear hA
    refine hide fun G9 hG9 => ?_
    obtain ⟨sh, sg, sd, stk, sos⟩ := s
    refine hG9 ?_
    clear hG9
    dsimp only at hret ⊢
    k_steps
    refine there ?_
    rename Fr _ _ _ _ => F2
    rename News _ _ _ _ => N2
    refine hide fun G10 hG10 => ?_
    obtain ⟨lu, lm, hlu, hlm, N3⟩ := news_two N2
    refine hG10 ?_
    clear hG10
    subst hlu hlm
    have o1 : @Ne Nat lm lu := Nat.ne_of_lt (And.left (by assumption : lm < lu ∧ L < lu))
    have o2 : @Ne Nat lm L := Ne.symm (Nat.ne_of_lt (by assumption : L < lm))
    have o3 : @Ne Nat lu L := Ne.symm (Nat.ne_of_lt (And.right (by assumption : lm < lu ∧ L < lu)))
    refine wpAny_While ?_
    refine codeAny_whileLoop (fun n s' => ∃ h' tk' m' news' i j, s' = ⟨h', sg, sd, tk', sos⟩ ∧ n = 2001 - (i + j) ∧ Fr hb L2 h' m' ∧ News hb L2 h' news' ∧ SSt hb a1 a2 lm lu L oL es as i j m' news') ?_ 2001 ⟨_, _, _, _, 0, 0, rfl, rfl, F2, N3, ⟨Nat.zero_le _, Nat.zero_le _, sMap_self rfl rfl rfl rfl rfl rfl, ⟨0, 0, [], [], oL.slots, [], [], rfl, .nil, .nil, ⟨Nat.le_refl _, Nat.le_refl _⟩, fun m' u' x => x⟩⟩⟩
    clear N2 N3 F2
    intro n s' hq11
    refine hide fun G11 hG11 => ?_
    obtain ⟨h3, tk3, m3, nw3, i, j, rfl, rfl, F3, N3, S3⟩ := hq11
    refine hG11 ?_
    clear hG11
    k_steps
    refine there ?_
    refine sld_try Gb h1 h2 hv hu hes has oke oka hne hna hfr Fs hA2 F3 N3 S3 o1 o2 o3 ?_ ?_
    · intro h4 m4 nw4 i4 j4 tk4 F4 N4 S4 hlt
      have b1 := S4.hi
      have b2 := S4.hj
      refine wpAny_execs_nil ⟨2001 - (i4 + j4), turns_room hlt b1 b2 hes has, _, _, _, _, _, _, rfl, rfl, F4, N4, S4⟩
    · intro h4 m4 tk4 nm nu wm wu sl ms ns F4 N4 q1 q2 hwm hwu hD
      replace F4 := fr_eqm F4 (m' := fun y => if y = Str.ofString "missing" then some (.ref lm) else if y = Str.ofString "unexpected" then some (.ref lu) else m4 y) (fun z => by
        split
        · rename_i q; rw [q, q1]
        split
        · rename_i q; rw [q, q2]
        rfl)
      have o4 : @Ne Nat lu lm := Ne.symm o1
      have o5 : @Ne Nat L lm := Ne.symm o2
      have o6 : @Ne Nat L lu := Ne.symm o3
      clear S3 F3 N3
      dsimp only
      k_steps
      rename Fr _ _ _ _ => F5
      rename News _ _ _ _ => N5
      have up : ∀ b row, IsStrs hb b row → IsStrs _ b row := fun b row ⟨xs, n, e, q⟩ => ⟨xs, n, F5.keep _ _ e, q⟩
      refine hret _ _ _ sl F5.keep (N5 _ (.tail _ (.tail _ (.tail _ (.head _))))).1 ⟨_, lm, lu, ms, ns, _, rfl, ?_, (N5 _ (.head _)).1, ⟨wm, nm, (N5 _ (.tail _ (.head _))).1, hwm.keeps up⟩, ⟨wu, nu, (N5 _ (.tail _ (.tail _ (.head _)))).1, hwu.keeps up⟩, hD⟩
      have z := (N5 _ (.head _)).2.2
      refine hb_none ?_ inb z
      exact Ne.symm (Nat.ne_of_lt (And.right (And.right (by assumption : lm < _ ∧ lu < _ ∧ L < _))))
end
section
open PySem PySem.W PySem.W.X PyProof.Rows PySem.Calls
section
variable {prog : Program} {w : World} {A : Around} {R : Result → Shared → Prop} {E : Value → Shared → Prop} {s : Shared}
/-- what the turns keep -/
noncomputable def EnJ (e it l D C : Addr) (G : Nat → List Value → Prop) (K : Heap → Prop) (j : Nat) (h' : Heap) (m' : Str → Option Value) : Prop :=
  ∃ ys old, IsEnum h' e it (j : Nat) old ∧ h'.IsListIter it l j ∧ h'.Ns C m' ∧ G j ys ∧ ys.length ≤ j ∧ h'.get? D = some (LCg.lst ys) ∧ K h'
/-- the turns of [y for a, y in enumerate(l) if c] -/
theorem enum_loop {iter c : PySem.Expr} {a y : Str} {pa py qy tp : Pos} {kk : Nat} {scope : Scope} {pos : Pos} {cenv : Env} {e it l D : Addr} {items : Array Value} {m : Str → Option Value} (p : Nat → Bool) (G : Nat → List Value → Prop) (K : Heap → Prop)
    (hh : A.handled = none) (hkf : cenv.scope.kind = .function) (ha : cenv.kindOf a = some .local) (hy : cenv.kindOf y = some .local) (hdb : (y == Str.ofString "__debug__") = false) (hay : a ≠ y)
    (hsz : items.size ≤ sizeLine) (nei : e ≠ it) (neC : e ≠ cenv.locals) (niC : it ≠ cenv.locals) (nDC : D ≠ cenv.locals) (nDe : D ≠ e) (nDi : D ≠ it)
    (hK : ∀ h h', K h → (∀ b o, b ≠ D → b ≠ cenv.locals → b ≠ e → b ≠ it → h.get? b = some o → h'.get? b = some o) → K h') (hKl : ∀ h, K h → h.IsList l items)
    (he : IsEnum s.heap e it 0 .none) (hit : s.heap.IsListIter it l 0) (k0 : K s.heap) (hC : s.heap.Ns cenv.locals m) (hD : s.heap.get? D = some (LCg.lst [])) (g0 : G 0 [])
    (hG : ∀ (j : Nat) ys v, G j ys → items[j]? = some v → G (j + 1) (if p j = true then ys ++ [v] else ys))
    (test : ∀ (j : Nat) v t oC oD oe oi m₂ (s' : Shared) (Q' : Bool → Shared → Prop) (E' : Value → Shared → Prop), items[j]? = some v → s'.heap.get? cenv.locals = some oC → LCg.NsObj oC m₂ → m₂ a = some (.int j t) → m₂ y = some v → s'.heap.get? D = some oD → s'.heap.get? e = some oe → s'.heap.get? it = some oi → K s'.heap →
      (∀ h' tk, h'.get? cenv.locals = some oC → h'.get? D = some oD → h'.get? e = some oe → h'.get? it = some oi → K h' → Q' (p j) { s' with heap := h', toks := tk }) → wpAny (model prog w) A (isTrue c cenv (eval c cenv)) Q' E' s')
    (fin : ∀ h' tk m' ys, h'.Ns cenv.locals m' → G items.size ys → h'.get? D = some (LCg.lst ys) → K h' → R (.ok .next) { s with heap := h', toks := tk }) :
    codeAny (model prog w) A (.compLoop (.ListComp (.Name y py) [⟨.Tuple [.Name a pa, .Name y qy] kk tp, iter, [c], 0⟩] scope pos) 0 (.ref e) (.ref D) cenv) R s := by
  refine kct_loop (CmpI (EnJ e it l D cenv.locals G K) items.size s) ?_ items.size
    (CmpI.mk (j := 0) (tk := s.toks) (m' := m) (Nat.zero_le _) ⟨[], .none, he, hit, hC, g0, Nat.le_refl _, hD, k0⟩)
  intro n s' hq1
  apply CmpI.elim hq1
  clear hq1
  intro j h' tk m' hj hJ
  refine hide fun G1 hG1 => ?_
  obtain ⟨ys, old, he', hit', hC', hg, hyl, hD', hk'⟩ := hJ
  refine hG1 ?_
  clear hG1
  have hl' := hKl _ hk'
  by_cases hlt : j < items.size
  · have hx : items[j]? = some items[j] := Array.getElem?_eq_getElem hlt
    have neT : ∀ b o, h'.get? b = some o → b ≠ h'.objs.size := fun b o q => Nat.ne_of_lt (Heap.lt_size q)
    refine wpAny_pyNext_enum_item he' hit' hl' hx nei fun h1 ho hit1 hT hsz1 hk1 => ?_
    dsimp only
    refine wpAny_letOwnedTupleGo_enum ho fun h2 he2 hs2 => ?_
    have hk2 : ∀ b o, b ≠ e → b ≠ it → h'.get? b = some o → h2.get? b = some o := fun b o q1 q2 q => (hs2.2 b q1).trans (hk1 b o q1 q2 q)
    have tupT : h2.IsTuple h'.objs.size #[.int j tk, items[j]] := ⟨_, (hs2.2 _ (fun q => by rw [← q] at he'; have := neT _ _ he'; exact this rfl)).trans hT, rfl, _, rfl⟩
    have hC2 : h2.Ns cenv.locals m' := hC'.at' fun o q => hk2 _ o (Ne.symm neC) (Ne.symm niC) q
    refine kcp_assign hh tupT ha hy (by simp [hkf]) hC2 fun h3 tk3 hC3 hk3 => ?_
    have k3 : ∀ b o, b ≠ cenv.locals → b ≠ e → b ≠ it → h'.get? b = some o → h3.get? b = some o := fun b o q1 q2 q3 q => hk3 b o q1 (hk2 b o q2 q3 q)
    have he3 : IsEnum h3 e it ((j : Int) + 1) _ := hk3 _ _ neC he2
    refine hide fun G2 hG2 => ?_
    obtain ⟨oi, hoi, hoi'⟩ : h3.IsListIter it l (j + 1) := hit1.at fun o q => hk3 _ _ niC ((hs2.2 _ (Ne.symm nei)).trans q)
    refine hG2 ?_
    clear hG2
    have hD3 := k3 _ _ nDC nDe nDi hD'
    have hk3' : K h3 := hK _ _ hk' fun b o q1 q2 q3 q4 q => k3 b o q2 q3 q4 q
    refine hide fun G3 hG3 => ?_
    obtain ⟨oC, heC, hoC⟩ := LCg.ns_obj hC3
    refine hG3 ?_
    clear hG3
    refine test j items[j] tk oC _ _ _ _ _ _ _ hx heC hoC (by simp [hay]) (by simp) hD3 he3 hoi hk3' fun h4 tk4 heC4 hD4 he4 hoi4 hk4 => ?_
    have hg' := hG j ys items[j] hg hx
    have hC4 := hoC.ns heC4
    cases hp : p j with
    | true =>
      rw [hp] at hg'
      simp only [if_true] at hg' ⊢
      refine wpAny_Name (wpAny_loadName_local hkf hy hC4 (by simp; rfl) ?_) hdb
      refine append_at hD4 (fun h5 hs5 hD5 => ?_) (by show ys.toArray.size ≤ sizeLine; rw [List.size_toArray]; omega)
      refine ⟨items.size - (j + 1), Nat.sub_lt_sub_left hlt (Nat.lt_succ_self j), CmpI.mk hlt ⟨ys ++ [items[j]], items[j], ?_, ?_, hC4.sameBut hs5 (Ne.symm nDC), hg', by simp; omega, hD5.trans (congrArg some (LCg.lst_snoc ys items[j])), ?_⟩⟩
      · exact hs5.extBut _ _ (Ne.symm nDe) he4
      · exact ⟨oi, hs5.extBut _ _ (Ne.symm nDi) hoi4, hoi'⟩
      · exact hK _ _ hk4 fun b o q1 q2 q3 q4 q => hs5.extBut _ _ q1 q
    | false =>
      rw [hp] at hg'
      simp only [Bool.false_eq_true, if_false] at hg' ⊢
      exact ⟨items.size - (j + 1), Nat.sub_lt_sub_left hlt (Nat.lt_succ_self j), CmpI.mk hlt ⟨ys, items[j], he4, ⟨oi, hoi4, hoi'⟩, hC4, hg', Nat.le_succ_of_le hyl, hD4, hk4⟩⟩
  · obtain rfl : j = items.size := Nat.le_antisymm hj (Nat.not_lt.mp hlt)
    refine wpAny_pyNext_enum_end hh he' hit' hl' (Array.getElem?_eq_none (Nat.le_refl _)) fun h1 hx1 => ?_
    exact fin h1 tk m' ys (hC'.at' fun o q => hx1 _ o (Ne.symm niC) q) hg (hx1 _ _ nDi hD') (hK _ _ hk' fun b o q1 q2 q3 q4 q => hx1 _ _ q4 q)
/-- [y for a, y in enumerate(l) if c] -/
theorem comp_enum {iter c : PySem.Expr} {a y : Str} {pa py qy tp : Pos} {kk : Nat} {scope : Scope} {cl : List (Str × Addr)} {pos : Pos} {env : Env} {l : Addr} {items : Array Value} {h₀ : Heap} {m : Str → Option Value} {news : List (Addr × Obj)} {Q : Value → Shared → Prop} (p : Nat → Bool) (G : Nat → List Value → Prop)
    (hh : A.handled = none) (hclos : closureFor scope env = pure cl) (hcell : ∀ z ∈ scope.names, z.2 ≠ .cell) (hkind : scope.kind = .function)
    (hnames : ∀ z ∈ scope.names, z.2 = .local → scope.names.lookup z.1 = some .local) (ha : scope.names.lookup a = some .local) (hy : scope.names.lookup y = some .local) (hdb : (y == Str.ofString "__debug__") = false) (hay : a ≠ y)
    (F : Fr h₀ env.locals s.heap m) (N : News h₀ env.locals s.heap news) (hl : LCg.SrcAt h₀ l items news) (hsz : items.size ≤ sizeLine) (g0 : G 0 [])
    (hiter : ∀ (Q' : Value → Shared → Prop), (∀ h' tk e it, IsEnum h' e it 0 .none → h'.IsListIter it l 0 → s.heap.get? e = none → s.heap.get? it = none → e ≠ it → (∀ b o, s.heap.get? b = some o → h'.get? b = some o) → Q' (.ref e) { s with heap := h', toks := tk }) → wpAny (model prog w) A (eval iter env) Q' E s)
    (hG : ∀ (j : Nat) ys v, G j ys → items[j]? = some v → G (j + 1) (if p j = true then ys ++ [v] else ys))
    (test : ∀ (j : Nat) v t C oC D oD e oe it oi m₂ (s' : Shared) (Q' : Bool → Shared → Prop) (E' : Value → Shared → Prop), items[j]? = some v → LCg.NsObj oC m₂ → m₂ a = some (.int j t) → m₂ y = some v → Fr h₀ env.locals s'.heap m → News h₀ env.locals s'.heap ((C, oC) :: (D, oD) :: (e, oe) :: (it, oi) :: news) →
      (∀ h' tk, Fr h₀ env.locals h' m → News h₀ env.locals h' ((C, oC) :: (D, oD) :: (e, oe) :: (it, oi) :: news) → Q' (p j) { s' with heap := h', toks := tk }) → wpAny (model prog w) A (isTrue c (compEnvC scope cl C env) (eval c (compEnvC scope cl C env))) Q' E' s')
    (fin : ∀ D ys h' tk, Fr h₀ env.locals h' m → News h₀ env.locals h' ((D, LCg.lst ys) :: news) → (∀ q ∈ news, q.1 ≠ D) → G items.size ys → Q (.ref D) { s with heap := h', toks := tk })
    (hs : ∀ x, foldedSetIterable iter env x = pure x := by intro _; rfl) :
    wpAny (model prog w) A (eval (.ListComp (.Name y py) [⟨.Tuple [.Name a pa, .Name y qy] kk tp, iter, [c], 0⟩] scope pos) env) Q E s := by
  rw [eval_ListComp]
  refine wpAny_comprehension_free (use := none) rfl hs hclos hkind hnames (hiter _ fun H1 tk1 e it he hit ne0 ni0 nei k1 => ?_)
  refine wpAny_pyIter_enum he ?_
  refine wpAny_newObj_type (wpAny_newFunctionEnv hcell (by intro y hy; simp at hy) (fun h₁ hns₁ hsb₁ => ?_) hkind)
  dsimp only at hns₁ hsb₁ ⊢
  have up2 : ∀ b o, H1.get? b = some o → (H1.push { cls := .type "list", dict := none, data := .seq ([] : List Value).toArray }).get? b = some o := fun b o e => Heap.get?_push_of_some _ e
  have eD2 : (H1.push { cls := .type "list", dict := none, data := .seq ([] : List Value).toArray }).get? H1.objs.size = some (LCg.lst []) := Heap.get?_push_size _ rfl
  have z2 : (H1.push { cls := .type "list", dict := none, data := .seq ([] : List Value).toArray }).objs.size = H1.objs.size + 1 := Heap.size_push ..
  generalize (H1.push { cls := .type "list", dict := none, data := .seq ([] : List Value).toArray }) = H2 at *
  have ltD : ∀ b o, H1.get? b = some o → b ≠ H1.objs.size := fun b o q => Nat.ne_of_lt (Heap.lt_size q)
  have ltC : ∀ b o, H1.get? b = some o → b ≠ H2.objs.size := fun b o q => by rw [z2]; exact Nat.ne_of_lt (Nat.lt_succ_of_lt (Heap.lt_size q))
  have nDC : H1.objs.size ≠ H2.objs.size := by rw [z2]; exact Nat.ne_of_lt (Nat.lt_succ_self _)
  have up : ∀ b o, H1.get? b = some o → h₁.get? b = some o := fun b o q => hsb₁.extBut b o (ltC b o q) (Heap.get?_push_of_some _ (up2 _ _ q))
  have eD : h₁.get? H1.objs.size = some (LCg.lst []) := hsb₁.extBut _ _ nDC (Heap.get?_push_of_some _ eD2)
  refine hide fun G4 hG4 => ?_
  obtain ⟨oi, hoi, hoi'⟩ := id hit
  refine hG4 ?_
  clear hG4
  have old : ∀ b o, s.heap.get? b = some o → b ≠ H1.objs.size ∧ b ≠ H2.objs.size ∧ b ≠ e ∧ b ≠ it := fun b o q => ⟨ltD _ _ (k1 _ _ q), ltC _ _ (k1 _ _ q), fun z => (by rw [z, ne0] at q; cases q), fun z => (by rw [z, ni0] at q; cases q)⟩
  refine hide fun G5 hG5 => ?_
  obtain ⟨oL, esL, epL, hoL, _⟩ := id F.ns
  refine hG5 ?_
  clear hG5
  have new0 : ∀ b, (∀ o, s.heap.get? b = some o → False) → h₀.get? b = none := fun b q => by
    cases z : h₀.get? b with
    | none => rfl
    | some o' => exact (q _ (F.keep _ _ z)).elim
  have C0 := new0 H2.objs.size fun o q => (old _ _ q).2.1 rfl
  have D0 := new0 H1.objs.size fun o q => (old _ _ q).1 rfl
  have E0 := new0 e fun o q => (old _ _ q).2.2.1 rfl
  have I0 := new0 it fun o q => (old _ _ q).2.2.2 rfl
  have loop : ∀ s₄ : Shared, (∃ tk, s₄ = { s with heap := h₁, toks := tk }) → codeAny (model prog w) A (.compLoop (.ListComp (.Name y py) [⟨.Tuple [.Name a pa, .Name y qy] kk tp, iter, [c], 0⟩] scope pos) 0 (.ref e) (.ref H1.objs.size) (compEnvC scope cl H2.objs.size env))
      (compPost (model prog w) A E none Q (.ref H1.objs.size) H2.objs.size) s₄ := by
    rintro s₄ ⟨tk, rfl⟩
    refine enum_loop (s := { s with heap := h₁, toks := tk }) (m := _) (cenv := compEnvC scope cl H2.objs.size env) (l := l) (items := items) p G (fun h => Fr h₀ env.locals h m ∧ News h₀ env.locals h news) hh hkind (lookup_relabel_local ha) (lookup_relabel_local hy) hdb hay hsz nei (ltC _ _ he) (ltC _ _ hoi) nDC (Ne.symm (ltD _ _ he)) (Ne.symm (ltD _ _ hoi))
      ?_ (fun h k => hl.list k.1.keep k.2) (up _ _ he) (hit.at fun o q => up _ _ q) ⟨F.keeps fun b o q => up _ _ (k1 _ _ q), N.grown fun b o q => up _ _ (k1 _ _ q)⟩ hns₁ eD g0 hG ?_ ?_
    · rintro h h' ⟨Fh, Nh⟩ k
      refine ⟨⟨Fh.ns.at' fun o q => k _ o (old _ _ hoL).1 (old _ _ hoL).2.1 (old _ _ hoL).2.2.1 (old _ _ hoL).2.2.2 q, fun b o q => ?_, Fh.above⟩, fun q hq => ⟨?_, (Nh q hq).2⟩⟩
      · have z := old b o (F.keep _ _ q)
        exact k b o z.1 z.2.1 z.2.2.1 z.2.2.2 (Fh.keep _ _ q)
      · have z := old q.1 _ (N q hq).1
        exact k _ _ z.1 z.2.1 z.2.2.1 z.2.2.2 (Nh q hq).1
    · intro j v t oC oD oe oi' m₂ s' Q' E' hv heC hoC qa qy hD' he' hi' ⟨Fk, Nk⟩ hQ'
      have mk : ∀ h : Heap, h.get? H2.objs.size = some oC → h.get? H1.objs.size = some oD → h.get? e = some oe → h.get? it = some oi' → News h₀ env.locals h news → News h₀ env.locals h ((H2.objs.size, oC) :: (H1.objs.size, oD) :: (e, oe) :: (it, oi') :: news) := fun h q1 q2 q3 q4 q5 q hq => by
        rcases List.mem_cons.mp hq with rfl | hq
        · exact ⟨q1, Ne.symm (old _ _ hoL).2.1, C0⟩
        rcases List.mem_cons.mp hq with rfl | hq
        · exact ⟨q2, Ne.symm (old _ _ hoL).1, D0⟩
        rcases List.mem_cons.mp hq with rfl | hq
        · exact ⟨q3, Ne.symm (old _ _ hoL).2.2.1, E0⟩
        rcases List.mem_cons.mp hq with rfl | hq
        · exact ⟨q4, Ne.symm (old _ _ hoL).2.2.2, I0⟩
        · exact q5 q hq
      exact test j v t H2.objs.size oC H1.objs.size oD e oe it oi' m₂ s' Q' E' hv hoC qa qy Fk (mk _ heC hD' he' hi' Nk) fun h' tk' F' N' => hQ' h' tk' (N' _ (.head _)).1 (N' _ (.tail _ (.head _))).1 (N' _ (.tail _ (.tail _ (.head _)))).1 (N' _ (.tail _ (.tail _ (.tail _ (.head _))))).1 ⟨F', fun q hq => N' q (.tail _ (.tail _ (.tail _ (.tail _ hq))))⟩
    · rintro h₂ tk₂ m₂ ys hC₂ hg₂ hD₂ ⟨F₂, N₂⟩
      refine ⟨m₂, hC₂, fun h'' hs'' => fin H1.objs.size ys h'' _ (F₂.change hs'' (Ne.symm (old _ _ hoL).2.1) C0) (fun q hq => ?_) (fun q hq => (old _ _ (N q hq).1).1) hg₂⟩
      rcases List.mem_cons.mp hq with rfl | hq
      · exact ⟨hs''.extBut _ _ nDC hD₂, Ne.symm (old _ _ hoL).1, D0⟩
      · exact ⟨hs''.extBut _ _ (old _ _ (N q hq).1).2.1 (N₂ q hq).1, (N q hq).2⟩
  exact codeAny_compStart_list (loop _ ⟨_, rfl⟩) (wpAny_pyIter_enum (up _ _ he) (loop _ ⟨_, rfl⟩))
end
end
section
open PySem PySem.W PySem.W.X PyProof.Rows PySem.Calls PyProof.V PySem.Spec
noncomputable def rowD (r : List Str) : PyData := .list (r.map PyData.str)
theorem rows_reads {h : Heap} : ∀ {vs : List Value} {rs : List (List Str)}, RowsAre h vs rs → ∃ as, ReadsAll h vs (rs.map rowD) as := by
  intro vs xs x
  induction x with
  | nil => exact ⟨_, .nil⟩
  | cons i r ih =>
    obtain ⟨us, n, e, hs⟩ := i
    obtain ⟨as, ra⟩ := ih
    exact ⟨_, .cons (reads_newData ⟨_, e, rfl, _, rfl⟩ (er_carried hs)) ra⟩
theorem r2_can : ∀ rs : List (List Str), (∀ r ∈ rs, ∀ x ∈ r, PyData.strOk x = true) → PyData.canLayAll0 (rs.map rowD) = true
  | [], _ => rfl
  | r :: t, h => by
    have z := er_canLayAll0 r (h r (.head _))
    simp [PyData.canLayAll0, PyData.canLay0, rowD, z, r2_can t fun y hy => h y (.tail _ hy)]
theorem r2_depth : ∀ rs : List (List Str), PyData.depthAll (rs.map rowD) ≤ 1
  | [] => Nat.zero_le _
  | r :: t => by
    have z := er_depthAll r
    have y := r2_depth t
    simp [PyData.depthAll, PyData.depth, rowD, z] at y ⊢
    exact Nat.max_le.mpr ⟨Nat.le_refl _, y⟩
theorem r2_shaped (rs : List (List Str)) (h : ∀ r ∈ rs, ∀ x ∈ r, PyData.strOk x = true) : SeqAt.shaped (.list (rs.map rowD)) = true := by
  have z := r2_depth rs
  simp [SeqAt.shaped, PyData.canLay0, PyData.depth, r2_can rs h]
  omega
theorem r2_same (r q : List Str) : PySem.Spec.same (rowD r) (rowD q) = decide (r = q) := by
  simp only [rowD, PySem.Spec.same]
  exact er_sameAll r q
theorem r2_sameAll : ∀ rs qs : List (List Str), PySem.Spec.sameAll (rs.map rowD) (qs.map rowD) = decide (rs = qs)
  | [], [] => by simp [PySem.Spec.sameAll]
  | [], _ :: _ => by simp [PySem.Spec.sameAll]
  | _ :: _, [] => by simp [PySem.Spec.sameAll]
  | a :: r, b :: t => by
    simp only [List.map_cons, PySem.Spec.sameAll, r2_same, r2_sameAll r t]
    by_cases h : a = b <;> by_cases h' : r = t <;> simp [h, h']
theorem r2_eqv (r q : List Str) : PyData.eqv (rowD r) (rowD q) = decide (r = q) := by
  rw [← SeqAt.same_eq_eqv (rowD r) (rowD q) (SeqAt.noMix_of_shape (.list .str) rfl _ _ (list_map_has fun _ => rfl) (list_map_has fun _ => rfl)), r2_same]
theorem r2_any (rs : List (List Str)) (q : List Str) : ((rs.map rowD).any fun y => PyData.eqv y (rowD q)) = decide (q ∈ rs) := by
  induction rs with
  | nil => simp
  | cons r t ih =>
    rw [List.map_cons, List.any_cons, ih, r2_eqv]
    by_cases h : r = q
    · simp [h]
    · have h2 : ¬ q = r := fun e => h e.symm
      simp [h, h2]
section
variable {prog : Program} {w : World} {A : Around} {E : Value → Shared → Prop} {s : Shared} {a b l : Addr} {vs us : List Value} {rs qs : List (List Str)} {row : List Str} {Q : Value → Shared → Prop}
theorem notin_rows (hr : RowsAre s.heap vs rs) (hl : s.heap.IsList l vs.toArray) (hb : IsStrs s.heap b row) (oks : ∀ r ∈ rs, ∀ x ∈ r, PyData.strOk x = true) (okr : ∀ x ∈ row, PyData.strOk x = true) (hu : A.units + 64 < cLine) (h : Q (.bool (!decide (row ∈ rs))) s) :
    wpAny (model prog w) A (compareOp .NotIn (.ref b) (.ref l)) Q E s := by
  obtain ⟨as, ra⟩ := rows_reads hr
  obtain ⟨xs, n, e, hs⟩ := hb
  obtain ⟨o, ho, hc, k, hd⟩ := id hl
  refine SeqAt.notIn_list_reads (xs := rs.map rowD) (d := rowD row) (.list ho hc hd ra) (reads_newData ⟨_, e, rfl, _, rfl⟩ (er_carried hs)) (r2_can rs oks) (by simp [PyData.canLay0, rowD, er_canLayAll0 row okr]) ?_ (by rw [r2_any]; exact h)
  have z := r2_depth rs
  have z2 : min (PyData.depthAll (rs.map rowD)) (rowD row).depth ≤ PyData.depthAll (rs.map rowD) := Nat.min_le_left _ _
  omega
theorem eq_rows2 (hr : RowsAre s.heap vs rs) (hl : s.heap.IsList a vs.toArray) (hq : RowsAre s.heap us qs) (hb : s.heap.IsList b us.toArray) (oks : ∀ r ∈ rs, ∀ x ∈ r, PyData.strOk x = true) (okq : ∀ r ∈ qs, ∀ x ∈ r, PyData.strOk x = true) (hu : A.units + 64 < cLine) (h : Q (.bool (decide (rs = qs))) s) :
    wpAny (model prog w) A (compareOp .Eq (.ref a) (.ref b)) Q E s := by
  obtain ⟨as, ra⟩ := rows_reads hr
  obtain ⟨bs, rb⟩ := rows_reads hq
  obtain ⟨o, ho, hc, k, hd⟩ := id hl
  obtain ⟨o', ho', hc', k', hd'⟩ := id hb
  refine eq_dataH_same (da := .list (rs.map rowD)) (db := .list (qs.map rowD)) (.list ho hc hd ra) (.list ho' hc' hd' rb) (r2_shaped rs oks) (r2_shaped qs okq) hu (SeqAt.noMix_of_shape (.list (.list .str)) rfl _ _ (list_map_has fun _ => list_map_has fun _ => rfl) (list_map_has fun _ => list_map_has fun _ => rfl)) ?_
  have e : PySem.Spec.same (.list (rs.map rowD)) (.list (qs.map rowD)) = decide (rs = qs) := by simp only [PySem.Spec.same]; exact r2_sameAll rs qs
  rw [e]
  exact h
end
end
section
open PySem PySem.W PySem.W.X PyProof.Rows PySem.Calls
theorem fill12 (P : Params) (h : Heap) : PySem.Challenge.rw_ik0057_01 = PySem.Challenge.rw_ik0057_01 → (KM P).In h → (KM P).In h := by
  k_fill
  intro _ X
  exact X
theorem ent186 (P : Params) : (KM P).lookup 186 = some ⟨.type "function", none, .func (fnOf (Str.ofString "_law_due") (Str.ofString "_law_due") (dParams (stAt 29)) (dBody (stAt 29)) (dScope (stAt 29)) .none .none .none (.str (Str.ofString "law_ik0057_01") 398) none (.ref 185) .none), #[]⟩ := by kernel_rfl
/-- a comprehension with a test, by an invariant -/
theorem restT_ind {prog : Program} {w : World} {A : Around} {h₀ : Heap} {L : Addr} {m : Str → Option Value} {env : Env} {ct elt : Expr} {x : Str} {scope : Scope} {cl : List (Str × Addr)} {s : Shared} {S : List (Addr × Obj) → Prop} {P : Nat → Value → Prop} {Fin : List Value → List (Addr × Obj) → Prop} {news : List (Addr × Obj)} {n : Nat}
    (Inv : Nat → List Value → List (Addr × Obj) → Prop) (base : Inv 0 [] news)
    (turn : ∀ i ys news v I oI C oC D m₂ h tk (E' : Value → Shared → Prop), i < n → Inv i ys news → P i v → LCg.NsObj oC m₂ → m₂ x = some v → Fr h₀ L h m → News h₀ L h ((I, oI) :: (C, oC) :: (D, LCg.lst ys) :: news) → LCg.Off3 I C D news → ((@Ne Nat I C) ∧ (@Ne Nat I D) ∧ (@Ne Nat C D)) →
      wpAny (model prog w) A (isTrue ct (compEnvC scope cl C env) (eval ct (compEnvC scope cl C env))) (fun ok s' => if ok = true then
        wpAny (model prog w) A (eval elt (compEnvC scope cl C env)) (Halt (LCg.CompEnd h₀ L m { s with heap := h, toks := tk } I oI C oC D (LCg.lst ys) S (fun y news' => Inv (i + 1) (ys ++ [y]) news'))) E' s'
        else Halt (LCg.CompEnd h₀ L m { s with heap := h, toks := tk } I oI C oC D (LCg.lst ys) S (fun _ news' => Inv (i + 1) ys news')) Value.none s') E' { s with heap := h, toks := tk })
    (fin : ∀ ys news, Inv n ys news → Fin ys news) : LCt.CompRestT prog w A h₀ L m env ct elt x scope cl s S P Fin n 0 [] news := by
  have key : ∀ (j i : Nat) (ys : List Value) (news : List (Addr × Obj)), i + j = n → Inv i ys news → LCt.CompRestT prog w A h₀ L m env ct elt x scope cl s S P Fin j i ys news := by
    intro j
    induction j with
    | zero =>
      intro i ys news hi hy
      obtain rfl : i = n := by omega
      exact LCt.CompRestT.zero (fin ys news hy)
    | succ j ih =>
      intro i ys news hi hy
      refine LCt.CompRestT.succ ?_
      intro v I oI C oC D m₂ h tk E' hv hC hx F N off ne
      refine wpAny_mono (turn i ys news v I oI C oC D m₂ h tk E' (by omega) hy hv hC hx F N off ne) (fun ok s₂ hq => ?_) fun _ _ e => e
      cases ok with
      | true =>
        simp only [if_true] at hq ⊢
        refine wpAny_mono hq (fun y s₃ hq => ?_) fun _ _ e => e
        obtain ⟨h', tk', nw, e, F', N', off', hS, hn⟩ := hq
        exact ⟨h', tk', nw, e, F', N', off', hS, ih (i + 1) _ _ (by omega) hn⟩
      | false =>
        simp only [Bool.false_eq_true, if_false] at hq ⊢
        obtain ⟨h', tk', nw, e, F', N', off', hS, hn⟩ := hq
        exact ⟨h', tk', nw, e, F', N', off', hS, ih (i + 1) _ _ (by omega) hn⟩
  exact key n 0 [] news (by omega) base
noncomputable def ListsO (own : List (Addr × Obj)) : Prop := ∀ p ∈ own, ∃ us n, p.2.data = .seq us n
noncomputable def Own (own : List (Addr × Obj)) (zs : List Value) (rows : List (List Str)) : Prop := ∀ h' : Heap, (∀ p ∈ own, h'.get? p.1 = some p.2) → RowsAre h' zs rows
noncomputable def cells5 (L : Addr) (oa ob oc od oe : Obj) : List (Addr × Obj) := [(L + 1 + 1 + 1 + 1 + 1, oa), (L + 1 + 1 + 1 + 1, ob), (L + 1 + 1 + 1, oc), (L + 1 + 1, od), (L + 1, oe)]
/-- the rows of the numbers that aren't of the kind k -/
noncomputable def sideP (k : Int) (ns : List Int) : List (List Str) := (ns.filter fun x => !decide ((x.fdiv 4).fmod 3 = k)).map rowOf
theorem sideP_yes {k : Int} {ns : List Int} {i : Nat} {x : Int} (h : ns[i]? = some x) (kE : ¬ ((x.fdiv 4).fmod 3 = k)) : sideP k (ns.take (i + 1)) = sideP k (ns.take i) ++ [rowOf x] := by
  unfold sideP
  rw [List.take_add_one, h, List.filter_append, List.map_append]
  simp [kE]
theorem sideP_no {k : Int} {ns : List Int} {i : Nat} {x : Int} (h : ns[i]? = some x) (kE : (x.fdiv 4).fmod 3 = k) : sideP k (ns.take (i + 1)) = sideP k (ns.take i) := by
  unfold sideP
  rw [List.take_add_one, h, List.filter_append, List.map_append]
  simp [kE]
section
variable {h₀ h' : Heap} {L I C D a : Addr} {m : Str → Option Value} {s₁ : Shared} {oI oC oD ob : Obj} {S : List (Addr × Obj) → Prop} {rest : Value → List (Addr × Obj) → Prop} {y : Value} {tk : Nat} {own : List (Addr × Obj)}
theorem end_new (front : List (Addr × Obj)) (F : Fr h₀ L h' m) (N : News h₀ L h' ((a, ob) :: (I, oI) :: (C, oC) :: (D, oD) :: (front ++ own))) (na : ∀ p ∈ (I, oI) :: (C, oC) :: (D, oD) :: (front ++ own), p.1 ≠ a) (off : LCg.Off3 I C D (front ++ own)) (hS : S (front ++ (a, ob) :: own)) (r : rest y (front ++ (a, ob) :: own)) :
    LCg.CompEnd h₀ L m s₁ I oI C oC D oD S rest y { s₁ with heap := h', toks := tk } := by
  refine LCg.CompEnd.intro F N (front ++ (a, ob) :: own) (fun p hp => ?_) (LCg.Off3.of fun p hp => ?_) hS r
  · simp only [List.mem_cons, List.mem_append] at hp ⊢
    rcases hp with h | h | h | h | h | h <;> simp [h]
  · simp only [List.mem_cons, List.mem_append] at hp
    rcases hp with h | h | h
    · exact off.mem p (List.mem_append_left _ h)
    · rw [h]
      exact ⟨Ne.symm (na _ (.head _)), Ne.symm (na _ (.tail _ (.head _))), Ne.symm (na _ (.tail _ (.tail _ (.head _))))⟩
    · exact off.mem p (List.mem_append_right _ h)
theorem ListsO.cons {us : Array Value} {nu : Nat} (h : ListsO own) : ListsO ((a, { cls := .type "list", dict := none, data := .seq us nu, slots := #[] }) :: own) := fun p hp => by
  rcases List.mem_cons.mp hp with rfl | hp
  · exact ⟨_, _, rfl⟩
  · exact h p hp
/-- a cell is stored into -/
theorem storeC {M : Model} {A : Around} {E : Value → Shared → Prop} {s : Shared} {h₀ : Heap} {L a : Addr} {m : Str → Option Value} {cn : Str} {cs : Scope} {ccd : Value} {cl : List (Str × Addr)} {x : Str} {v : Value} {Q : Unit → Shared → Prop} {news front lists : List (Addr × Obj)} {c : Addr} {o : Obj} {v₀ : Option Value}
    (F : Fr h₀ L s.heap m) (N : News h₀ L s.heap news) (hc : cl.lookup x = some c) (hm : (c, o) ∈ news) (hd : o.data = .cell v₀) (hne : ∀ p ∈ front, @Ne Nat p.1 c) (hl : ListsO lists) (sub : ∀ p ∈ front ++ lists, p ∈ news)
    (h : ∀ h' o', Fr h₀ L h' m → News h₀ L h' ((c, o') :: (front ++ lists)) → o'.data = .cell (some v) → Q () { s with heap := h' })
    (hk : cs.kind = .function := by rfl) (hx : (envX cn cs L a ccd cl).kindOf x = some .cell := by rfl) : wpAny M A (storeName (envX cn cs L a ccd cl) x v) Q E s := by
  have N' : News h₀ L s.heap ((c, o) :: (front ++ lists)) := fun p hp => by
    rcases List.mem_cons.mp hp with rfl | hp
    · exact N _ hm
    · exact N _ (sub p hp)
  have ne : ∀ p ∈ front ++ lists, p.1 ≠ c := fun p hp => by
    rcases List.mem_append.mp hp with hp' | hp'
    · exact hne p hp'
    · intro q
      have e1 := (N' _ (.tail _ hp)).1
      rw [q, (N _ hm).1] at e1
      cases e1
      obtain ⟨us, n, e⟩ := hl p hp'
      rw [hd] at e
      cases e
  exact storeX_C F N' hc (UpdF.head ne) hd h hk hx
theorem Own.cons {zs : List Value} {rows : List (List Str)} {row : List Str} {us : List Value} {nu : Nat} (h : Own own zs rows) (hus : StrsAre us row) : Own ((a, { cls := .type "list", dict := none, data := .seq us.toArray nu, slots := #[] }) :: own) (zs ++ [.ref a]) (rows ++ [row]) := fun h3 q =>
  RowsAre.snoc ⟨us, nu, q _ (.head _), hus⟩ (h h3 fun p hp => q p (.tail _ hp))
theorem Own.more {zs : List Value} {rows : List (List Str)} (h : Own own zs rows) : Own ((a, ob) :: own) zs rows := fun h3 q => h h3 fun p hp => q p (.tail _ hp)
end
theorem sideP_len (k : Int) (ns : List Int) : (sideP k ns).length ≤ ns.length := by
  unfold sideP
  rw [List.length_map]
  exact List.length_filter_le _ _
/-- what the third comprehension keeps -/
noncomputable def keepB (rows there : List (List Str)) (j : Nat) : Bool := match rows[j]? with
  | some r => !decide (r ∈ rows.take j) && !decide (r ∈ there)
  | none => false
noncomputable def keepT (rows there : List (List Str)) : Nat → List (List Str)
  | 0 => []
  | j + 1 => if keepB rows there j = true then keepT rows there j ++ [rows[j]?.getD []] else keepT rows there j
theorem own_at {hh : Heap} {own : List (Addr × Obj)} {zs : List Value} {rows : List (List Str)} (h2 : Own own zs rows) (q : ∀ p ∈ own, hh.get? p.1 = some p.2) {i : Nat} {v : Value} (hv : zs[i]? = some v) {G : Value → Prop}
    (k : ∀ b row us n, rows[i]? = some row → hh.get? b = some { cls := .type "list", dict := none, data := .seq (us : List Value).toArray n, slots := #[] } → StrsAre us row → G (.ref b)) : G v := by
  rcases (h2 hh q).at i with ⟨q1, q2⟩ | ⟨b, row, q1, q2, us, n, hb, hs⟩
  · rw [hv] at q1; cases q1
  · rw [hv] at q1; cases q1; exact k b row us n q2 hb hs
theorem own_row {hh : Heap} {own : List (Addr × Obj)} {zs : List Value} {rows : List (List Str)} (h2 : Own own zs rows) (q : ∀ p ∈ own, hh.get? p.1 = some p.2) {i : Nat} {b : Addr} {row : List Str} (hv : zs[i]? = some (.ref b)) (hr : rows[i]? = some row) : IsStrs hh b row := by
  rcases (h2 hh q).at i with ⟨q1, q2⟩ | ⟨b', row', q1, q2, hs⟩
  · rw [hv] at q1; cases q1
  · rw [hv] at q1; cases q1
    rw [hr] at q2; cases q2
    exact hs
end
section
open PySem PySem.W PySem.W.X PyProof.Rows PySem.Calls
theorem fill13 (P : Params) (h : Heap) : PySem.Challenge.rw_ik0057_01 = PySem.Challenge.rw_ik0057_01 → (KM P).In h → (KM P).In h := by
  k_fill
  intro _ X
  exact X
set_option hygiene false in
local macro_rules | `(tactic| walk_at "subscriptTail Name Slice ref ref") => `(tactic| (refine here ?_))
set_option hygiene false in
local macro_rules | `(tactic| walk_at "compareOp NotIn ref ref") => `(tactic| (refine here ?_))
set_option hygiene false in
local macro_rules | `(tactic| walk_at "call type:enumerate") => `(tactic| (refine here ?_))
set_option hygiene false in
local macro_rules | `(tactic| walk_at "eval ListComp") => `(tactic| (refine here ?_))
noncomputable def asgV : Stmt → Expr | .Assign _ v _ => v | _ => .Constant .none 0 ⟨0, 0, 0, 0⟩
theorem pick_to {vs : List Value} {i : Nat} (h : i ≤ vs.length) : kms_pick vs none (some (i : Int)) = vs.take i := by
  unfold kms_pick kms_lo kms_hi
  have h0 : ¬ ((i : Int) < 0) := by omega
  simp only [h0, if_false, Int.toNat_natCast, Nat.min_eq_left h, List.drop_zero, Nat.sub_zero]
theorem RowsAre.take {h : Heap} : ∀ {vs : List Value} {rows : List (List Str)}, RowsAre h vs rows → ∀ i : Nat, RowsAre h (vs.take i) (rows.take i) := by
  intro vs xs x
  induction x with
  | nil => intro k; simp; exact .nil
  | cons j r ih =>
    intro k
    cases k with
    | zero => exact .nil
    | succ k => exact .cons j (ih k)
noncomputable abbrev dEnv (L : Addr) : Env := envOfC (Str.ofString "_law_due") (dScope (stAt 29)) L 186 (.ref 185)
set_option maxHeartbeats 1000000 in
theorem due_s3 {w : World} {mg mb : Str → Option Value} {h : Heap} (G : Gd w mg mb h) {L D1 D2 : Addr} {A : Around} {s : Shared} {Q E : Value → Shared → Prop} {m : Str → Option Value} {oa ob oc od oe : Obj} {own : List (Addr × Obj)} {zs1 zs2 : List Value} {there rows : List (List Str)}
   (hA : Fits 2 A) (F : Fr h L s.heap m) (N : News h L s.heap ((L + 1 + 1 + 1 + 1 + 1, oa) :: (L + 1 + 1 + 1 + 1, ob) :: (L + 1 + 1 + 1, oc) :: (L + 1 + 1, od) :: (L + 1, oe) :: (D2, LCg.lst zs2) :: own))
   (db : ob.data = .cell (some (.ref D2))) (dc : oc.data = .cell (some (.ref D1))) (hd1 : (D1, LCg.lst zs1) ∈ own) (h1 : Own own zs1 there) (h2 : Own own zs2 rows) (hz1 : there.length ≤ 100) (hz2 : rows.length ≤ 100)
   (ok1 : ∀ r ∈ there, ∀ x ∈ r, PyData.strOk x = true) (ok2 : ∀ r ∈ rows, ∀ x ∈ r, PyData.strOk x = true)
   (fin : ∀ D zs h' tk, Fr h L h' m → News h L h' ((D, LCg.lst zs) :: (L + 1 + 1 + 1 + 1 + 1, oa) :: (L + 1 + 1 + 1 + 1, ob) :: (L + 1 + 1 + 1, oc) :: (L + 1 + 1, od) :: (L + 1, oe) :: (D2, LCg.lst zs2) :: own) → (∀ q ∈ (L + 1 + 1 + 1 + 1 + 1, oa) :: (L + 1 + 1 + 1 + 1, ob) :: (L + 1 + 1 + 1, oc) :: (L + 1 + 1, od) :: (L + 1, oe) :: (D2, LCg.lst zs2) :: own, q.1 ≠ D) → Own own zs (keepT rows there rows.length) → Q (.ref D) { s with heap := h', toks := tk })
   {ex : Expr} (hex : asgV ((dBody (stAt 29))[2]?.getD (.Pass ⟨0, 0, 0, 0⟩)) = ex) : wpAny (model RP w) A (eval ex (dEnv L)) Q E s := by
  subst hex
  conv => arg 3; arg 1; whnf
  obtain ⟨hd', dp', fr', gu', un'⟩ := A
  obtain rfl : hd' = none := hA.handled
  have T := G.T
  have X := G.K
  have e2 := (h2 s.heap fun p hp => (N p (.tail _ (.tail _ (.tail _ (.tail _ (.tail _ (.tail _ hp))))))).1).length
  refine comp_enum (l := D2) (items := zs2.toArray) (env := dEnv L) (m := m) (keepB rows there) (fun i ys => Own own ys (keepT rows there i)) rfl (by with_unfolding_all rfl) (by decide) (by rfl) (by decide) (by rfl) (by rfl) (by decide) (by decide) F N (.inr ⟨_, .tail _ (.tail _ (.tail _ (.tail _ (.tail _ (.head _))))), rfl, _, rfl⟩) (by rw [List.size_toArray, sizeLine_eq]; omega) (fun _ _ => .nil) ?_ ?_ ?_ ?_
  · intro Q' hQ'
    k_steps
    refine Mine.there ?_
    refine call_enumerate_list ⟨_, (N _ (.tail _ (.tail _ (.tail _ (.tail _ (.tail _ (.head _))))))).1, rfl, _, rfl⟩ fun h' hE hI hz hk => ?_
    have hlt : ∀ b o, s.heap.get? b = some o → b < s.heap.objs.size := fun b o q => Heap.lt_size q
    k_steps
    exact hQ' h' _ _ _ hE hI (Heap.get?_none_of_le (Nat.le_succ _)) (Heap.get?_none_of_le (Nat.le_refl _)) (Nat.succ_ne_self _) hk
  · intro i ys v hg hv
    have hv' : zs2[i]? = some v := by simpa using hv
    show Own own (if keepB rows there i = true then ys ++ [v] else ys) (if keepB rows there i = true then keepT rows there i ++ [rows[i]?.getD []] else keepT rows there i)
    by_cases hb : keepB rows there i = true
    · rw [if_pos hb, if_pos hb]
      intro h' hh
      rcases (h2 h' hh).at i with ⟨q1, q2⟩ | ⟨b, row, q1, q2, hr⟩
      · rw [hv'] at q1; cases q1
      · rw [hv'] at q1
        cases q1
        rw [q2]
        exact (hg h' hh).snoc hr
    · rw [if_neg hb, if_neg hb]
      exact hg
  · intro i v t C oC D oD e oe it oi m₂ s' Q' E' hv hC ha hy F6 N6 hQ'
    have hv' : zs2[i]? = some v := by simpa using hv
    have own6 : ∀ p ∈ own, s'.heap.get? p.1 = some p.2 := fun p hp => (N6 p (.tail _ (.tail _ (.tail _ (.tail _ (.tail _ (.tail _ (.tail _ (.tail _ (.tail _ (.tail _ hp))))))))))).1
    rcases (h2 _ own6).at i with ⟨q1, q2⟩ | ⟨b, row, q1, q2, hr6⟩
    · rw [hv'] at q1; cases q1
    rw [hv'] at q1
    cases q1
    have hil : i < zs2.length := (List.getElem?_eq_some_iff.mp hv').1
    have hrow := List.mem_of_getElem? q2
    rw [show keepB rows there i = (!decide (row ∈ rows.take i) && !decide (row ∈ there)) by unfold keepB; rw [q2]] at hQ'
    have hun : un' + 64 < cLine := by have := hA.units; rw [show cLine = 9900 from rfl]; show un' + 64 < _; dsimp only at this; omega
    k_steps
    refine Mine.there ?_
    refine kms_slice_lit (s := s') (zs := zs2.take i) F6 N6 ⟨_, (N6 _ (.tail _ (.tail _ (.tail _ (.tail _ (.tail _ (.tail _ (.tail _ (.tail _ (.tail _ (.head _))))))))))).1, rfl, _, rfl⟩ (by kmk_part) (by kmk_part) (pick_to (vs := zs2) (by omega)) ?_ (by with_unfolding_all rfl) (by kmk_pure) (by rw [sizeLine_eq]; show zs2.length ≤ _; omega)
    intro D4 h8 F8 N8 l8
    have own8 : ∀ p ∈ own, h8.get? p.1 = some p.2 := fun p hp => (N8 p (.tail _ (.tail _ (.tail _ (.tail _ (.tail _ (.tail _ (.tail _ (.tail _ (.tail _ (.tail _ (.tail _ hp)))))))))))).1
    rcases (h2 _ own8).at i with ⟨q3, q4⟩ | ⟨b', row', q3, q4, hr8⟩
    · rw [hv'] at q3; cases q3
    rw [hv'] at q3
    cases q3
    rw [q2] at q4
    cases q4
    k_steps
    refine Mine.there ?_
    refine notin_rows ((h2 _ own8).take i) ⟨_, (N8 _ (.head _)).1, rfl, _, rfl⟩ hr8 (fun r hr => ok2 r (List.mem_of_mem_take hr)) (ok2 row hrow) hun ?_
    cases hk1 : decide (row ∈ rows.take i)
    · rw [hk1] at hQ'
      simp only [Bool.not_false, Bool.true_and] at hQ' ⊢
      k_steps
      refine Mine.there ?_
      refine notin_rows (h1 _ own8) ⟨_, own8 _ hd1, rfl, _, rfl⟩ hr8 ok1 (ok2 row hrow) hun ?_
      cases hk2 : decide (row ∈ there)
      · rw [hk2] at hQ'
        simp only [Bool.not_false] at hQ' ⊢
        k_steps
        exact hQ' _ _ F8 (fun p hp => N8 p (.tail _ hp))
      · rw [hk2] at hQ'
        simp only [Bool.not_true] at hQ' ⊢
        k_steps
        exact hQ' _ _ F8 (fun p hp => N8 p (.tail _ hp))
    · rw [hk1] at hQ'
      simp only [Bool.not_true, Bool.false_and] at hQ' ⊢
      k_steps
      exact hQ' _ _ F8 (fun p hp => N8 p (.tail _ hp))
  · intro D3 zs3 h7 tk7 F7 N7 ne7 hown3
    rw [List.size_toArray, e2] at hown3
    exact fin _ _ _ _ F7 N7 ne7 hown3
end
section
open PySem PySem.W PySem.W.X PyProof.Rows
/-- a for loop over a list whose target is stored by the turn itself (a cell) -/
theorem for_listA {prog : Program} {w : World} {A : Around} {E : Value → Shared → Prop} {x : Str} {px pos : Pos} {iter : Expr} {body : List Stmt} {env : Env} {p : Addr} {items : Array Value} {h₀ : Heap} {m : Str → Option Value} {news : List (Addr × Obj)} {s : Shared} {Q : Flow → Shared → Prop}
    (hh : A.handled = none) (Inv : Nat → (Str → Option Value) → List (Addr × Obj) → Prop) (hS : ∀ i m news, Inv i m news → LCg.SrcAt h₀ p items news) (hev : ∀ {Q' : Value → Shared → Prop}, Q' (.ref p) s → wpAny (model prog w) A (eval iter env) Q' E s)
    (F : Fr h₀ env.locals s.heap m) (N : News h₀ env.locals s.heap news) (h0 : Inv 0 m news)
    (turn : ∀ i v m news I oI h tk (E' : Value → Shared → Prop), items[i]? = some v → Inv i m news → Fr h₀ env.locals h m → News h₀ env.locals h ((I, oI) :: news) → (∀ p ∈ news, p.1 ≠ I) →
      wpAny (model prog w) A (assign (.Name x px) env v) (fun _ s' => wpAny (model prog w) A (execs body env) (Turn h₀ env.locals I oI { s with heap := h, toks := tk } (Inv (i + 1))) E' s') E' { s with heap := h, toks := tk })
    (fin : ∀ m news h tk, Inv items.size m news → Fr h₀ env.locals h m → News h₀ env.locals h news → Q .next { s with heap := h, toks := tk })
    (hs : ∀ x, foldedSetIterable iter env x = pure x := by intro _; rfl) :
    wpAny (model prog w) A (exec (.For (.Name x px) iter body [] pos) env) Q E s := by
  refine wpAny_For (hev ?_) hs
  have hT : s.heap.IsList p items := (hS _ _ _ h0).list F.keep N
  refine wpAny_pyIter_list hT ?_
  have hlt : p < s.heap.objs.size := by obtain ⟨o, e, _⟩ := hT; exact Heap.lt_size e
  have up : ∀ b o, s.heap.get? b = some o → (s.heap.push { cls := .type "list_iterator", data := .fields #[.ref p, .int 0 0] }).get? b = some o := fun b o e => Heap.get?_push_of_some _ e
  have hIL : env.locals ≠ s.heap.objs.size := Nat.ne_of_lt F.ns.lt
  have hI₀ : h₀.get? s.heap.objs.size = none := Heap.get?_none_of_le (Nat.le_trans F.above (Nat.le_of_lt F.ns.lt))
  have off0 : ∀ q ∈ news, q.1 ≠ s.heap.objs.size := fun q hq => Nat.ne_of_lt (Heap.lt_size (N q hq).1)
  have W := Walks.list (prog := prog) (w := w) hh s.heap.objs.size p (Nat.ne_of_lt hlt) items
  have st0 : (s.heap.push { cls := .type "list_iterator", data := .fields #[.ref p, .int 0 0] }).IsListIter s.heap.objs.size p 0 := ⟨_, Heap.get?_push_size _ rfl, rfl, rfl⟩
  have F0 := F.keeps up
  have N0 := N.grown up
  generalize s.heap.objs.size = I at *
  generalize (s.heap.push { cls := .type "list_iterator", data := .fields #[.ref p, .int 0 0] }) = H0 at *
  refine codeAny_forLoop (LoopI Inv (fun i h' => h'.IsListIter I p i) h₀ env.locals I items.size s) ?_ (items.size + 1) (LoopI.mk (i := 0) (tk := s.toks) (Nat.zero_le _) st0 F0 N0 h0 off0)
  intro k s' hq1
  apply LoopI.elim hq1
  clear hq1
  intro h' tk i m' news' hi hst' F' N' hI offI
  have hl' : h'.IsList p items := (hS _ _ _ hI).list F'.keep N'
  by_cases hlt : i < items.size
  · refine W.item i _ _ _ hlt ⟨hst', hl'⟩ fun v h₂ tk₂ hPv hst₂ hk₂ => ?_
    have F₂ : Fr h₀ env.locals h₂ m' := LCg.fr_but F' hk₂ hIL hI₀
    have N₂ := LCg.news_but N' hk₂ offI
    refine hide fun G2 hG2 => ?_
    obtain ⟨oI, eI, rI⟩ := hst₂.1
    refine hG2 ?_
    clear hG2
    have N₃ : News h₀ env.locals h₂ ((I, oI) :: news') := fun p hp => by
      rcases List.mem_cons.mp hp with rfl | hp
      · exact ⟨eI, Ne.symm hIL, hI₀⟩
      · exact N₂ p hp
    refine wpAny_mono (turn i v m' news' I oI h₂ _ _ hPv hI F₂ N₃ offI) (fun _ s₃ hq => wpAny_mono hq (fun f s₄ hq => ?_) fun _ _ e => e) fun _ _ e => e
    apply Turn.elim hq
    clear hq
    intro f h₄ tk₄ m₄ news₄ hf F₄ N₄ hI₄ off₄
    have z : ∃ mm, mm < items.size + 1 - i ∧ LoopI Inv (fun i h' => h'.IsListIter I p i) h₀ env.locals I items.size s mm { s with heap := h₄, toks := tk₄ } :=
      ⟨items.size + 1 - (i + 1), Nat.sub_lt_sub_left (Nat.lt_succ_of_lt hlt) (Nat.lt_succ_self i), LoopI.mk hlt ⟨oI, (N₄ _ (.head _)).1, rI⟩ F₄ (fun p hp => N₄ p (.tail _ hp)) hI₄ off₄⟩
    rcases hf with rfl | rfl <;> exact z
  · obtain rfl : i = items.size := Nat.le_antisymm hi (Nat.not_lt.mp hlt)
    refine W.done _ _ _ ⟨hst', hl'⟩ fun h₂ tk₂ hk₂ => ?_
    exact wpAny_execs_nil (fin m' news' h₂ tk₂ hI (LCg.fr_but F' hk₂ hIL hI₀) (LCg.news_but N' hk₂ offI))
/-- l[k] = v within the list -/
theorem set_any {prog : Program} {w : World} {A : Around} {E : Value → Shared → Prop} {s : Shared} {h₀ : Heap} {L D : Addr} {m : Str → Option Value} {news news' : List (Addr × Obj)} {ws : List Value} {n : Nat} {k : Int} {j : Nat} {t : Tok} {v : Value} {Q : Unit → Shared → Prop}
    (F : Fr h₀ L s.heap m) (N : News h₀ L s.heap news) (hk : k = j) (hj : j < ws.length) (hfit : ws.length ≤ 1000) (U : Upd D (PySem.W.listOf ws.toArray n) (PySem.W.listOf (ws.set j v).toArray n) news news')
    (h : ∀ h', Fr h₀ L h' m → News h₀ L h' news' → Q () { s with heap := h' }) : wpAny (model prog w) A (setItem (.ref D) (.int k t) v) Q E s := by
  subst hk
  refine hide fun G4 hG4 => ?_
  obtain ⟨pre, post, rfl, rfl, a, b⟩ := U.split
  refine hG4 ?_
  clear hG4
  have z := N (D, PySem.W.listOf ws.toArray n) (List.mem_append.mpr (.inr (.head _)))
  refine ki_setAt z.1 (Int.natCast_nonneg _) (by omega) (by rw [List.size_toArray]; omega) (h _ (F.change (Heap.SameBut.update ..) z.2.1 z.2.2) (ki_turn _ N a b ?_ ?_))
  · show ws.toArray.setIfInBounds (j : Int).toNat v = (ws.set j v).toArray
    rw [Int.toNat_natCast]
    apply Array.toList_inj.mp
    simp
  · simp
end
section
open PySem PySem.W PySem.W.X PyProof.Rows PySem.Calls
theorem fill14 (P : Params) (h : Heap) : PySem.Challenge.rw_ik0057_01 = PySem.Challenge.rw_ik0057_01 → (KM P).In h → (KM P).In h := by
  k_fill
  intro _ X
  exact X
theorem RowsAre.set {h : Heap} {b : Addr} {row : List Str} (i : IsStrs h b row) : ∀ {vs : List Value} {rows : List (List Str)}, RowsAre h vs rows → ∀ k : Nat, RowsAre h (vs.set k (.ref b)) (rows.set k row) := by
  intro vs xs x
  induction x with
  | nil => intro k; simp; exact .nil
  | cons j r ih =>
    intro k
    cases k with
    | zero => exact .cons i r
    | succ k => exact .cons j (ih k)
theorem RowsAre.rep {h : Heap} {b : Addr} {row : List Str} (i : IsStrs h b row) : ∀ n : Nat, RowsAre h (List.replicate n (.ref b)) (List.replicate n row)
  | 0 => .nil
  | n + 1 => .cons i (RowsAre.rep i n)
theorem rep_flat (n : Nat) (v : Value) : (List.replicate n [v]).flatten = List.replicate n v := by
  induction n with
  | zero => rfl
  | succ n ih => simp [List.replicate_succ, ih]
theorem ltR_irrefl : ∀ r : List Str, ltR r r = false
  | [] => rfl
  | x :: r => by
    unfold ltR
    simp [ltR_irrefl r]
noncomputable def cntP (rows : List (List Str)) (row : List Str) : Nat := (rows.filter fun one => ltR one row).length
noncomputable def orderP (rows : List (List Str)) (i : Nat) : List (List Str) := (rows.take i).foldl (fun acc row => acc.set (cntP rows row) row) (List.replicate rows.length [])
theorem orderP_next {rows : List (List Str)} {i : Nat} {row : List Str} (h : rows[i]? = some row) : orderP rows (i + 1) = (orderP rows i).set (cntP rows row) row := by
  unfold orderP
  rw [List.take_add_one, h, List.foldl_append]
  rfl
theorem cntP_lt {rows : List (List Str)} {row : List Str} (h : row ∈ rows) : cntP rows row < rows.length := by
  unfold cntP
  refine List.length_filter_lt_length_iff_exists.mpr ⟨row, h, ?_⟩
  simp [ltR_irrefl]
set_option hygiene false in
local macro_rules | `(tactic| walk_at "eval ListComp") => `(tactic| (refine here ?_))
set_option hygiene false in
local macro_rules | `(tactic| walk_at "compareOp Lt ref ref") => `(tactic| (refine here ?_))
set_option hygiene false in
local macro_rules | `(tactic| walk_at "call builtin:len") => `(tactic| (refine here ?_))
set_option hygiene false in
local macro_rules | `(tactic| walk_at "binaryOp Mult ref int") => `(tactic| (refine here ?_))
set_option hygiene false in
local macro_rules | `(tactic| walk_at "setItem ref int ref") => `(tactic| (refine here ?_))
set_option hygiene false in
local macro_rules | `(tactic| walk_at "exec For Name Name cons nil") => `(tactic| (refine here ?_))
/-- the ordering loop's invariant -/
noncomputable def OrdInv (L D5 D3 E0 : Addr) (ob oc od oe : Obj) (zs3 : List Value) (own : List (Addr × Obj)) (rows : List (List Str)) (m : Str → Option Value) (i : Nat) (m' : Str → Option Value) (nw : List (Addr × Obj)) : Prop :=
  ∃ oq os n5 cv, nw = (L + 1 + 1 + 1 + 1 + 1, oq) :: (L + 1 + 1 + 1 + 1, ob) :: (L + 1 + 1 + 1, oc) :: (L + 1 + 1, od) :: (L + 1, oe) :: (D5, PySem.W.listOf os.toArray n5) :: (D3, LCg.lst zs3) :: (E0, PySem.W.listOf #[] 0) :: own ∧ oq.data = .cell cv ∧ os.length = rows.length ∧ Own ((E0, PySem.W.listOf #[] 0) :: own) os (orderP rows i) ∧ m' = fun y => if y = Str.ofString "order" then some (.ref D5) else m y
theorem OrdInv.mk {L D5 D3 E0 : Addr} {ob oc od oe oq : Obj} {zs3 os : List Value} {own : List (Addr × Obj)} {rows : List (List Str)} {m : Str → Option Value} {i n5 : Nat} {cv : Option Value} (hq : oq.data = .cell cv) (hl : os.length = rows.length) (ho : Own ((E0, PySem.W.listOf #[] 0) :: own) os (orderP rows i)) :
    OrdInv L D5 D3 E0 ob oc od oe zs3 own rows m i (fun y => if y = Str.ofString "order" then some (.ref D5) else m y) ((L + 1 + 1 + 1 + 1 + 1, oq) :: (L + 1 + 1 + 1 + 1, ob) :: (L + 1 + 1 + 1, oc) :: (L + 1 + 1, od) :: (L + 1, oe) :: (D5, PySem.W.listOf os.toArray n5) :: (D3, LCg.lst zs3) :: (E0, PySem.W.listOf #[] 0) :: own) := ⟨oq, os, n5, cv, rfl, hq, hl, ho, rfl⟩
theorem OrdInv.elim {L D5 D3 E0 : Addr} {ob oc od oe : Obj} {zs3 : List Value} {own : List (Addr × Obj)} {rows : List (List Str)} {m m' : Str → Option Value} {i : Nat} {nw : List (Addr × Obj)} (h : OrdInv L D5 D3 E0 ob oc od oe zs3 own rows m i m' nw) {G : (Str → Option Value) → List (Addr × Obj) → Prop}
    (k : ∀ oq os n5 cv, oq.data = .cell cv → os.length = rows.length → Own ((E0, PySem.W.listOf #[] 0) :: own) os (orderP rows i) → G (fun y => if y = Str.ofString "order" then some (.ref D5) else m y) ((L + 1 + 1 + 1 + 1 + 1, oq) :: (L + 1 + 1 + 1 + 1, ob) :: (L + 1 + 1 + 1, oc) :: (L + 1 + 1, od) :: (L + 1, oe) :: (D5, PySem.W.listOf os.toArray n5) :: (D3, LCg.lst zs3) :: (E0, PySem.W.listOf #[] 0) :: own)) : G m' nw := by
  obtain ⟨oq, os, n5, cv, rfl, hq, hl, ho, rfl⟩ := h
  exact k oq os n5 cv hq hl ho
/-- the counting comprehension's invariant -/
noncomputable def CntInv (news : List (Addr × Obj)) (rows : List (List Str)) (row : List Str) (i : Nat) (ys : List Value) (nw : List (Addr × Obj)) : Prop := nw = news ∧ ys.length = ((rows.take i).filter fun one => ltR one row).length
theorem CntInv.elim {news nw : List (Addr × Obj)} {rows : List (List Str)} {row : List Str} {i : Nat} {ys : List Value} (h : CntInv news rows row i ys nw) {G : List (Addr × Obj) → Prop} (k : ys.length = ((rows.take i).filter fun one => ltR one row).length → G news) : G nw := by
  obtain ⟨rfl, h⟩ := h
  exact k h
theorem cnt_step {rows : List (List Str)} {row row2 : List Str} {i : Nat} (h : rows[i]? = some row2) : (rows.take (i + 1)).filter (fun one => ltR one row) = (rows.take i).filter (fun one => ltR one row) ++ (if ltR row2 row = true then [row2] else []) := by
  rw [List.take_add_one, h, List.filter_append]
  simp [List.filter_cons]
theorem cnt_no {rows : List (List Str)} {row row2 : List Str} {i : Nat} {ys : List Value} (h : rows[i]? = some row2) (hl : ltR row2 row = false) (k : ys.length = ((rows.take i).filter fun one => ltR one row).length) : ys.length = ((rows.take (i + 1)).filter fun one => ltR one row).length := by
  rw [cnt_step h, hl, k]
  simp
theorem cnt_yes {rows : List (List Str)} {row row2 : List Str} {i : Nat} {ys : List Value} {y : Value} (h : rows[i]? = some row2) (hl : ltR row2 row = true) (k : ys.length = ((rows.take i).filter fun one => ltR one row).length) : (ys ++ [y]).length = ((rows.take (i + 1)).filter fun one => ltR one row).length := by
  rw [cnt_step h, hl]
  simp [k]
set_option maxHeartbeats 1000000 in
theorem due_s45 {w : World} {mg mb : Str → Option Value} {h : Heap} (G : Gd w mg mb h) {L D3 : Addr} {A : Around} {s : Shared} {Q : Flow → Shared → Prop} {E : Value → Shared → Prop} {m : Str → Option Value} {oa ob oc od oe : Obj} {own : List (Addr × Obj)} {zs3 : List Value} {rows : List (List Str)}
   (hA : Fits 2 A) (F : Fr h L s.heap m) (N : News h L s.heap ((L + 1 + 1 + 1 + 1 + 1, oa) :: (L + 1 + 1 + 1 + 1, ob) :: (L + 1 + 1 + 1, oc) :: (L + 1 + 1, od) :: (L + 1, oe) :: (D3, LCg.lst zs3) :: own))
   (da : ∃ cv, oa.data = .cell cv) (db : ob.data = .cell (some (.ref D3))) (hlo : ListsO own) (h2 : Own own zs3 rows) (hz2 : rows.length ≤ 100) (ok2 : ∀ r ∈ rows, ∀ x ∈ r, PyData.strOk x = true)
   (fin : ∀ a h' tk m', Fr h L h' m' → RowsAt h' a (orderP rows rows.length) → Q (.ret (.ref a)) { s with heap := h', toks := tk })
   {ex : List Stmt} (hex : (dBody (stAt 29)).drop 3 = ex) : wpAny (model RP w) A (execs ex (dEnv L)) Q E s := by
  subst hex
  conv => arg 3; arg 1; whnf
  obtain ⟨hd', dp', fr', gu', un'⟩ := A
  obtain rfl : hd' = none := hA.handled
  have T := G.T
  have X := G.K
  have e2 := (h2 s.heap fun p hp => (N p (.tail _ (.tail _ (.tail _ (.tail _ (.tail _ (.tail _ hp))))))).1).length
  k_steps
  refine there ?_
  rename Fr _ _ _ _ => F1
  rename News _ _ _ _ => N1
  obtain ⟨D4, E0, hD4, hE0, N1s⟩ := news_two N1
  subst hD4 hE0
  clear N1s
  refine call_len_list ⟨_, (N1 _ (.tail _ (.tail _ (.tail _ (.tail _ (.tail _ (.tail _ (.tail _ (.head _))))))))).1, rfl, _, rfl⟩ (by rw [List.size_toArray]; omega) ?_
  rw [List.size_toArray, e2]
  k_steps
  refine there ?_
  refine KMa.mul (vs := [.ref E0]) (ws := List.replicate rows.length (.ref E0)) F1 N1 ⟨_, (N1 _ (.head _)).1, rfl, _, rfl⟩ (by omega) (by omega) (by simp; omega) (by rw [Int.toNat_natCast]; exact rep_flat _ _) ?_
  intro D5 h5 F5 N5 l5
  k_steps
  refine there ?_
  rename Fr _ _ _ _ => F6
  rename News _ _ _ _ => N6
  have oD : @Ne Nat D3 D5 := Nat.ne_of_lt (l5 _ (mem_i 7 rfl))
  have ownD : ∀ p ∈ own, p.1 ≠ D5 := fun p hp => Nat.ne_of_lt (l5 _ (.tail _ (.tail _ (.tail _ (.tail _ (.tail _ (.tail _ (.tail _ (.tail _ hp)))))))))
  have eD : @Ne Nat E0 D5 := Nat.ne_of_lt (l5 _ (mem_i 1 rfl))
  have cD1 : @Ne Nat (L + 1 + 1 + 1 + 1 + 1) D5 := Nat.ne_of_lt (l5 _ (mem_i 2 rfl))
  have cD2 : @Ne Nat (L + 1 + 1 + 1 + 1) D5 := Nat.ne_of_lt (l5 _ (mem_i 3 rfl))
  have cD3 : @Ne Nat (L + 1 + 1 + 1) D5 := Nat.ne_of_lt (l5 _ (mem_i 4 rfl))
  have cD4 : @Ne Nat (L + 1 + 1) D5 := Nat.ne_of_lt (l5 _ (mem_i 5 rfl))
  have cD5 : @Ne Nat (L + 1) D5 := Nat.ne_of_lt (l5 _ (mem_i 6 rfl))
  clear l5
  have N6' : News h L _ ((L + 1 + 1 + 1 + 1 + 1, oa) :: (L + 1 + 1 + 1 + 1, ob) :: (L + 1 + 1 + 1, oc) :: (L + 1 + 1, od) :: (L + 1, oe) :: (D5, PySem.W.listOf (List.replicate rows.length (.ref E0)).toArray 0) :: (D3, LCg.lst zs3) :: (E0, PySem.W.listOf #[] 0) :: own) := news_pick N6 [3, 4, 5, 6, 7, 0, 8, 2] 9
  obtain ⟨cva, da⟩ := da
  have hun : un' + 64 < cLine := by have := hA.units; rw [show cLine = 9900 from rfl]; show un' + 64 < _; dsimp only at this; omega
  refine for_listA (p := D3) (items := zs3.toArray) (h₀ := h) (env := dEnv L) rfl (OrdInv L D5 D3 E0 ob oc od oe zs3 own rows m) ?_ ?_ F6 N6' ?_ ?_ ?_
  · intro i m' nw hI
    exact OrdInv.elim (G := fun _ nw => LCg.SrcAt h D3 zs3.toArray nw) hI fun oq os n5 cv _ _ _ => .inr ⟨_, mem_i 6 rfl, rfl, _, rfl⟩
  · intro Q' q
    exact nameX_C (cl := cellsFrom (L + 1) (dScope (stAt 29)).names []) N6' (by rfl) (mem_i 1 rfl) db q
  · exact OrdInv.mk da (by simp) (fun h3 q => RowsAre.rep ⟨[], 0, q _ (.head _), .nil⟩ _)
  · intro i v m' nw I oI h7 tk7 E' hv hI
    apply OrdInv.elim hI
    clear hI
    intro oq os n5 cv hq hol hos F7 N7 off7
    clear N6 N6' F6
    have hv' : zs3[i]? = some v := by simpa using hv
    clear hv
    have hv3 := hv'
    revert hv3
    apply own_at h2 (fun p hp => (N7 p (List.mem_of_mem_drop (i := 9) hp)).1) hv'
    clear hv'
    intro b row us1 nu1 hrow _ _ hv'
    refine wpAny_assign_Name (storeC (front := [(I, oI), (L + 1 + 1 + 1 + 1, ob), (L + 1 + 1 + 1, oc), (L + 1 + 1, od), (L + 1, oe)]) (lists := (D5, PySem.W.listOf os.toArray n5) :: (D3, LCg.lst zs3) :: (E0, PySem.W.listOf #[] 0) :: own) F7 N7 (by rfl) (mem_i 1 rfl) hq ?_ (ListsO.cons (ListsO.cons (ListsO.cons hlo))) (fun p hp => pick_sub _ [0, 2, 3, 4, 5] 6 p hp) ?_)
    · exact off_c (Ne.symm (off7 _ (.head _))) (off_c (add_ne L 4 5 rfl) (off_c (add_ne L 3 5 rfl) (off_c (add_ne L 2 5 rfl) (off_c (add_ne L 1 5 rfl) off_n))))
    intro h8 o8 F8 N8 d8
    replace N8 : News h L h8 ((I, oI) :: (L + 1 + 1 + 1 + 1 + 1, o8) :: (L + 1 + 1 + 1 + 1, ob) :: (L + 1 + 1 + 1, oc) :: (L + 1 + 1, od) :: (L + 1, oe) :: (D5, PySem.W.listOf os.toArray n5) :: (D3, LCg.lst zs3) :: (E0, PySem.W.listOf #[] 0) :: own) := news_pick N8 [1, 0, 2, 3, 4, 5, 6, 7, 8] 9
    have oI1 : @Ne Nat I D5 := Ne.symm (off7 _ (mem_i 5 rfl))
    k_steps
    refine there ?_
    refine LCt.ListComp_T F8 (by with_unfolding_all rfl) (by decide) (by rfl) (by decide) (by rfl) ?_
    k_steps
    refine LCt.CompSrcT.ledger rfl F8 N8 (mem_i 7 rfl) (by rw [List.size_toArray, sizeLine_eq]; omega) ?_
    intro g'
    refine restT_ind (CntInv ((I, oI) :: (L + 1 + 1 + 1 + 1 + 1, o8) :: (L + 1 + 1 + 1 + 1, ob) :: (L + 1 + 1 + 1, oc) :: (L + 1 + 1, od) :: (L + 1, oe) :: (D5, PySem.W.listOf os.toArray n5) :: (D3, LCg.lst zs3) :: (E0, PySem.W.listOf #[] 0) :: own) rows row) ⟨rfl, rfl⟩ ?_ ?_
    · intro i2 ys nw2 v2 I2 oI2 C2 oC2 D2 m2 h9 tk9 E9 hi2 hI2 hv2
      apply CntInv.elim hI2
      clear hI2
      have hv2' : zs3[i2]? = some v2 := by simpa using hv2
      clear hv2
      intro hys hC2 hx2 F9 N9
      have own9 : ∀ p ∈ own, h9.get? p.1 = some p.2 := fun p hp => (N9 p (List.mem_of_mem_drop (i := 12) hp)).1
      revert hx2
      apply own_at h2 own9 hv2'
      clear hv2'
      intro b2 row2 us2 nu2 hrow2 hb2 hs2 hx2 off9 ne9
      refine strs_elim (own_row h2 own9 hv' hrow) fun us1 nu1 hb1 hs1 => ?_
      k_steps
      refine there ?_
      refine cmp_lt_rows hb2 hb1 hs2 hs1 (by show un' < cLine; omega) ?_
      cases hlt : ltR row2 row
      · k_steps
        exact LCg.CompEnd.intro F9 N9 _ (fun _ hp => hp) off9 (.inr ⟨_, mem_i 7 rfl, rfl, _, rfl⟩) ⟨rfl, cnt_no hrow2 hlt hys⟩
      · k_steps
        exact LCg.CompEnd.intro F9 N9 _ (fun _ hp => hp) off9 (.inr ⟨_, mem_i 7 rfl, rfl, _, rfl⟩) ⟨rfl, cnt_yes hrow2 hlt hys⟩
    · intro ys nw2 hI2
      apply CntInv.elim hI2
      clear hI2
      intro hys D6 h10 tk10 F10 N10 off10
      rw [List.size_toArray, e2, List.take_length] at hys
      try dsimp only
      k_steps
      refine there ?_
      have hle := List.length_filter_le (fun one => ltR one row) rows
      refine call_len_list ⟨_, (N10 _ (.head _)).1, rfl, _, rfl⟩ (by rw [List.size_toArray, hys]; omega) ?_
      rw [List.size_toArray, hys]
      have N11 : News h L h10 ((D5, PySem.W.listOf os.toArray n5) :: (I, oI) :: (L + 1 + 1 + 1 + 1 + 1, o8) :: (L + 1 + 1 + 1 + 1, ob) :: (L + 1 + 1 + 1, oc) :: (L + 1 + 1, od) :: (L + 1, oe) :: (D3, LCg.lst zs3) :: (E0, PySem.W.listOf #[] 0) :: own) := news_pick N10 [7, 1, 2, 3, 4, 5, 6, 8, 9] 10
      k_steps
      refine set_any (j := cntP rows row) F10 N11 rfl (by rw [hol]; exact cntP_lt (List.mem_of_getElem? hrow)) (by omega) (Upd.head (off_c oI1 (off_c cD1 (off_c cD2 (off_c cD3 (off_c cD4 (off_c cD5 (off_c oD (off_c eD ownD))))))))) ?_
      intro h11 F11 N12
      refine wpAny_execs_nil ⟨.inl rfl, h11, _, _, (L + 1 + 1 + 1 + 1 + 1, o8) :: (L + 1 + 1 + 1 + 1, ob) :: (L + 1 + 1 + 1, oc) :: (L + 1 + 1, od) :: (L + 1, oe) :: (D5, PySem.W.listOf (os.set (cntP rows row) (.ref b)).toArray n5) :: (D3, LCg.lst zs3) :: (E0, PySem.W.listOf #[] 0) :: own, rfl, F11, news_pick N12 [1, 2, 3, 4, 5, 6, 0, 7, 8] 9, OrdInv.mk d8 (by rw [List.length_set]; exact hol) (fun hh q => ?_), ?_⟩
      · rw [orderP_next hrow]
        exact RowsAre.set (own_row h2 (fun p hp => q p (.tail _ hp)) hv' hrow) (hos hh q) _
      · exact off_c (off7 (L + 1 + 1 + 1 + 1 + 1, oq) (.head _)) (off_c (off7 _ (mem_i 1 rfl)) (off_c (off7 _ (mem_i 2 rfl)) (off_c (off7 _ (mem_i 3 rfl)) (off_c (off7 _ (mem_i 4 rfl)) (off_c (Ne.symm oI1) fun q hq => off7 q (List.mem_of_mem_drop (i := 6) hq))))))
  · intro m' nw h7 tk7 hI
    apply OrdInv.elim hI
    clear hI
    intro oq os n5 cv hq hol hos F7 N7
    dsimp only
    k_steps
    rw [List.size_toArray, e2] at hos
    exact fin D5 h7 _ _ F7 ⟨os, n5, (N7 _ (mem_i 5 rfl)).1, hos h7 fun p hp => (N7 p (List.mem_of_mem_drop (i := 7) hp)).1⟩
end
section
open PySem PySem.W PySem.W.X PyProof.Rows PySem.Calls
set_option hygiene false in
local macro_rules | `(tactic| walk_at "subscriptTail Name Slice ref ref") => `(tactic| (refine here ?_))
set_option hygiene false in
local macro_rules | `(tactic| walk_at "compareOp NotIn ref ref") => `(tactic| (refine here ?_))
set_option hygiene false in
local macro_rules | `(tactic| walk_at "call type:enumerate") => `(tactic| (refine here ?_))
set_option hygiene false in
local macro_rules | `(tactic| walk_at "eval ListComp") => `(tactic| (refine here ?_))
theorem fill15 (P : Params) (h : Heap) : PySem.Challenge.rw_ik0057_01 = PySem.Challenge.rw_ik0057_01 → (KM P).In h → (KM P).In h := by
  k_fill
  intro _ X
  exact X
theorem nameOf_ok (i : Int) : PyData.strOk (nameOf i) = true := by
  unfold nameOf
  split
  · decide +kernel
  split <;> decide +kernel
theorem sideP_ok (k : Int) (ns : List Int) : ∀ r ∈ sideP k ns, ∀ x ∈ r, PyData.strOk x = true := by
  intro r hr x hx
  unfold sideP at hr
  obtain ⟨y, _, rfl⟩ := List.mem_map.mp hr
  unfold rowOf at hx
  obtain ⟨z, _, rfl⟩ := List.mem_map.mp hx
  exact nameOf_ok _
theorem keepT_len (rows there : List (List Str)) : ∀ j : Nat, (keepT rows there j).length ≤ j
  | 0 => Nat.le_refl _
  | j + 1 => by
    unfold keepT
    have := keepT_len rows there j
    split
    · simp; exact this
    · omega
theorem keepT_mem {rows there : List (List Str)} : ∀ {j : Nat} {r : List Str}, r ∈ keepT rows there j → r ∈ rows
  | 0, r, h => by cases h
  | j + 1, r, h => by
    unfold keepT at h
    split at h
    · rename_i hb
      rcases List.mem_append.mp h with h | h
      · exact keepT_mem h
      · rw [List.mem_singleton] at h
        unfold keepB at hb
        cases e : rows[j]? with
        | none => rw [e] at hb; cases hb
        | some q => rw [h, e]; exact List.mem_of_getElem? e
    · exact keepT_mem h
/-- what is due -/
noncomputable def due3 (k j : Int) (ns : List Int) : List (List Str) := keepT (sideP j ns) (sideP k ns) (sideP j ns).length
noncomputable def dueP (k j : Int) (ns : List Int) : List (List Str) := orderP (due3 k j ns) (due3 k j ns).length
/-- the collecting comprehensions' invariant -/
noncomputable def SideInv (P : List (Addr × Obj) → Prop) (L : Addr) (oa ob oc od oe : Obj) (k : Int) (ns : List Int) (i : Nat) (ys : List Value) (nw : List (Addr × Obj)) : Prop :=
  ∃ own, nw = (L + 1 + 1 + 1 + 1 + 1, oa) :: (L + 1 + 1 + 1 + 1, ob) :: (L + 1 + 1 + 1, oc) :: (L + 1 + 1, od) :: (L + 1, oe) :: own ∧ ListsO own ∧ Own own ys (sideP k (ns.take i)) ∧ P own
theorem SideInv.mk {P : List (Addr × Obj) → Prop} {L : Addr} {oa ob oc od oe : Obj} {k : Int} {ns : List Int} {i : Nat} {ys : List Value} {own : List (Addr × Obj)} (h1 : ListsO own) (h2 : Own own ys (sideP k (ns.take i))) (h3 : P own) :
    SideInv P L oa ob oc od oe k ns i ys ((L + 1 + 1 + 1 + 1 + 1, oa) :: (L + 1 + 1 + 1 + 1, ob) :: (L + 1 + 1 + 1, oc) :: (L + 1 + 1, od) :: (L + 1, oe) :: own) := ⟨own, rfl, h1, h2, h3⟩
theorem SideInv.elim {P : List (Addr × Obj) → Prop} {L : Addr} {oa ob oc od oe : Obj} {k : Int} {ns : List Int} {i : Nat} {ys : List Value} {nw : List (Addr × Obj)} (h : SideInv P L oa ob oc od oe k ns i ys nw) {G : List (Addr × Obj) → Prop}
    (q : ∀ own, ListsO own → Own own ys (sideP k (ns.take i)) → P own → G ((L + 1 + 1 + 1 + 1 + 1, oa) :: (L + 1 + 1 + 1 + 1, ob) :: (L + 1 + 1 + 1, oc) :: (L + 1 + 1, od) :: (L + 1, oe) :: own)) : G nw := by
  obtain ⟨own, rfl, h1, h2, h3⟩ := h
  exact q own h1 h2 h3
theorem own_yes {k : Int} {ns : List Int} {i : Nat} {x : Int} {own : List (Addr × Obj)} {ys : List Value} (h : ns[i]? = some x) (kE : ¬ ((x.fdiv 4).fmod 3 = k)) (ho : Own own ys (sideP k (ns.take i) ++ [rowOf x])) : Own own ys (sideP k (ns.take (i + 1))) := by
  rw [sideP_yes h kE]
  exact ho
theorem own_no {k : Int} {ns : List Int} {i : Nat} {x : Int} {own : List (Addr × Obj)} {ys : List Value} (h : ns[i]? = some x) (kE : (x.fdiv 4).fmod 3 = k) (ho : Own own ys (sideP k (ns.take i))) : Own own ys (sideP k (ns.take (i + 1))) := by
  rw [sideP_no h kE]
  exact ho
theorem own_all {k : Int} {vs : List Value} {ns : List Int} (hv : IntsAre vs ns) {own : List (Addr × Obj)} {ys : List Value} (h : Own own ys (sideP k (ns.take vs.toArray.size))) : Own own ys (sideP k ns) := by
  rw [List.size_toArray, ints_len hv, List.take_length] at h
  exact h
set_option maxHeartbeats 4000000 in
theorem c_due {w : World} {mg mb : Str → Option Value} {h : Heap} (G : Gd w mg mb h) {l : Addr} {vs : List Value} {ns : List Int} {n : Nat} {k j : Int} {tk0 tj0 : Tok}
   (hl : h.get? l = some { cls := .type "list", dict := none, data := .seq vs.toArray n, slots := #[] }) (hv : IntsAre vs ns) (hn : ns.length ≤ 100) :
   Con w 3 (.ref 186) [.ref l, .int k tk0, .int j tj0] h (fun r h' => ∃ a, r = .ref a ∧ RowsAt h' a (dueP k j ns)) := by
  refine enterC G (ent186 _) (by kernel_rfl) (binds := [(Str.ofString "numbers", .ref l), (Str.ofString "kind", .int k tk0), (Str.ofString "other", .int j tj0)]) ?_ (by kernel_rfl) (by decide +kernel) ?_
  · rintro _ rfl
    with_unfolding_all rfl
  · intro A g d tk os R L h₁ cells hA hret F N Y
    conv => arg 3; arg 1; whnf
    obtain ⟨hd', dp', fr', gu', un'⟩ := A
    obtain rfl : hd' = none := hA.handled
    have T := G.T
    have X := G.K
    obtain ⟨oa, ob, oc, od, oe, hE, da, db, dc, dd, de⟩ := PyProof.Rows.kc_five Y
    subst hE
    clear Y
    replace da : oa.data = .cell none := da
    replace db : ob.data = .cell none := db
    replace dc : oc.data = .cell none := dc
    replace dd : od.data = .cell (some (.int j tj0)) := dd
    replace de : oe.data = .cell (some (.int k tk0)) := de
    have hvl : vs.toArray.size ≤ sizeLine := by rw [List.size_toArray, ints_len hv, sizeLine_eq]; omega
    k_steps
    refine there ?_
    rename Fr _ _ _ _ => F1
    rename News _ _ _ _ => N1
    refine LCt.ListComp_T F1 (by with_unfolding_all rfl) (by decide) (by rfl) (by decide) (by rfl) ?_
    k_steps
    refine LCt.CompSrcT.base rfl F1 N1 ⟨_, hl, rfl, _, rfl⟩ hvl ?_
    intro g'
    refine restT_ind (SideInv (fun _ => True) L oa ob oc od oe k ns) (SideInv.mk (fun _ hp => nomatch hp) (fun _ _ => .nil) trivial) ?_ ?_
    · intro i ys nw v' I' oI' C' oC' D' m' h' tk' E' hi hI
      apply SideInv.elim hI
      clear hI
      intro own hlo hown _ hv'
      apply ints_elim hv hv'
      clear hv'
      intro x u hxi hC' hx' F' N' off0 ne'
      have off' := off0
      simp only [LCg.Off3] at off'
      k_steps
      · have kE : ¬ ((x.fdiv 4).fmod 3 = k) := by assumption
        refine ConO.use (c_row (mg := mg) (mb := mb) (by exact G.keeps (Fr.keep (by k_asm))) x u) hA (by decide) (by k_asm) (by k_asm) ?_
        intro a h11 tk11 F11 N11 na hs
        refine strs_elim hs fun us nu ha hus => ?_
        clear hs
        replace N11 := N11 _ ha
        exact end_new [(L + 1 + 1 + 1 + 1 + 1, oa), (L + 1 + 1 + 1 + 1, ob), (L + 1 + 1 + 1, oc), (L + 1 + 1, od), (L + 1, oe)] F11 N11 na off0 (.inl ⟨_, hl, rfl, _, rfl⟩) (SideInv.mk hlo.cons (own_yes hxi kE (hown.cons hus)) trivial)
      · have kE : (x.fdiv 4).fmod 3 = k := by assumption
        exact LCg.CompEnd.intro F' N' _ (fun _ hp => hp) off0 (.inl ⟨_, hl, rfl, _, rfl⟩) (SideInv.mk hlo (own_no hxi kE hown) trivial)
    · intro zs1 nw hI
      apply SideInv.elim hI
      clear hI
      intro own1 hl1 hown1 _ D1 h2 tk2 F2 N2 off2
      replace hown1 := own_all hv hown1
      try dsimp only
      k_steps
      refine storeC (front := [(L + 1 + 1 + 1 + 1 + 1, oa), (L + 1 + 1 + 1 + 1, ob), (L + 1 + 1, od), (L + 1, oe)]) (lists := (D1, LCg.lst zs1) :: own1) F2 N2 (by rfl) (by k_mem) dc (off_c (add_ne L 5 3 rfl) ( off_c (add_ne L 4 3 rfl) ( off_c (add_ne L 2 3 rfl) ( off_c (add_ne L 1 3 rfl) (off_n))))) hl1.cons (fun p hp => pick_sub _ [1, 2, 4, 5, 0] 6 p hp) ?_
      intro h3 oc3 F3 N3 dc3
      replace N3 : News h L h3 ((L + 1 + 1 + 1 + 1 + 1, oa) :: (L + 1 + 1 + 1 + 1, ob) :: (L + 1 + 1 + 1, oc3) :: (L + 1 + 1, od) :: (L + 1, oe) :: (D1, LCg.lst zs1) :: own1) := news_pick N3 [1, 2, 0, 3, 4, 5] 6
      k_steps
      refine there ?_
      refine LCt.ListComp_T F3 (by with_unfolding_all rfl) (by decide) (by rfl) (by decide) (by rfl) ?_
      k_steps
      refine LCt.CompSrcT.base rfl F3 N3 ⟨_, hl, rfl, _, rfl⟩ hvl ?_
      intro g2'
      refine restT_ind (SideInv (fun own => (D1, LCg.lst zs1) ∈ own ∧ Own own zs1 (sideP k ns)) L oa ob oc3 od oe j ns) (SideInv.mk hl1.cons (fun _ _ => .nil) ⟨.head _, hown1.more⟩) ?_ ?_
      · intro i ys nw v' I' oI' C' oC' D' m' h' tk' E' hi hI
        apply SideInv.elim hI
        clear hI
        intro own hlo hown hd1 hv'
        apply ints_elim hv hv'
        clear hv'
        intro x u hxi hC' hx' F' N' off0 ne'
        have off' := off0
        simp only [LCg.Off3] at off'
        k_steps
        · have kE : ¬ ((x.fdiv 4).fmod 3 = j) := by assumption
          refine ConO.use (c_row (mg := mg) (mb := mb) (by exact G.keeps (Fr.keep (by k_asm))) x u) hA (by decide) (by k_asm) (by k_asm) ?_
          intro a h11 tk11 F11 N11 na hs
          refine strs_elim hs fun us nu ha hus => ?_
          clear hs
          replace N11 := N11 _ ha
          exact end_new [(L + 1 + 1 + 1 + 1 + 1, oa), (L + 1 + 1 + 1 + 1, ob), (L + 1 + 1 + 1, oc3), (L + 1 + 1, od), (L + 1, oe)] F11 N11 na off0 (.inl ⟨_, hl, rfl, _, rfl⟩) (SideInv.mk hlo.cons (own_yes hxi kE (hown.cons hus)) ⟨.tail _ hd1.1, hd1.2.more⟩)
        · have kE : (x.fdiv 4).fmod 3 = j := by assumption
          exact LCg.CompEnd.intro F' N' _ (fun _ hp => hp) off0 (.inl ⟨_, hl, rfl, _, rfl⟩) (SideInv.mk hlo (own_no hxi kE hown) hd1)
      · intro zs2 nw hI
        apply SideInv.elim hI
        clear hI
        intro own2 hl2 hown2 hd1 D2 h4 tk4 F4 N4 off4
        replace hown2 := own_all hv hown2
        try dsimp only
        k_steps
        refine storeC (front := [(L + 1 + 1 + 1 + 1 + 1, oa), (L + 1 + 1 + 1, oc3), (L + 1 + 1, od), (L + 1, oe)]) (lists := (D2, LCg.lst zs2) :: own2) F4 N4 (by rfl) (by k_mem) db (off_c (add_ne L 5 4 rfl) ( off_c (add_ne L 3 4 rfl) ( off_c (add_ne L 2 4 rfl) ( off_c (add_ne L 1 4 rfl) (off_n))))) hl2.cons (fun p hp => pick_sub _ [1, 3, 4, 5, 0] 6 p hp) ?_
        intro h5 ob5 F5 N5 db5
        replace N5 : News h L h5 ((L + 1 + 1 + 1 + 1 + 1, oa) :: (L + 1 + 1 + 1 + 1, ob5) :: (L + 1 + 1 + 1, oc3) :: (L + 1 + 1, od) :: (L + 1, oe) :: (D2, LCg.lst zs2) :: own2) := news_pick N5 [1, 0, 2, 3, 4, 5] 6
        dsimp only
        refine wpAny_execs_cons (wpAny_Assign_Name ?_)
        have lj := sideP_len j ns
        have lk := sideP_len k ns
        refine due_s3 G (hA.le (by decide)) F5 N5 db5 dc3 hd1.1 hd1.2 hown2 (by omega) (by omega) (sideP_ok k ns) (sideP_ok j ns) ?_ (by kernel_rfl)
        intro D3 zs3 h7 tk7 F7 N7 ne7 hown3
        have l3 := keepT_len (sideP j ns) (sideP k ns) (sideP j ns).length
        refine storeC (front := [(L + 1 + 1 + 1 + 1 + 1, oa), (L + 1 + 1 + 1, oc3), (L + 1 + 1, od), (L + 1, oe)]) (lists := (D3, LCg.lst zs3) :: (D2, LCg.lst zs2) :: own2) F7 N7 (by rfl) (by k_mem) db5 (off_c (add_ne L 5 4 rfl) ( off_c (add_ne L 3 4 rfl) ( off_c (add_ne L 2 4 rfl) ( off_c (add_ne L 1 4 rfl) (off_n))))) hl2.cons.cons (fun p hp => pick_sub _ [1, 3, 4, 5, 0] 6 p hp) ?_
        intro h8 ob8 F8 N8 db8
        replace N8 : News h L h8 ((L + 1 + 1 + 1 + 1 + 1, oa) :: (L + 1 + 1 + 1 + 1, ob8) :: (L + 1 + 1 + 1, oc3) :: (L + 1 + 1, od) :: (L + 1, oe) :: (D3, LCg.lst zs3) :: (D2, LCg.lst zs2) :: own2) := news_pick N8 [1, 0, 2, 3, 4, 5, 6] 7
        try dsimp only
        refine due_s45 G (hA.le (by decide)) F8 N8 ⟨_, da⟩ db8 hl2.cons hown3.more (by omega) (fun r hr => sideP_ok j ns r (keepT_mem hr)) ?_ (by kernel_rfl)
        intro a h9 tk9 m9 F9 hr9
        exact hret _ _ _ F9.keep ⟨a, rfl, hr9⟩
end
section
open PySem PySem.W PySem.W.X PyProof.Rows PySem.Calls
section
variable {prog : Program} {w : World} {A : Around} {E : Value → Shared → Prop} {s : Shared} {env : Env}
/-- y = [elt for x in t], t a tuple of the ledger -/
theorem assign_tup {elt iter : Expr} {x y : Str} {px py : Pos} {scope : Scope} {cl : List (Str × Addr)} {pos spos : Pos} {Q : Flow → Shared → Prop} {h₀ : Heap} {m : Str → Option Value} {news : List (Addr × Obj)} {ax : Addr} {its : Array Value} {k : Nat}
    (hh : A.handled = none) (hsw : swapsWith (.ListComp elt [⟨.Name x px, iter, [], 0⟩] scope pos) (some (.Name y py)) spos.line env = pure true)
    (hclos : closureFor scope env = pure cl) (hcell : ∀ z ∈ scope.names, z.2 ≠ .cell) (hkind : scope.kind = .function)
    (hnames : ∀ z ∈ scope.names, z.2 = .local → scope.names.lookup z.1 = some .local) (hx : scope.names.lookup x = some .local)
    (hy : env.kindOf y = some .local) (hp : (env.scope.kind == .class || (env.scope.kind == .module && env.locals != env.globals)) = false)
    (F : Fr h₀ env.locals s.heap m) (N : News h₀ env.locals s.heap news) (hm : (ax, ({ cls := .type "tuple", dict := none, data := .seq its k, slots := #[] } : Obj)) ∈ news) (hsz : its.size ≤ sizeLine)
    (hev : ∀ {Q' : Value → Shared → Prop}, Q' (.ref ax) s → wpAny (model prog w) A (eval iter env) Q' E s)
    (R : ∀ s₂ : Shared, (∃ h, s₂ = { s with heap := h }) → LCg.CompRest prog w A h₀ env.locals m env elt x scope cl s₂ (fun nw => (ax, ({ cls := .type "tuple", dict := none, data := .seq its k, slots := #[] } : Obj)) ∈ nw) (fun i v => its[i]? = some v) (LCg.FinA h₀ env.locals m s₂ y Q) its.size 0 [] news)
    (hs : ∀ x, foldedSetIterable iter env x = pure x := by intro _; rfl) :
    wpAny (model prog w) A (exec (.Assign [.Name y py] (.ListComp elt [⟨.Name x px, iter, [], 0⟩] scope pos) spos) env) Q E s := by
  rw [exec_Assign_Name_used _ _ _ _ hsw]
  refine wpAny_bind (wpAny_standAt (wpAny_bind ?_))
  show wpAny _ A (do let _ ← comprehension (.ListComp elt [⟨.Name x px, iter, [], 0⟩] scope pos) scope env _ (newList []) false (eval iter env) (some (assign (.Name y py) env))) _ _ s
  refine wpAny_bind (wpAny_mono (wpAny_comprehension_free (use := some (assign (.Name y py) env)) (Q := fun _ s' => Q .next s') rfl hs hclos hkind hnames
    (hev ?_)) (fun _ s' hq => wpAny_pure (wpAny_pure hq)) fun _ _ e => e)
  have hl : s.heap.IsTuple ax its := ⟨_, (N _ hm).1, rfl, _, rfl⟩
  have hlt : ax < s.heap.objs.size := by obtain ⟨_, e, _⟩ := hl; exact Heap.lt_size e
  refine wpAny_pyIter_tuple hl ?_
  have up : ∀ b o, s.heap.get? b = some o → (s.heap.push { cls := .type "tuple_iterator", data := .fields #[.ref ax, .int 0 0] }).get? b = some o := fun b o e => Heap.get?_push_of_some _ e
  refine LCg.block_U (Walks.tuple hh s.heap.objs.size ax (Nat.ne_of_lt hlt) its) hsz (fun i h st => by obtain ⟨o, e, _⟩ := st.1; exact ⟨o, e⟩)
    (fun i h h' o nw st e e' _ Nw hS => ⟨by obtain ⟨o', q, r⟩ := st.1; rw [e] at q; cases q; exact ⟨o, e', r⟩, ⟨_, (Nw _ hS).1, rfl, _, rfl⟩⟩) hcell hkind hx ⟨⟨_, Heap.get?_push_size _ rfl, rfl, rfl⟩, hl.push _⟩ (fun b hb => ?_)
      (F.keeps up) (N.grown up) (Nat.ne_of_lt F.ns.lt) (Heap.get?_none_of_le (Nat.le_trans F.above (Nat.le_of_lt F.ns.lt))) (fun p hp => Nat.ne_of_lt (Heap.lt_size (N p hp).1)) hm (R _ ⟨_, rfl⟩) ?_
  · show b < (s.heap.push _).objs.size
    rw [Heap.size_push]
    rcases List.mem_cons.mp hb with rfl | hb
    · exact Nat.lt_succ_self _
    · rw [List.mem_singleton.mp hb]; exact Nat.lt_succ_of_lt hlt
  · intro D C h' tk m' ys news' F' N' o1 hn hC₀ hD₀ hCL hDL hCD offC fin
    show wpAny _ A (assign (.Name y py) env (.ref D)) _ _ _
    refine wpAny_assign_Name (wpAny_storeName_local hy F'.ns (fun h₂ hn₂ hs₂ => ?_) hp)
    have hL₀ : h₀.get? env.locals = none := Heap.get?_none_of_le F'.above
    have F₂ : Fr h₀ env.locals h₂ (fun z => if z = y then some (.ref D) else m z) := ⟨hn₂, fun b o e => hs₂.extBut b o (fun q => by rw [q, hL₀] at e; cases e) (F'.keep b o e), F'.above⟩
    refine ⟨m', hn.sameBut hs₂ hCL, fun h'' hs'' => fin D h'' _ (F₂.change hs'' hCL hC₀) (fun p hp => ?_) o1⟩
    have z : h₂.get? p.1 = some p.2 := hs₂.extBut _ _ (N' p hp).2.1 (N' p hp).1
    refine ⟨hs''.extBut _ _ ?_ z, (N' p hp).2⟩
    rcases List.mem_cons.mp hp with rfl | hp
    · exact Ne.symm hCD
    · exact offC p hp
end
end
section
open PySem PySem.W PySem.W.X PyProof.Rows PySem.Calls
theorem fill17 (P : Params) (h : Heap) : PySem.Challenge.rw_ik0057_01 = PySem.Challenge.rw_ik0057_01 → (KM P).In h → (KM P).In h := by
  k_fill
  intro _ X
  exact X
noncomputable abbrev lEnv (L fa : Addr) (cd : Value) : Env := envOf (Str.ofString "law") (dScope (stAt 30)) L fa cd
noncomputable def backP (parts : List Str) : Str := redP (Str.ofString "/") (parts.drop 1)
noncomputable def slashP (row : List Str) : Str := Str.ofString "/" ++ Txt.join (Str.ofString "/") row
/-- a list of rows that the ledger W (or the base) keeps -/
noncomputable def RowsW (hb : Heap) (L : Addr) (W : List (Addr × Obj)) (a : Addr) (rows : List (List Str)) : Prop :=
  ∃ vs n, (hb.get? a = some { cls := .type "list", dict := none, data := .seq (vs : List Value).toArray n, slots := #[] } ∨ (a, ({ cls := .type "list", dict := none, data := .seq (vs : List Value).toArray n, slots := #[] } : Obj)) ∈ W) ∧ vs.length = rows.length ∧
    ∀ h' m', Fr hb L h' m' → (∀ p ∈ W, h'.get? p.1 = some p.2) → RowsAre h' vs rows
theorem rowsW_of {hb h : Heap} {L a : Addr} {m : Str → Option Value} {rows : List (List Str)} (F : Fr hb L h m) (r : RowsAt h a rows) : RowsW hb L (allNews hb L h) a rows := by
  obtain ⟨vs, n, e, s⟩ := r
  refine ⟨vs, n, ?_, s.length, fun h' m' F' N' => s.keeps fun b row => isStrs_but F.ns (allNews_keep F F' N')⟩
  cases q : hb.get? a with
  | some o =>
    have := F.keep _ _ q
    rw [e] at this
    cases this
    exact .inl rfl
  | none =>
    refine .inr (mem_allNews.mpr ⟨fun z => ?_, q, e⟩)
    obtain ⟨o, es, ep, eo, ed, _⟩ := F.ns
    rw [z, eo] at e
    cases e
    cases ed
theorem pick_any (vs : List Value) (i : Nat) : kms_pick vs (some (i : Int)) none = vs.drop i := by
  rcases Nat.le_total i vs.length with h | h
  · exact pick_from h
  · unfold kms_pick kms_lo kms_hi
    have h0 : ¬ ((i : Int) < 0) := by omega
    simp only [h0, if_false, Int.toNat_natCast, Nat.min_eq_right h]
    rw [List.drop_eq_nil_of_le h, List.drop_eq_nil_of_le (Nat.le_refl _), List.take_nil]
theorem strs_drop : ∀ (i : Nat) {vs : List Value} {xs : List Str}, StrsAre vs xs → StrsAre (vs.drop i) (xs.drop i)
  | 0, _, _, h => h
  | i + 1, _, _, .nil => .nil
  | i + 1, _, _, .cons _ _ r => strs_drop i r
noncomputable def eltOf : Expr → Expr | .ListComp e _ _ _ => e | e => e
noncomputable def scopeOf : Expr → Scope | .ListComp _ _ s _ => s | _ => default
noncomputable def retE : Stmt → Expr | .Return (some (.BoolOp _ [_, .Compare _ _ [e] _] _)) _ => e | _ => .Constant .none 0 ⟨0, 0, 0, 0⟩
noncomputable def pComp : Expr := asgV ((dBody (stAt 30))[3]?.getD (.Pass ⟨0, 0, 0, 0⟩))
noncomputable def qComp : Expr := retE ((dBody (stAt 30))[4]?.getD (.Pass ⟨0, 0, 0, 0⟩))
set_option hygiene false in
local macro_rules | `(tactic| walk_at "call ref") => `(tactic| (refine here ?_))
set_option hygiene false in
local macro_rules | `(tactic| walk_at "subscriptTail Name Slice ref ref") => `(tactic| (refine here ?_))
set_option hygiene false in
local macro_rules | `(tactic| walk_at "call builtin:str.join") => `(tactic| (refine here ?_))
set_option maxHeartbeats 1000000 in
theorem inner_paths {w : World} {mg mb : Str → Option Value} {hb : Heap} (G : Gd w mg mb hb) {A : Around} {k : Nat} (hA : Fits (k + 4) A) {L fa I C D a : Addr} {cd : Value} {m m₂ : Str → Option Value} {s : Shared} {Q E : Value → Shared → Prop} {oI oC oD : Obj} {nw W : List (Addr × Obj)} {rows : List (List Str)}
   (F : Fr hb L s.heap m) (N : News hb L s.heap ((I, oI) :: (C, oC) :: (D, oD) :: nw)) (hC : LCg.NsObj oC m₂) (hx : m₂ (Str.ofString "side") = some (.ref a)) (hW : ∀ p ∈ W, p ∈ nw) (hr : RowsW hb L W a rows) (hlen : rows.length ≤ 1000)
   (hsz : ∀ row ∈ rows, row.length ≤ 100 ∧ ∀ i y, (row.drop 1)[i]? = some y → (redP (Str.ofString "/") ((row.drop 1).take i)).length + y.length + 2 ≤ sizeLine)
   (fin : ∀ D' ys h' tk, Fr hb L h' m → News hb L h' ((D', LCg.lst ys) :: (I, oI) :: (C, oC) :: (D, oD) :: nw) → LCg.Off1 D' ((I, oI) :: (C, oC) :: (D, oD) :: nw) → StrsAre ys (rows.map backP) → Q (.ref D') { s with heap := h', toks := tk })
   {ex : Expr} (hex : eltOf pComp = ex) {S : Scope} (hS : scopeOf pComp = S) :
   wpAny (model RP w) A (eval ex (compEnvC S [] C (lEnv L fa cd))) Q E s := by
  subst hex hS
  conv => arg 3; arg 1; whnf
  obtain ⟨hd', dp', fr', gu', un'⟩ := A
  obtain rfl : hd' = none := hA.handled
  have T := G.T
  have X := G.K
  refine LCg.ListComp_U F (by with_unfolding_all rfl) (by decide) (by rfl) (by decide) (by rfl) ?_
  k_steps
  obtain ⟨vs, n, hsrc, hvl, hrw⟩ := hr
  have S0 : LCg.SrcAt hb a vs.toArray ((I, oI) :: (C, oC) :: (D, oD) :: nw) := by
    rcases hsrc with e | e
    · exact .inl ⟨_, e, rfl, _, rfl⟩
    · exact .inr ⟨_, .tail _ (.tail _ (.tail _ (hW _ e))), rfl, _, rfl⟩
  refine .inl ⟨a, vs.toArray, _, rfl, rfl, F, N, S0, by rw [List.size_toArray, sizeLine_eq]; omega, ?_⟩
  rintro s₂ ⟨g', rfl⟩
  clear N F
  refine rest_ind (fun i ys news => news = (I, oI) :: (C, oC) :: (D, oD) :: nw ∧ StrsAre ys ((rows.take i).map backP)) ⟨rfl, .nil⟩ ?_ ?_
  · rintro i ys _ v I2 oI2 C2 oC2 D2 m2 h9 tk9 E9 hi ⟨rfl, hys⟩ hv hC2 hx2 F9 N9 off9 ne9
    have hv' : vs[i]? = some v := by simpa using hv
    have W9 : ∀ p ∈ W, h9.get? p.1 = some p.2 := fun p hp => (N9 p (.tail _ (.tail _ (.tail _ (.tail _ (.tail _ (.tail _ (hW p hp)))))))).1
    rcases (hrw h9 _ F9 W9).at i with ⟨q1, q2⟩ | ⟨b, row, q1, q2, zs, nz, hz, hzs⟩
    · rw [hv'] at q1; cases q1
    rw [hv'] at q1
    cases q1
    obtain ⟨hl100, hred⟩ := hsz row (List.mem_of_getElem? q2)
    have hzl := strs_len hzs
    k_steps
    refine there ?_
    refine kms_slice_lit (s := ⟨h9, s.gens, s.drawn, _, s.os⟩) (zs := zs.drop 1) F9 N9 ⟨_, hz, rfl, _, rfl⟩ (by kmk_part) (by kmk_part) (pick_any zs 1) ?_ (by with_unfolding_all rfl) (by kmk_pure) (by rw [sizeLine_eq]; show zs.length ≤ _; omega)
    intro D1 h10 F10 N10 l10
    k_steps
    refine there ?_
    refine Con.use (c_reduce (mg := mg) (mb := mb) (by exact G.keeps (Fr.keep (by k_asm))) (Str.ofString "/") _ (N10 _ (.head _)).1 (strs_drop 1 hzs) hred) hA (by omega) F10 N10 ?_
    rintro r h11 tk11 F11 N11 - ⟨t11, rfl⟩
    refine LCg.CompEnd.intro F11 N11 _ (fun p hp => .tail _ hp) off9 S0 ⟨rfl, ?_⟩
    rw [List.take_add_one, q2, List.map_append]
    exact strs_snoc hys
  · rintro ys _ ⟨rfl, hys⟩ D' h' tk' F' N' o1
    rw [List.size_toArray, hvl, List.take_length] at hys
    exact fin _ _ _ _ F' N' o1 hys
set_option maxHeartbeats 1000000 in
theorem inner_slash {w : World} {mg mb : Str → Option Value} {hb : Heap} (G : Gd w mg mb hb) {A : Around} {k : Nat} (hA : Fits (k + 4) A) {L fa I C D a : Addr} {cd : Value} {m m₂ : Str → Option Value} {s : Shared} {Q E : Value → Shared → Prop} {oI oC oD : Obj} {nw W : List (Addr × Obj)} {rows : List (List Str)}
   (F : Fr hb L s.heap m) (N : News hb L s.heap ((I, oI) :: (C, oC) :: (D, oD) :: nw)) (hC : LCg.NsObj oC m₂) (hx : m₂ (Str.ofString "side") = some (.ref a)) (hW : ∀ p ∈ W, p ∈ nw) (hr : RowsW hb L W a rows) (hlen : rows.length ≤ 1000)
   (hsz : ∀ row ∈ rows, (row.map (·.length)).sum + row.length ≤ 1000 ∧ (Txt.join (Str.ofString "/") row).length ≤ 1000)
   (fin : ∀ D' ys h' tk, Fr hb L h' m → News hb L h' ((D', LCg.lst ys) :: (I, oI) :: (C, oC) :: (D, oD) :: nw) → LCg.Off1 D' ((I, oI) :: (C, oC) :: (D, oD) :: nw) → StrsAre ys (rows.map slashP) → Q (.ref D') { s with heap := h', toks := tk })
   {ex : Expr} (hex : eltOf qComp = ex) {S : Scope} (hS : scopeOf qComp = S) :
   wpAny (model RP w) A (eval ex (compEnvC S [] C (lEnv L fa cd))) Q E s := by
  subst hex hS
  conv => arg 3; arg 1; whnf
  obtain ⟨hd', dp', fr', gu', un'⟩ := A
  obtain rfl : hd' = none := hA.handled
  have T := G.T
  have X := G.K
  refine LCg.ListComp_U F (by with_unfolding_all rfl) (by decide) (by rfl) (by decide) (by rfl) ?_
  k_steps
  obtain ⟨vs, n, hsrc, hvl, hrw⟩ := hr
  have S0 : LCg.SrcAt hb a vs.toArray ((I, oI) :: (C, oC) :: (D, oD) :: nw) := by
    rcases hsrc with e | e
    · exact .inl ⟨_, e, rfl, _, rfl⟩
    · exact .inr ⟨_, .tail _ (.tail _ (.tail _ (hW _ e))), rfl, _, rfl⟩
  refine .inl ⟨a, vs.toArray, _, rfl, rfl, F, N, S0, by rw [List.size_toArray, sizeLine_eq]; omega, ?_⟩
  rintro s₂ ⟨g', rfl⟩
  clear N F
  refine rest_ind (fun i ys news => news = (I, oI) :: (C, oC) :: (D, oD) :: nw ∧ StrsAre ys ((rows.take i).map slashP)) ⟨rfl, .nil⟩ ?_ ?_
  · rintro i ys _ v I2 oI2 C2 oC2 D2 m2 h9 tk9 E9 hi ⟨rfl, hys⟩ hv hC2 hx2 F9 N9 off9 ne9
    have hv' : vs[i]? = some v := by simpa using hv
    have W9 : ∀ p ∈ W, h9.get? p.1 = some p.2 := fun p hp => (N9 p (.tail _ (.tail _ (.tail _ (.tail _ (.tail _ (.tail _ (hW p hp)))))))).1
    rcases (hrw h9 _ F9 W9).at i with ⟨q1, q2⟩ | ⟨b, row, q1, q2, zs, nz, hz, hzs⟩
    · rw [hv'] at q1; cases q1
    rw [hv'] at q1
    cases q1
    obtain ⟨hsz', hsJ⟩ := hsz row (List.mem_of_getElem? q2)
    obtain ⟨J, hJ⟩ : ∃ J, J = Txt.join (Str.ofString "/") row := ⟨_, rfl⟩
    k_steps
    refine there ?_
    refine join_listJ hJ ⟨_, hz, rfl, _, rfl⟩ hzs (by decide) (by omega) ?_
    intro t' k'
    k_steps
    refine SB.add (fun t'' k'' => ?_) (by rw [hJ, sizeLine_eq]; have e1 : (Str.ofString "/").length = 1 := by decide
                                          omega)
    refine LCg.CompEnd.intro F9 N9 _ (fun p hp => hp) off9 S0 ⟨rfl, ?_⟩
    rw [List.take_add_one, q2, List.map_append, hJ]
    exact strs_snoc hys
  · rintro ys _ ⟨rfl, hys⟩ D' h' tk' F' N' o1
    rw [List.size_toArray, hvl, List.take_length] at hys
    exact fin _ _ _ _ F' N' o1 hys
end
section
open PySem PySem.W PySem.W.X PyProof.Rows PySem.Calls
theorem fill16 (P : Params) (h : Heap) : PySem.Challenge.rw_ik0057_01 = PySem.Challenge.rw_ik0057_01 → (KM P).In h → (KM P).In h := by
  k_fill
  intro _ X
  exact X
/-- the numbers of a script -/
noncomputable def numsP (ns : List Int) : List Int := ns.take 4 ++ [74, 90, 9, 8, 30, 291]
/-- what the plain law must tell -/
structure LawOk (xs : List Int) (r : Str → Int) : Prop where
  laid : ∀ x, LaidOk (rowOf x)
  p1 : PathsOk r (pathsP 2 xs)
  p2 : PathsOk r (pathsP 1 xs)
  len : ∀ k ys, SortedBy r (pathsP k xs) ys → ys.length ≤ 1000
  ok : ∀ k ys, SortedBy r (pathsP k xs) ys → ∀ row ∈ ys.map partsP, ∀ x ∈ row, PyData.strOk x = true
  nodup : ∀ k ys, SortedBy r (pathsP k xs) ys → (ys.map partsP).Nodup
  size : ∀ k ys, SortedBy r (pathsP k xs) ys → ∀ row ∈ ys.map partsP, row.length ≤ 100 ∧ ∀ i y, (row.drop 1)[i]? = some y → (redP (Str.ofString "/") ((row.drop 1).take i)).length + y.length + 2 ≤ sizeLine
  due : ∀ k j, ∀ row ∈ dueP k j xs, (row.map (·.length)).sum + row.length ≤ 1000 ∧ (Txt.join (Str.ofString "/") row).length ≤ 1000
  dueLen : ∀ k j, (dueP k j xs).length ≤ 1000
  okP : ∀ k ys, SortedBy r (pathsP k xs) ys → ∀ row ∈ ys.map partsP, PyData.strOk (backP row) = true
  okD : ∀ k j, ∀ row ∈ dueP k j xs, PyData.strOk (slashP row) = true
  same : ∀ ys1 ys2 ms us, SortedBy r (pathsP 2 xs) ys1 → SortedBy r (pathsP 1 xs) ys2 → Diff (ys1.map partsP) (ys2.map partsP) ms us → ms.map backP = (dueP 1 2 xs).map slashP ∧ us.map backP = (dueP 2 1 xs).map slashP
theorem off1_mem {D : Addr} : ∀ {l : List (Addr × Obj)}, LCg.Off1 D l → ∀ p ∈ l, p.1 ≠ D
  | [], _, _, h => nomatch h
  | _ :: _, x, p, h => by
    rcases List.mem_cons.mp h with rfl | h
    · exact x.1
    · exact off1_mem x.2 p h
theorem Diff.sub {es as ms us : List (List Str)} (h : Diff es as ms us) : (∀ x ∈ ms, x ∈ es) ∧ ∀ x ∈ us, x ∈ as := by
  induction h with
  | nilL as => exact ⟨fun x h => (nomatch h), fun x h => h⟩
  | nilR es => exact ⟨fun x h => h, fun x h => (nomatch h)⟩
  | lt _ _ ih =>
    refine ⟨fun x hx => ?_, ih.2⟩
    rcases List.mem_cons.mp hx with rfl | hx
    · exact .head _
    · exact .tail _ (ih.1 x hx)
  | gt _ _ _ ih =>
    refine ⟨ih.1, fun x hx => ?_⟩
    rcases List.mem_cons.mp hx with rfl | hx
    · exact .head _
    · exact .tail _ (ih.2 x hx)
  | eq _ _ _ ih => exact ⟨fun x hx => .tail _ (ih.1 x hx), fun x hx => .tail _ (ih.2 x hx)⟩
theorem Diff.len {es as ms us : List (List Str)} (h : Diff es as ms us) : ms.length ≤ es.length ∧ us.length ≤ as.length := by
  induction h with
  | nilL as => exact ⟨Nat.le_refl _, Nat.le_refl _⟩
  | nilR es => exact ⟨Nat.le_refl _, Nat.le_refl _⟩
  | lt _ _ ih => exact ⟨Nat.succ_le_succ ih.1, ih.2⟩
  | gt _ _ _ ih => exact ⟨ih.1, Nat.succ_le_succ ih.2⟩
  | eq _ _ _ ih => exact ⟨Nat.le_succ_of_le ih.1, Nat.le_succ_of_le ih.2⟩
theorem isStrs_37 {h h' : Heap} {b : Addr} {row : List Str} {o : Obj} (h37 : h.get? 37 = some o) (hc : o.cls ≠ .type "list") (k : ∀ b o, b ≠ 37 → h.get? b = some o → h'.get? b = some o) (i : IsStrs h b row) : IsStrs h' b row := by
  obtain ⟨vs, n, e, s⟩ := i
  exact ⟨vs, n, k _ _ (fun q => by rw [q, h37] at e; cases e; exact hc rfl) e, s⟩
theorem rows_37 {h h' : Heap} {a : Addr} {rows : List (List Str)} {o : Obj} (h37 : h.get? 37 = some o) (hc : o.cls ≠ .type "list") (k : ∀ b o, b ≠ 37 → h.get? b = some o → h'.get? b = some o) (i : RowsAt h a rows) : RowsAt h' a rows := by
  obtain ⟨vs, n, e, s⟩ := i
  exact ⟨vs, n, k _ _ (fun q => by rw [q, h37] at e; cases e; exact hc rfl) e, s.keeps fun b row => isStrs_37 h37 hc k⟩
theorem tab_at {hb h : Heap} (x : TabOk hb h) : ∃ ps, h.get? 37 = some (tabObj ps) := by
  rcases x with e | ⟨ck, P, cs, e, _⟩
  · exact ⟨_, e⟩
  · exact ⟨_, e⟩
theorem rows_stay {h h' : Heap} {a : Addr} {rows : List (List Str)} (k : h.StaysIn h') (i : RowsAt h a rows) : RowsAt h' a rows := by
  obtain ⟨vs, n, e, s⟩ := i
  exact ⟨vs, n, k _ _ e, s.keeps fun b row i => i.keeps k⟩
/-- what the two-list comprehensions keep -/
noncomputable def TwoI (p1 p2 : Addr × Obj) (W : List (Addr × Obj)) (outs : List (List Str)) (i : Nat) (ys : List Value) (nw : List (Addr × Obj)) : Prop := ∃ own, nw = p1 :: p2 :: (own ++ W) ∧ Own own ys (outs.take i)
theorem TwoI.elim {p1 p2 : Addr × Obj} {W nw : List (Addr × Obj)} {outs : List (List Str)} {i : Nat} {ys : List Value} (x : TwoI p1 p2 W outs i ys nw) {G : List (Addr × Obj) → Prop} (q : ∀ own, Own own ys (outs.take i) → G (p1 :: p2 :: (own ++ W))) : G nw := by
  obtain ⟨own, rfl, h⟩ := x
  exact q own h
noncomputable def ThreeI (p1 p2 p3 : Addr × Obj) (W : List (Addr × Obj)) (outs : List (List Str)) (i : Nat) (ys : List Value) (nw : List (Addr × Obj)) : Prop := ∃ own, nw = p1 :: p2 :: p3 :: (own ++ W) ∧ Own own ys (outs.take i)
theorem ThreeI.elim {p1 p2 p3 : Addr × Obj} {W nw : List (Addr × Obj)} {outs : List (List Str)} {i : Nat} {ys : List Value} (x : ThreeI p1 p2 p3 W outs i ys nw) {G : List (Addr × Obj) → Prop} (q : ∀ own, Own own ys (outs.take i) → G (p1 :: p2 :: p3 :: (own ++ W))) : G nw := by
  obtain ⟨own, rfl, h⟩ := x
  exact q own h
/-- one of the two lists -/
noncomputable def OneOf (hb : Heap) (L : Addr) (W : List (Addr × Obj)) (sz : List Str → Prop) (outs : List (List Str)) (f : List Str → Str) (i : Nat) (v : Value) : Prop :=
  ∃ a rows, v = .ref a ∧ RowsW hb L W a rows ∧ (∀ row ∈ rows, sz row) ∧ rows.length ≤ 1000 ∧ outs.take (i + 1) = outs.take i ++ [rows.map f]
theorem OneOf.elim {hb : Heap} {L : Addr} {W : List (Addr × Obj)} {sz : List Str → Prop} {outs : List (List Str)} {f : List Str → Str} {i : Nat} {v : Value} (x : OneOf hb L W sz outs f i v) {G : Value → Prop}
    (q : ∀ a rows, RowsW hb L W a rows → (∀ row ∈ rows, sz row) → rows.length ≤ 1000 → outs.take (i + 1) = outs.take i ++ [rows.map f] → G (.ref a)) : G v := by
  obtain ⟨a, rows, rfl, h1, h2, h3, h4⟩ := x
  exact q a rows h1 h2 h3 h4
theorem OneOf.two {hb : Heap} {L a b : Addr} {W : List (Addr × Obj)} {sz : List Str → Prop} {A B : List (List Str)} {f : List Str → Str} (wa : RowsW hb L W a A) (sa : ∀ row ∈ A, sz row) (la : A.length ≤ 1000) (wb : RowsW hb L W b B) (sb : ∀ row ∈ B, sz row) (lb : B.length ≤ 1000) {i : Nat} {v : Value} (hv : (#[Value.ref a, .ref b] : Array Value)[i]? = some v) :
    OneOf hb L W sz [A.map f, B.map f] f i v := by
  match i, hv with
  | 0, hv => cases hv; exact ⟨a, A, rfl, wa, sa, la, rfl⟩
  | 1, hv => cases hv; exact ⟨b, B, rfl, wb, sb, lb, rfl⟩
  | i + 2, hv => simp at hv
theorem fitsC (env : Env) : Fits 9 (callerA.deeper env) := by
  have e1 : callerA.depth = 301 := by decide +kernel
  have e2 : callerA.units = 4 := rfl
  refine ⟨rfl, ?_, ?_⟩
  · show callerA.depth + 1 + _ ≤ _
    omega
  · show callerA.units + 3 + _ ≤ _
    omega
set_option hygiene false in
local macro_rules | `(tactic| walk_at "eval ListComp") => `(tactic| (refine here ?_))
set_option hygiene false in
local macro_rules | `(tactic| walk_at "exec Assign cons ListComp") => `(tactic| (refine here ?_))
set_option hygiene false in
local macro_rules | `(tactic| walk_at "call ref") => `(tactic| (refine here ?_))
set_option hygiene false in
local macro_rules | `(tactic| walk_at "compareOp Eq ref ref") => `(tactic| (refine here ?_))
set_option maxHeartbeats 2000000 in
theorem law_body {w : World} {mg mb : Str → Option Value} {hb h : Heap} (G : Gd w mg mb hb) {L fa l : Addr} {cd : Value} {vs : List Value} {ns : List Int} {g : Array GenState} {d : Drawn} {tk : Nat} {os : OsState} {Q : Flow → Shared → Prop} {E : Value → Shared → Prop}
   (F : Fr hb L h (fun y => [(Str.ofString "script", Value.ref l)].reverse.lookup y)) (N : News hb L h [(37, tabObj #[])]) (hl : hb.IsList l vs.toArray) (hv : IntsAre vs ns) (hn : ns.length ≤ 63) {r : Str → Int} (ok : LawOk (numsP ns) r)
   (hQ : ∀ h' tk' m', Fr hb L h' m' → (∃ ps, h'.get? 37 = some (tabObj ps)) → Q (.ret (.bool true)) ⟨h', g, d, tk', os⟩) :
   wpAny (model RP w) (callerA.deeper (lEnv L fa cd)) (execs (dBody (stAt 30)) (lEnv L fa cd)) Q E ⟨h, g, d, tk, os⟩ := by
  conv => arg 3; arg 1; whnf
  have hA := fitsC (lEnv L fa cd)
  have T := G.T
  have X := G.K
  k_steps
  refine there ?_
  rename Fr _ _ _ _ => F1
  rename News _ _ _ _ => N1
  rename_i D0 ws0 h00 hI0 _ _ _ _ _ _ Dn wsn _ hIn _ h1
  have n37 := N1 _ (.tail _ (.tail _ (.tail _ (.head _))))
  have c37 : (@Ne Nat Dn 37) := Ne.symm (Nat.ne_of_lt (And.right (And.right (by assumption : _ < Dn ∧ D0 < Dn ∧ 37 < Dn))))
  have eln : (numsP ns).length ≤ 100 := by simp only [numsP, List.length_append, List.length_take, List.length_cons, List.length_nil]; omega
  have hIn' : IntsAre wsn (numsP ns) := hIn
  generalize hxs : numsP ns = xs at *
  refine ConT.use (o := tabObj #[]) (news := [(Dn, PySem.W.listOf wsn.toArray 0)]) (c_shelf G F1.keep n37.2.2 (.inl n37.1) n37.1 (N1 _ (.head _)).1 hIn' c37 eln ok.laid r ok.p1) hA (by decide) F1 (news_pick N1 [3, 0] 4) (off_cons c37 off_nil) ?_
  intro r1 h2 tk2 F2 N2 k2 hp1
  refine hide fun G1 hG1 => ?_
  obtain ⟨a1, ys1, rfl, tab2, sb1, ra1⟩ := hp1
  refine hG1 ?_
  clear hG1
  obtain ⟨ps2, p37⟩ := tab_at tab2
  k_steps
  refine there ?_
  refine ConT.use (o := tabObj ps2) (news := [(Dn, PySem.W.listOf wsn.toArray 0)]) (c_shelf G F2.keep n37.2.2 tab2 p37 (N2 _ (.head _)).1 hIn' c37 eln ok.laid r ok.p2) hA (by decide) F2 (fun p hp => by
    rcases List.mem_cons.mp hp with rfl | hp
    · exact ⟨p37, n37.2⟩
    · exact N2 p hp) (off_cons c37 off_nil) ?_
  intro r2 h3 tk3 F3 N3 k3 hp2
  refine hide fun G2 hG2 => ?_
  obtain ⟨a2, ys2, rfl, tab3, sb2, ra2⟩ := hp2
  refine hG2 ?_
  clear hG2
  have ra1' := rows_37 p37 (fun q => by cases q) k3 ra1
  obtain ⟨ps3, q37⟩ := tab_at tab3
  k_steps
  refine there ?_
  refine t_sld (G) (hA.le (by decide)) (a := fa) (cn := Str.ofString "law") (cs := dScope (stAt 30)) (ccd := cd) rfl (by kernel_rfl) F3 ra1' ra2 (by rw [List.length_map]; exact ok.len _ _ sb1) (by rw [List.length_map]; exact ok.len _ _ sb2) (ok.ok _ _ sb1) (ok.ok _ _ sb2) (ok.nodup _ _ sb1) (ok.nodup _ _ sb2) ?_
  intro r3 h4 tk4 F4 k4 hp3
  refine hide fun G3 hG3 => ?_
  obtain ⟨td, lm, lu, ms, us, ntd, rfl, ftd, htd, rlm, rlu, hD⟩ := hp3
  refine hG3 ?_
  clear hG3
  have tdL : td ≠ L := fun q => by
    obtain ⟨o', _, _, e, _⟩ := F3.ns
    rw [q] at ftd
    rw [show h3.get? L = some o' from e] at ftd
    cases ftd
  have td0 : hb.get? td = none := by
    cases q : hb.get? td with
    | none => rfl
    | some o => rw [show h3.get? td = some o from F3.keep _ _ q] at ftd; cases ftd
  have N4 : News hb L h4 ((td, { cls := .type "tuple", dict := none, data := .seq #[.ref lm, .ref lu] ntd, slots := #[] }) :: (Dn, PySem.W.listOf wsn.toArray 0) :: allNews hb L h4) := fun p hp => by
    rcases List.mem_cons.mp hp with rfl | hp
    · exact ⟨htd, tdL, td0⟩
    rcases List.mem_cons.mp hp with rfl | hp
    · exact ⟨k4 _ _ (N3 _ (.head _)).2.1 (N3 _ (.head _)).1, (N3 _ (.head _)).2⟩
    · exact allNews_news p hp
  have q37' : h4.get? 37 = some (tabObj ps3) := k4 _ _ (fun q => n37.2.1 q) q37
  have F4n := F4.ns
  have keep4 := fun (h' : Heap) (m' : Str → Option Value) (F' : Fr hb L h' m') (N' : ∀ p ∈ allNews hb L h4, h'.get? p.1 = some p.2) => allNews_keep F4 F' N'
  clear htd k4 q37 N3 N2 N1 k2 k3 F1 F2 p37 tab2 tab3 ra1 ra2 ra1'
  k_steps
  refine there ?_
  rename Fr _ _ _ _ => F5
  rename News _ _ _ _ => N5
  have k5 := keep4 _ _ F5 fun p hp => (N5 p (.tail _ (.tail _ hp))).1
  have rlm5 := rlm.but F4n k5
  have rlu5 := rlu.but F4n k5
  have q37a := k5 _ _ (fun q => n37.2.1 q) q37'
  refine Con.use (c_due (mg := mg) (mb := mb) (by exact G.keeps (Fr.keep (by k_asm))) (N5 _ (.tail _ (.head _))).1 hIn' eln) hA (by decide) F5 N5 ?_
  rintro r5 h6 tk6 F6 N6 st6 ⟨d1, rfl, rd1⟩
  k_steps
  refine there ?_
  refine Con.use (c_due (mg := mg) (mb := mb) (by exact G.keeps (Fr.keep (by k_asm))) (N6 _ (.tail _ (.head _))).1 hIn' eln) hA (by decide) F6 N6 ?_
  rintro r7 h7 tk7 F7 N7 st7 ⟨d2, rfl, rd2⟩
  have rd1' : RowsAt h7 d1 (dueP 1 2 xs) := rows_stay st7 rd1
  have rlm7 : RowsAt h7 lm ms := rows_stay st7 (rows_stay st6 rlm5)
  have rlu7 : RowsAt h7 lu us := rows_stay st7 (rows_stay st6 rlu5)
  have q37b := st7 _ _ (st6 _ _ q37a)
  have F7n := F7.ns
  have keep7 := fun (h' : Heap) (m' : Str → Option Value) (F' : Fr hb L h' m') (N' : ∀ p ∈ allNews hb L h7, h'.get? p.1 = some p.2) => allNews_keep F7 F' N'
  have N8 : News hb L h7 ((td, { cls := .type "tuple", dict := none, data := .seq #[.ref lm, .ref lu] ntd, slots := #[] }) :: allNews hb L h7) := fun p hp => by
    rcases List.mem_cons.mp hp with rfl | hp
    · exact N7 _ (.head _)
    · exact allNews_news p hp
  have wlm := rowsW_of F7 rlm7
  have wlu := rowsW_of F7 rlu7
  have wd1 := rowsW_of F7 rd1'
  have wd2 := rowsW_of F7 rd2
  have m37 : (37, tabObj ps3) ∈ allNews hb L h7 := mem_allNews.mpr ⟨n37.2.1, n37.2.2, q37b⟩
  clear keep4 N5 F5 N6 F6 st6 st7 rd1 rlm5 rlu5 q37a q37' rlm rlu k5 N7 F4n F7n keep7 rlm7 rlu7 rd1' rd2
  generalize allNews hb L h7 = W at *
  k_steps
  refine there ?_
  rename Fr _ _ _ _ => F9
  rename News _ _ _ _ => N9
  obtain ⟨dd, hdd, N9'⟩ := news_head N9
  subst hdd
  clear N9
  obtain ⟨smem, umem⟩ := hD.sub
  obtain ⟨slen, ulen⟩ := hD.len
  rw [List.length_map] at slen ulen
  have l1 := ok.len _ _ sb1
  have l2 := ok.len _ _ sb2
  refine assign_tup (env := lEnv L fa cd) (ax := td) (its := #[.ref lm, .ref lu]) rfl (by with_unfolding_all rfl) (by with_unfolding_all rfl) (by decide) (by rfl) (by decide) (by rfl) (by rfl) (by rfl) F9 N9' (.tail _ (.head _)) (by rw [sizeLine_eq]; show 2 ≤ _; decide) ?_ ?_
  · intro Q' q
    exact wpAny_Name (wpAny_loadName_local (by rfl) (by rfl) F9.ns (by rfl) q) (by decide)
  rintro s₂ ⟨g2, rfl⟩
  refine rest_ind (TwoI (dd, PySem.W.listOf #[.ref d1, .ref d2] 0) (td, { cls := .type "tuple", dict := none, data := .seq #[.ref lm, .ref lu] ntd, slots := #[] }) W [ms.map backP, us.map backP]) ⟨[], rfl, fun _ _ => .nil⟩ ?_ ?_
  · intro i ys nw v I oI C oC D m2 h10 tk10 E10 hi hI hv
    apply TwoI.elim hI
    clear hI
    apply OneOf.elim (OneOf.two (f := backP) (sz := fun row => row.length ≤ 100 ∧ ∀ i y, (row.drop 1)[i]? = some y → (redP (Str.ofString "/") ((row.drop 1).take i)).length + y.length + 2 ≤ sizeLine) wlm (fun row hr => ok.size _ _ sb1 row (smem row hr)) (by omega) wlu (fun row hr => ok.size _ _ sb2 row (umem row hr)) (by omega) hv)
    clear hv
    intro a rows wa hsz hlen eT own hown hC hx F10 N10 off10 ne10
    have inW : ∀ p ∈ W, p ∈ (dd, PySem.W.listOf #[Value.ref d1, .ref d2] 0) :: (td, { cls := .type "tuple", dict := none, data := .seq #[.ref lm, .ref lu] ntd, slots := #[] }) :: (own ++ W) := fun p hp => .tail _ (.tail _ (List.mem_append_right _ hp))
    refine inner_paths G (k := 5) hA F10 N10 hC hx inW wa hlen hsz ?_ (by kernel_rfl) (by kernel_rfl)
    intro D' ys' h11 tk11 F11 N11 off11 hys'
    refine end_new [(dd, PySem.W.listOf #[.ref d1, .ref d2] 0), (td, { cls := .type "tuple", dict := none, data := .seq #[.ref lm, .ref lu] ntd, slots := #[] })] F11 N11 (off1_mem off11) off10 (.tail _ (.head _)) ⟨(D', LCg.lst ys') :: own, rfl, ?_⟩
    rw [eT]
    exact hown.cons hys'
  intro pys nw hI
  apply TwoI.elim hI
  clear hI
  intro own hown Dp h12 tk12 F12 N12 off12
  replace hown : Own own pys [ms.map backP, us.map backP] := hown
  change Fr hb L h12 (fun z => if z = Str.ofString "paths" then some (.ref Dp) else if z = Str.ofString "due" then some (.ref dd) else if z = Str.ofString "told" then some (.ref td) else if z = Str.ofString "numbers" then some (.ref Dn) else List.lookup z [(Str.ofString "script", Value.ref l)].reverse) at F12
  change News hb L h12 _ at N12
  dsimp only
  k_steps
  refine there ?_
  refine LCg.ListComp_U F12 (by with_unfolding_all rfl) (by decide) (by rfl) (by decide) (by rfl) ?_
  refine wpAny_Name (wpAny_loadName_local (by rfl) (by rfl) F12.ns (by rfl) ?_) (by decide)
  refine .inl ⟨dd, #[.ref d1, .ref d2], _, rfl, rfl, F12, N12, .inr ⟨_, .tail _ (.head _), rfl, _, rfl⟩, by rw [sizeLine_eq]; show 2 ≤ _; decide, ?_⟩
  rintro s₂ ⟨g3, rfl⟩
  refine rest_ind (ThreeI (Dp, LCg.lst pys) (dd, PySem.W.listOf #[.ref d1, .ref d2] 0) (td, { cls := .type "tuple", dict := none, data := .seq #[.ref lm, .ref lu] ntd, slots := #[] }) (own ++ W) [(dueP 1 2 xs).map slashP, (dueP 2 1 xs).map slashP]) ⟨[], rfl, fun _ _ => .nil⟩ ?_ ?_
  · intro i ys nw v I oI C oC D m2 h13 tk13 E13 hi hI hv
    apply ThreeI.elim hI
    clear hI
    apply OneOf.elim (OneOf.two (f := slashP) (sz := fun row => (row.map (·.length)).sum + row.length ≤ 1000 ∧ (Txt.join (Str.ofString "/") row).length ≤ 1000) wd1 (ok.due _ _) (ok.dueLen _ _) wd2 (ok.due _ _) (ok.dueLen _ _) hv)
    clear hv
    intro a rows wa hsz hlen eT own2 hown2 hC hx F13 N13 off13 ne13
    have inW : ∀ p ∈ W, p ∈ (Dp, LCg.lst pys) :: (dd, PySem.W.listOf #[Value.ref d1, .ref d2] 0) :: (td, { cls := .type "tuple", dict := none, data := .seq #[.ref lm, .ref lu] ntd, slots := #[] }) :: (own2 ++ (own ++ W)) := fun p hp => .tail _ (.tail _ (.tail _ (List.mem_append_right _ (List.mem_append_right _ hp))))
    refine inner_slash G (k := 5) hA F13 N13 hC hx inW wa hlen hsz ?_ (by kernel_rfl) (by kernel_rfl)
    intro D' ys' h14 tk14 F14 N14 off14 hys'
    refine end_new [(Dp, LCg.lst pys), (dd, PySem.W.listOf #[.ref d1, .ref d2] 0), (td, { cls := .type "tuple", dict := none, data := .seq #[.ref lm, .ref lu] ntd, slots := #[] })] F14 N14 (off1_mem off14) off13 (.inr ⟨_, .tail _ (.head _), rfl, _, rfl⟩) ⟨(D', LCg.lst ys') :: own2, rfl, ?_⟩
    rw [eT]
    exact hown2.cons hys'
  intro qys nw hI
  apply ThreeI.elim hI
  clear hI
  intro own2 hown2 Dq h15 tk15 F15 N15 off15
  replace hown2 : Own own2 qys [(dueP 1 2 xs).map slashP, (dueP 2 1 xs).map slashP] := hown2
  try dsimp only
  k_steps
  refine there ?_
  have o1 : ∀ p ∈ own, h15.get? p.1 = some p.2 := fun p hp => (N15 p (.tail _ (.tail _ (.tail _ (.tail _ (List.mem_append_right _ (List.mem_append_left _ hp))))))).1
  have o2 : ∀ p ∈ own2, h15.get? p.1 = some p.2 := fun p hp => (N15 p (.tail _ (.tail _ (.tail _ (.tail _ (List.mem_append_left _ hp)))))).1
  obtain ⟨same1, same2⟩ := ok.same _ _ _ _ sb1 sb2 hD
  refine eq_rows2 (hown h15 o1) ⟨_, (N15 _ (.tail _ (.head _))).1, rfl, _, rfl⟩ (hown2 h15 o2) ⟨_, (N15 _ (.head _)).1, rfl, _, rfl⟩ ?_ ?_ ?_ ?_
  · intro row hr x hx
    simp only [List.mem_cons, List.not_mem_nil, or_false] at hr
    rcases hr with rfl | rfl
    · obtain ⟨y, hy, rfl⟩ := List.mem_map.mp hx
      exact ok.okP _ _ sb1 _ (smem _ hy)
    · obtain ⟨y, hy, rfl⟩ := List.mem_map.mp hx
      exact ok.okP _ _ sb2 _ (umem _ hy)
  · intro row hr x hx
    simp only [List.mem_cons, List.not_mem_nil, or_false] at hr
    rcases hr with rfl | rfl
    · obtain ⟨y, hy, rfl⟩ := List.mem_map.mp hx
      exact ok.okD _ _ _ hy
    · obtain ⟨y, hy, rfl⟩ := List.mem_map.mp hx
      exact ok.okD _ _ _ hy
  · have := hA.units
    rw [show cLine = 9900 from rfl]
    omega
  rw [same1, same2]
  simp only [decide_true]
  k_steps
  exact hQ _ _ _ F15 ⟨ps3, (N15 _ (.tail _ (.tail _ (.tail _ (.tail _ (List.mem_append_right _ (List.mem_append_right _ m37))))))).1⟩
end
section
open PySem PySem.W PySem.W.X PyProof.Rows PySem.Calls
/-- all rows of at most n names, in order -/
noncomputable def N3 : List Str := [Str.ofString "a", Str.ofString "a-", Str.ofString "b"]
noncomputable def dfs : Nat → List (List Str)
  | 0 => [[]]
  | n + 1 => [] :: N3.flatMap fun x => (dfs n).map (x :: ·)
theorem mem_dfs : ∀ (n : Nat) (l : List Str), l.length ≤ n → (∀ x ∈ l, x ∈ N3) → l ∈ dfs n
  | 0, [], _, _ => .head _
  | 0, _ :: _, h, _ => absurd h (by simp)
  | n + 1, [], _, _ => .head _
  | n + 1, x :: l, h, k => .tail _ (List.mem_flatMap.mpr ⟨x, k x (.head _), List.mem_map.mpr ⟨l, mem_dfs n l (by simpa using h) fun y hy => k y (.tail _ hy), rfl⟩⟩)
theorem nameOf_mem (i : Int) : nameOf i ∈ N3 := by
  unfold nameOf N3
  split
  · exact .head _
  split
  · exact .tail _ (.head _)
  · exact .tail _ (.tail _ (.head _))
theorem rowOf_mem (x : Int) : rowOf x ∈ dfs 3 := by
  refine mem_dfs 3 _ ?_ fun y hy => ?_
  · unfold rowOf
    have h : x.fmod 4 < 4 := Int.fmod_lt_of_pos x (by decide)
    have h0 : 0 ≤ x.fmod 4 := Int.fmod_nonneg_of_pos x (by decide)
    rw [List.length_map]
    have e : (rangeKs 0 (x.fmod 4).toNat).length = (x.fmod 4).toNat := by simp [rangeKs]
    rw [e]
    omega
  · unfold rowOf at hy
    obtain ⟨z, _, rfl⟩ := List.mem_map.mp hy
    exact nameOf_mem _
/-- the order of rows -/
theorem str_ext {x y : Str} (h : x.cps.toList = y.cps.toList) : x = y := by
  cases x; cases y
  simp only at h
  congr
  exact Array.toList_inj.mp h
theorem ltR_nil (x : List Str) : ltR x [] = false := by cases x <;> rfl
theorem ltR_cons (x y : Str) (r t : List Str) : ltR (x :: r) (y :: t) = if x = y then ltR r t else decide (x.cps.toList < y.cps.toList) := by
  first
    | rfl
    | (unfold ltR; rfl)
    | (simp only [ltR])
theorem ltR_head {x z : Str} {a c : List Str} (h : x.cps.toList < z.cps.toList) : ltR (x :: a) (z :: c) = true := by
  rw [ltR_cons]
  by_cases e : x = z
  · subst e
    exact absurd h (List.lt_irrefl _)
  · rw [if_neg e]
    exact decide_eq_true h
theorem ltR_split {x z : Str} {a c : List Str} (h : ltR (x :: a) (z :: c) = true) : (x = z ∧ ltR a c = true) ∨ x.cps.toList < z.cps.toList := by
  rw [ltR_cons] at h
  by_cases e : x = z
  · rw [if_pos e] at h
    exact .inl ⟨e, h⟩
  · rw [if_neg e] at h
    exact .inr (of_decide_eq_true h)
theorem ltR_trans {a : List Str} : ∀ {b c : List Str}, ltR a b = true → ltR b c = true → ltR a c = true := by
  induction a with
  | nil =>
    intro b c h k
    cases c with
    | nil => rw [ltR_nil] at k; cases k
    | cons z c => rfl
  | cons x a ih =>
    intro b c h k
    cases b with
    | nil => rw [ltR_nil] at h; cases h
    | cons y b =>
      cases c with
      | nil => rw [ltR_nil] at k; cases k
      | cons z c =>
        rcases ltR_split h with ⟨rfl, h2⟩ | h2
        · rcases ltR_split k with ⟨rfl, k2⟩ | k2
          · rw [ltR_cons, if_pos rfl]
            exact ih h2 k2
          · exact ltR_head k2
        · rcases ltR_split k with ⟨rfl, k2⟩ | k2
          · exact ltR_head h2
          · exact ltR_head (List.lt_trans h2 k2)
theorem ltR_asymm {a b : List Str} (h : ltR a b = true) : ltR b a = false := by
  cases q : ltR b a with
  | false => rfl
  | true =>
    have := ltR_trans h q
    rw [ltR_irrefl] at this
    cases this
theorem ltR_total : ∀ (a b : List Str), ltR a b = true ∨ a = b ∨ ltR b a = true
  | [], [] => .inr (.inl rfl)
  | [], _ :: _ => .inl rfl
  | _ :: _, [] => .inr (.inr rfl)
  | x :: a, y :: b => by
    rw [ltR_cons, ltR_cons]
    by_cases e : x = y
    · subst e
      rw [if_pos rfl, if_pos rfl]
      rcases ltR_total a b with h | h | h
      · exact .inl h
      · exact .inr (.inl (by rw [h]))
      · exact .inr (.inr h)
    · rw [if_neg e, if_neg (Ne.symm e)]
      by_cases h : x.cps.toList < y.cps.toList
      · exact .inl (decide_eq_true h)
      · refine .inr (.inr (decide_eq_true ?_))
        have h2 : y.cps.toList ≤ x.cps.toList := List.not_lt.mp h
        rcases List.le_iff_lt_or_eq.mp h2 with h3 | h3
        · exact h3
        · exact absurd (str_ext h3).symm e
/-- strictly ascending rows -/
noncomputable abbrev Srt (l : List (List Str)) : Prop := l.Pairwise fun a b => ltR a b = true
theorem srt_head {x : List Str} {l : List (List Str)} (h : Srt (x :: l)) {y : List Str} (hy : y ∈ l) : ltR x y = true := (List.pairwise_cons.mp h).1 y hy
theorem srt_tail {x : List Str} {l : List (List Str)} (h : Srt (x :: l)) : Srt l := (List.pairwise_cons.mp h).2
theorem lt_ne {a b : List Str} (h : ltR a b = true) : a ≠ b := fun e => by
  rw [e, ltR_irrefl] at h
  cases h
theorem srt_not_mem {x : List Str} {l : List (List Str)} (h : Srt (x :: l)) : x ∉ l := fun hx => lt_ne (srt_head h hx) rfl
theorem srt_uniq : ∀ {l l' : List (List Str)}, Srt l → Srt l' → (∀ x, x ∈ l ↔ x ∈ l') → l = l'
  | [], [], _, _, _ => rfl
  | [], y :: l', _, _, h => by have := (h y).mpr (.head _); cases this
  | x :: l, [], _, _, h => by have := (h x).mp (.head _); cases this
  | x :: l, y :: l', hl, hl', h => by
    have e : x = y := by
      rcases List.mem_cons.mp ((h x).mp (.head _)) with e | h1
      · exact e
      rcases List.mem_cons.mp ((h y).mpr (.head _)) with e | h2
      · exact e.symm
      have a1 := srt_head hl' h1
      have a2 := srt_head hl h2
      rw [ltR_asymm a1] at a2
      cases a2
    subst e
    congr 1
    refine srt_uniq (srt_tail hl) (srt_tail hl') fun z => ?_
    constructor
    · intro hz
      rcases List.mem_cons.mp ((h z).mp (.tail _ hz)) with e | h1
      · rw [e] at hz; exact absurd hz (srt_not_mem hl)
      · exact h1
    · intro hz
      rcases List.mem_cons.mp ((h z).mpr (.tail _ hz)) with e | h1
      · rw [e] at hz; exact absurd hz (srt_not_mem hl')
      · exact h1
theorem mem_keep {e : List Str} {es as ms : List (List Str)} (hn : e ∉ as) (i3 : ∀ x, x ∈ ms ↔ x ∈ es ∧ x ∉ as) (x : List Str) : x ∈ e :: ms ↔ x ∈ e :: es ∧ x ∉ as := by
  rw [List.mem_cons, List.mem_cons, i3]
  exact ⟨fun h => h.elim (fun q => ⟨.inl q, q ▸ hn⟩) fun q => ⟨.inr q.1, q.2⟩, fun h => h.1.elim .inl fun q => .inr ⟨q, h.2⟩⟩
theorem mem_same {e : List Str} {es as us : List (List Str)} (hn : e ∉ as) (i4 : ∀ x, x ∈ us ↔ x ∈ as ∧ x ∉ es) (x : List Str) : x ∈ us ↔ x ∈ as ∧ x ∉ e :: es := by
  rw [List.mem_cons, i4]
  exact ⟨fun h => ⟨h.1, fun q => q.elim (fun z => hn (z ▸ h.1)) h.2⟩, fun h => ⟨h.1, fun q => h.2 (.inr q)⟩⟩
theorem mem_both {e : List Str} {es as ms : List (List Str)} (hn : e ∉ es) (i3 : ∀ x, x ∈ ms ↔ x ∈ es ∧ x ∉ as) (x : List Str) : x ∈ ms ↔ x ∈ e :: es ∧ x ∉ e :: as := by
  rw [List.mem_cons, List.mem_cons, i3]
  exact ⟨fun h => ⟨.inr h.1, fun q => q.elim (fun z => hn (z ▸ h.1)) h.2⟩, fun h => ⟨h.1.elim (fun q => absurd (.inl q) h.2) id, fun q => h.2 (.inr q)⟩⟩
theorem srt_out {e a : List Str} {as : List (List Str)} (h : ltR e a = true) (ha : Srt (a :: as)) : e ∉ a :: as := fun q => by
  rcases List.mem_cons.mp q with rfl | q
  · exact lt_ne h rfl
  · exact lt_ne (ltR_trans h (srt_head ha q)) rfl
theorem diff_srt {es as ms us : List (List Str)} (h : Diff es as ms us) : Srt es → Srt as → Srt ms ∧ Srt us ∧ (∀ x, x ∈ ms ↔ x ∈ es ∧ x ∉ as) ∧ ∀ x, x ∈ us ↔ x ∈ as ∧ x ∉ es := by
  induction h with
  | nilL as => exact fun _ h => ⟨.nil, h, fun x => by simp, fun x => by simp⟩
  | nilR es => exact fun h _ => ⟨h, .nil, fun x => by simp, fun x => by simp⟩
  | @lt e a es as ms us hlt hD ih =>
    intro he ha
    obtain ⟨i1, i2, i3, i4⟩ := ih (srt_tail he) ha
    have hn := srt_out hlt ha
    exact ⟨List.pairwise_cons.mpr ⟨fun x hx => srt_head he ((i3 x).mp hx).1, i1⟩, i2, mem_keep hn i3, mem_same hn i4⟩
  | @gt e a es as ms us hn hgt hD ih =>
    intro he ha
    obtain ⟨i1, i2, i3, i4⟩ := ih he (srt_tail ha)
    have hn := srt_out hgt he
    exact ⟨i1, List.pairwise_cons.mpr ⟨fun x hx => srt_head ha ((i4 x).mp hx).1, i2⟩, mem_same hn i3, mem_keep hn i4⟩
  | @eq e a es as ms us h1 h2 hD ih =>
    intro he ha
    obtain ⟨i1, i2, i3, i4⟩ := ih (srt_tail he) (srt_tail ha)
    have eq : e = a := by
      rcases ltR_total e a with q | q | q
      · rw [h1] at q; cases q
      · exact q
      · rw [h2] at q; cases q
    subst eq
    exact ⟨i1, i2, mem_both (srt_not_mem he) i3, mem_both (srt_not_mem ha) i4⟩
/-- a sorted copy -/
noncomputable def insR (x : List Str) : List (List Str) → List (List Str)
  | [] => [x]
  | y :: l => if ltR y x = true then y :: insR x l else x :: y :: l
noncomputable def isort : List (List Str) → List (List Str)
  | [] => []
  | x :: l => insR x (isort l)
theorem insR_perm (x : List Str) : ∀ l, (insR x l).Perm (x :: l)
  | [] => .refl _
  | y :: l => by
    unfold insR
    split
    · exact ((insR_perm x l).cons y).trans (.swap _ _ _)
    · exact .refl _
theorem isort_perm : ∀ l, (isort l).Perm l
  | [] => .refl _
  | x :: l => (insR_perm x _).trans ((isort_perm l).cons x)
theorem insR_srt (x : List Str) : ∀ l, Srt l → x ∉ l → Srt (insR x l)
  | [], _, _ => List.pairwise_cons.mpr ⟨fun _ h => (nomatch h), .nil⟩
  | y :: l, h, hn => by
    unfold insR
    split
    · rename_i hy
      refine List.pairwise_cons.mpr ⟨fun z hz => ?_, insR_srt x l (srt_tail h) fun q => hn (.tail _ q)⟩
      rcases List.mem_cons.mp ((insR_perm x l).mem_iff.mp hz) with rfl | hz
      · exact hy
      · exact srt_head h hz
    · rename_i hy
      have hxy : ltR x y = true := by
        rcases ltR_total x y with q | q | q
        · exact q
        · exact absurd (by rw [q]; exact .head _) hn
        · exact absurd q hy
      refine List.pairwise_cons.mpr ⟨fun z hz => ?_, h⟩
      rcases List.mem_cons.mp hz with rfl | hz
      · exact hxy
      · exact ltR_trans hxy (srt_head h hz)
theorem isort_srt : ∀ l : List (List Str), l.Nodup → Srt (isort l)
  | [], _ => .nil
  | x :: l, h => insR_srt x _ (isort_srt l (List.nodup_cons.mp h).2) fun q => (List.nodup_cons.mp h).1 ((isort_perm l).mem_iff.mp q)
theorem cnt_at : ∀ {l : List (List Str)}, Srt l → ∀ {i : Nat} {x : List Str}, l[i]? = some x → (l.filter fun one => ltR one x).length = i
  | [], _, i, x, h => by simp at h
  | y :: l, hs, 0, x, h => by
    simp at h
    subst h
    rw [List.filter_cons, ltR_irrefl]
    have e : (l.filter fun one => ltR one y) = [] := List.filter_eq_nil_iff.mpr fun z hz => by
      rw [ltR_asymm (srt_head hs hz)]
      exact Bool.false_ne_true
    simp [e]
  | y :: l, hs, i + 1, x, h => by
    have h' : l[i]? = some x := by simpa using h
    rw [List.filter_cons, srt_head hs (List.mem_of_getElem? h')]
    simp [cnt_at (srt_tail hs) h']
theorem cnt_perm {l l' : List (List Str)} (h : l.Perm l') (x : List Str) : cntP l x = cntP l' x := by
  unfold cntP
  exact (h.filter _).length_eq
/-- folding sets -/
theorem sets_skip (f : List Str → Nat) : ∀ (l acc : List (List Str)) (k : Nat), (∀ row ∈ l, f row ≠ k) → (l.foldl (fun a row => a.set (f row) row) acc)[k]? = acc[k]?
  | [], _, _, _ => rfl
  | x :: l, acc, k, h => by
    rw [List.foldl_cons, sets_skip f l _ k fun row hr => h row (.tail _ hr)]
    rw [List.getElem?_set]
    rw [if_neg (h x (.head _))]
theorem sets_at (f : List Str → Nat) (l : List (List Str)) : ∀ (acc : List (List Str)), l.Nodup → (∀ a ∈ l, ∀ b ∈ l, f a = f b → a = b) → (∀ row ∈ l, f row < acc.length) → ∀ row ∈ l, (l.foldl (fun a row => a.set (f row) row) acc)[f row]? = some row := by
  induction l with
  | nil => exact fun _ _ _ _ _ h => nomatch h
  | cons x l ih =>
    intro acc hn hi hlt row hr
    rw [List.foldl_cons]
    rcases List.mem_cons.mp hr with rfl | hr'
    · rw [sets_skip f l _ _ fun z hz e => (List.nodup_cons.mp hn).1 (by rw [← hi z (.tail _ hz) row (.head _) e]; exact hz)]
      rw [List.getElem?_set, if_pos rfl, if_pos (hlt row (.head _))]
    · exact ih _ (List.nodup_cons.mp hn).2 (fun a ha b hb => hi a (.tail _ ha) b (.tail _ hb)) (fun z hz => by rw [List.length_set]; exact hlt z (.tail _ hz)) row hr'
theorem sets_len (f : List Str → Nat) : ∀ (l acc : List (List Str)), (l.foldl (fun a row => a.set (f row) row) acc).length = acc.length
  | [], _ => rfl
  | x :: l, acc => by
    rw [List.foldl_cons, sets_len f l, List.length_set]
theorem order_isort {rows : List (List Str)} (hn : rows.Nodup) : orderP rows rows.length = isort rows := by
  have hs := isort_srt rows hn
  have hp := isort_perm rows
  unfold orderP
  rw [List.take_length]
  have at_ : ∀ (i : Nat) (x : List Str), (isort rows)[i]? = some x → cntP rows x = i := fun i x h => by
    rw [← cnt_perm hp]
    exact cnt_at hs h
  have inj : ∀ a ∈ rows, ∀ b ∈ rows, cntP rows a = cntP rows b → a = b := fun a ha b hb e => by
    obtain ⟨i, hi⟩ := List.getElem?_of_mem (hp.mem_iff.mpr ha)
    obtain ⟨j, hj⟩ := List.getElem?_of_mem (hp.mem_iff.mpr hb)
    rw [at_ i a hi, at_ j b hj] at e
    rw [e, hj] at hi
    exact (Option.some.inj hi).symm
  apply List.ext_getElem?
  intro i
  cases h : (isort rows)[i]? with
  | none =>
    rw [List.getElem?_eq_none_iff] at h ⊢
    rw [sets_len, List.length_replicate, ← hp.length_eq]
    exact h
  | some x =>
    have hx : x ∈ rows := hp.mem_iff.mp (List.mem_of_getElem? h)
    rw [← at_ i x h]
    exact sets_at (cntP rows) rows _ hn inj (fun row hr => by rw [List.length_replicate]; exact cntP_lt hr) x hx
/-- the numbers' kind -/
noncomputable abbrev offK (k x : Int) : Bool := decide ((x.fdiv 4).fmod 3 = k)
/-- what holds of each of the rows, tried one by one -/
noncomputable def PP (row : List Str) : List Str := partsP (slashP row)
/-- the empty text -/
noncomputable def eP : Str := Str.ofString ""
noncomputable def ppS : List Str → List Str
  | [] => [eP, eP]
  | x :: r => eP :: x :: r
noncomputable def unS : List Str → List Str
  | _ :: x :: r => if x = eP then [] else x :: r
  | _ => []
noncomputable def unP (p : Str) : List Str := unS (partsP p)
noncomputable def redS (xs : List Str) : Str := redP (Str.ofString "/") (piecesP xs)
noncomputable def compsS : List Str → List Str
  | [] => [eP]
  | x :: xs => piecesP (x :: xs)
noncomputable def redB (x : Str) (ys : List Str) (m : Nat) : Bool := (List.range ys.length).all fun i => decide ((redP x (ys.take i)).length + (ys.getD i x).length ≤ m)
theorem redB_at {x : Str} {ys : List Str} {m : Nat} (h : redB x ys m = true) {i : Nat} {y : Str} (hy : ys[i]? = some y) : (redP x (ys.take i)).length + y.length ≤ m := by
  have hi : i < ys.length := (List.getElem?_eq_some_iff.mp hy).1
  have := of_decide_eq_true (List.all_eq_true.mp h i (List.mem_range.mpr hi))
  rw [List.getD_eq_getElem?_getD, hy] at this
  exact this
theorem at_dfs {f : List Str → Bool} (h : (dfs 3).all f = true) {row : List Str} (hr : row ∈ dfs 3) : f row = true := List.all_eq_true.mp h row hr
theorem fin_len : (dfs 3).all (fun xs => decide (xs.length ≤ 3)) = true := by decide +kernel
theorem fin_red : (dfs 3).all (fun xs => redB (Str.ofString "/") (piecesP xs) 1000) = true := by decide +kernel
theorem fin_comps : (dfs 3).all (fun xs => decide (compsP (redS xs) = compsS xs)) = true := by decide +kernel
theorem fin_root : (dfs 3).all (fun xs => decide ((redS xs).length ≤ 1000) && ((redS xs).length != 0) && decide ((rootP (redS xs)).1 = Str.ofString "/") && decide ((rootP (redS xs)).2.length ≤ 1000)) = true := by decide +kernel
theorem fin_fold : (dfs 3).all (fun xs => decide ((compsS xs).foldl normStep [] = xs)) = true := by decide +kernel
theorem fin_clen : (dfs 3).all (fun xs => decide ((compsS xs).length ≤ 999) && (compsS xs).all fun c => decide (c.length ≤ 1000)) = true := by decide +kernel
theorem fin_pp : (dfs 3).all (fun xs => decide (PP xs = ppS xs)) = true := by decide +kernel
theorem fin_un : (dfs 3).all (fun xs => decide (unS (ppS xs) = xs)) = true := by decide +kernel
theorem fin_back : (dfs 3).all (fun xs => decide (backP (ppS xs) = slashP xs)) = true := by decide +kernel
theorem fin_ok : (dfs 3).all (fun xs => PyData.strOk (slashP xs) && (ppS xs).all fun x => PyData.strOk x) = true := by decide +kernel
theorem fin_sum : (dfs 3).all (fun xs => decide ((xs.map (·.length)).sum + xs.length ≤ 1000) && decide ((Txt.join (Str.ofString "/") xs).length ≤ 1000) && decide ((slashP xs).length ≤ 1000) && ((slashP xs).length != 0)) = true := by decide +kernel
theorem fin_parts : (dfs 3).all (fun xs => decide ((ppS xs).length ≤ 100) && redB (Str.ofString "/") ((ppS xs).drop 1) 1000) = true := by decide +kernel
noncomputable def headB : List Str → Bool
  | [] => true
  | x :: _ => decide (x ≠ eP) && decide (eP.cps.toList < x.cps.toList)
theorem fin_head : (dfs 3).all headB = true := by decide +kernel
theorem pp_row {row : List Str} (h : row ∈ dfs 3) : PP row = ppS row := of_decide_eq_true (at_dfs fin_pp h)
theorem un_row {row : List Str} (h : row ∈ dfs 3) : unP (slashP row) = row := by
  show unS (PP row) = row
  rw [pp_row h]
  exact of_decide_eq_true (at_dfs fin_un h)
theorem back_row {row : List Str} (h : row ∈ dfs 3) : backP (PP row) = slashP row := by
  rw [pp_row h]
  exact of_decide_eq_true (at_dfs fin_back h)
theorem sum_row {row : List Str} (h : row ∈ dfs 3) : (row.map (·.length)).sum + row.length ≤ 1000 ∧ (Txt.join (Str.ofString "/") row).length ≤ 1000 ∧ (slashP row).length ≤ 1000 ∧ ((slashP row).length != 0) = true := by
  have := at_dfs fin_sum h
  simp only [Bool.and_eq_true] at this
  exact ⟨of_decide_eq_true this.1.1.1, of_decide_eq_true this.1.1.2, of_decide_eq_true this.1.2, this.2⟩
theorem int_ne {n : Nat} (h : (n != 0) = true) : ((n : Int) != 0) = true := by
  cases n with
  | zero => cases h
  | succ m => rfl
theorem normC_row {row : List Str} (h : row ∈ dfs 3) : normC (redS row) = row := by
  unfold normC
  rw [show compsP (redS row) = compsS row from of_decide_eq_true (at_dfs fin_comps h)]
  exact of_decide_eq_true (at_dfs fin_fold h)
theorem root_row {row : List Str} (h : row ∈ dfs 3) : (redS row).length ≤ 1000 ∧ ((redS row).length != 0) = true ∧ (rootP (redS row)).1 = Str.ofString "/" ∧ (rootP (redS row)).2.length ≤ 1000 := by
  have := at_dfs fin_root h
  simp only [Bool.and_eq_true] at this
  exact ⟨of_decide_eq_true this.1.1.1, this.1.1.2, of_decide_eq_true this.1.2, of_decide_eq_true this.2⟩
theorem laid_row {row : List Str} (h : row ∈ dfs 3) : laidP row = slashP row := by
  show (rootP (redS row)).1 ++ Txt.join (Str.ofString "/") (normC (redS row)) = _
  rw [normC_row h, (root_row h).2.2.1]
  rfl
theorem norm_row {row : List Str} (h : row ∈ dfs 3) : NormOk (redS row) := by
  obtain ⟨r1, r2, r3, r4⟩ := root_row h
  obtain ⟨s1, s2, s3, s4⟩ := sum_row h
  have c := at_dfs fin_clen h
  simp only [Bool.and_eq_true] at c
  have ec : compsP (redS row) = compsS row := of_decide_eq_true (at_dfs fin_comps h)
  have en : normP (redS row) = slashP row := laid_row h
  have e1 : (Str.ofString "/").length = 1 := by decide
  constructor
  · exact r1
  · exact int_ne r2
  · rw [r3, e1]; rfl
  · rw [r3, e1]; decide
  · exact r4
  · rw [ec]; exact of_decide_eq_true c.1
  · rw [ec]; exact fun x hx => of_decide_eq_true (List.all_eq_true.mp c.2 x hx)
  · rw [normC_row h]; exact Nat.le_trans s1 (by decide)
  · rw [en]; exact int_ne s4
  · rw [en]; exact s3
theorem ppS_lt : ∀ (r q : List Str), headB r = true → headB q = true → ltR (ppS r) (ppS q) = ltR r q
  | [], [], _, _ => by rw [ltR_irrefl, ltR_irrefl]
  | [], y :: q, _, h => by
    simp only [headB, Bool.and_eq_true] at h
    show ltR (eP :: [eP]) (eP :: y :: q) = _
    rw [ltR_cons, if_pos rfl, ltR_cons, if_neg (Ne.symm (of_decide_eq_true h.1)), h.2]
    rfl
  | x :: r, [], h, _ => by
    simp only [headB, Bool.and_eq_true] at h
    show ltR (eP :: x :: r) (eP :: [eP]) = _
    rw [ltR_cons, if_pos rfl, ltR_cons, if_neg (of_decide_eq_true h.1), ltR_nil]
    exact decide_eq_false fun k => absurd (List.lt_trans k (of_decide_eq_true h.2)) (List.lt_irrefl _)
  | x :: r, y :: q, _, _ => by
    show ltR (eP :: x :: r) (eP :: y :: q) = _
    rw [ltR_cons, if_pos rfl]
theorem lt_row {r q : List Str} (h : r ∈ dfs 3) (k : q ∈ dfs 3) : ltR (PP r) (PP q) = ltR r q := by
  rw [pp_row h, pp_row k]
  exact ppS_lt r q (at_dfs fin_head h) (at_dfs fin_head k)
theorem slash_inj {r q : List Str} (h : r ∈ dfs 3) (k : q ∈ dfs 3) (e : slashP r = slashP q) : r = q := by
  rw [← un_row h, ← un_row k, e]
theorem pp_inj {r q : List Str} (h : r ∈ dfs 3) (k : q ∈ dfs 3) (e : PP r = PP q) : r = q := slash_inj h k (by rw [← back_row h, ← back_row k, e])
theorem laid_ok {row : List Str} (h : row ∈ dfs 3) : LaidOk row where
  len := of_decide_eq_true (at_dfs fin_len h)
  red := fun i y hy => redB_at (at_dfs fin_red h) hy
  norm := norm_row h
/-- the rank of a path -/
noncomputable def rankP (p : Str) : Int := (cntP (dfs 3) (unP p) : Nat)
theorem filt_lt {f g : List Str → Bool} (h : ∀ x, f x = true → g x = true) {a : List Str} (ha : f a = false) (hb : g a = true) (l : List (List Str)) (k : a ∈ l) : (l.filter f).length < (l.filter g).length := by
  have e : l.filter f = (l.filter g).filter f := by
    rw [List.filter_filter]
    refine List.filter_congr fun x _ => ?_
    cases q : f x with
    | true => rw [h x q]; rfl
    | false => rfl
  rw [e]
  exact List.length_filter_lt_length_iff_exists.mpr ⟨a, List.mem_filter.mpr ⟨k, hb⟩, by rw [ha]; exact Bool.false_ne_true⟩
theorem cnt_lt {l : List (List Str)} {a b : List Str} (ha : a ∈ l) (h : ltR a b = true) : cntP l a < cntP l b :=
  filt_lt (f := fun x => ltR x a) (g := fun x => ltR x b) (fun x hx => ltR_trans hx h) (ltR_irrefl a) h l ha
theorem cnt_lt_iff {l : List (List Str)} {a b : List Str} (ha : a ∈ l) (hb : b ∈ l) : cntP l a < cntP l b ↔ ltR a b = true := by
  refine ⟨fun h => ?_, cnt_lt ha⟩
  rcases ltR_total a b with q | q | q
  · exact q
  · subst q; exact absurd h (Nat.lt_irrefl _)
  · have := cnt_lt hb q; omega
theorem rank_lt {r q : List Str} (h : r ∈ dfs 3) (k : q ∈ dfs 3) : rankP (slashP r) < rankP (slashP q) ↔ ltR r q = true := by
  unfold rankP
  rw [un_row h, un_row k, ← cnt_lt_iff h k]
  omega
theorem rank_inj {r q : List Str} (h : r ∈ dfs 3) (k : q ∈ dfs 3) (e : rankP (slashP r) = rankP (slashP q)) : r = q := by
  rcases ltR_total r q with w | w | w
  · have := (rank_lt h k).mpr w; omega
  · exact w
  · have := (rank_lt k h).mpr w; omega
theorem cmp_row {r q : List Str} (h : r ∈ dfs 3) (k : q ∈ dfs 3) : cmpP (slashP r) (slashP q) < 0 ↔ rankP (slashP r) < rankP (slashP q) := by
  rw [rank_lt h k]
  unfold cmpP
  show b2i (ltR (PP q) (PP r)) - b2i (ltR (PP r) (PP q)) < 0 ↔ _
  rw [lt_row h k, lt_row k h]
  cases e : ltR r q with
  | true =>
    rw [ltR_asymm e]
    exact ⟨fun _ => rfl, fun _ => by decide⟩
  | false => cases ltR q r <;> simp [b2i]
/-- the two shelves -/
theorem side_cons (k x : Int) (ns : List Int) : sideP k (x :: ns) = if (x.fdiv 4).fmod 3 = k then sideP k ns else rowOf x :: sideP k ns := by
  unfold sideP
  rw [List.filter_cons]
  by_cases h : (x.fdiv 4).fmod 3 = k
  · simp [h]
  · simp [h]
theorem side_dfs {k : Int} {ns : List Int} {row : List Str} (h : row ∈ sideP k ns) : row ∈ dfs 3 := by
  unfold sideP at h
  obtain ⟨x, _, rfl⟩ := List.mem_map.mp h
  exact rowOf_mem x
theorem shelf_cases (k : Int) (acc : List Str) (x : Int) : ((x.fdiv 4).fmod 3 = k ∧ shelfStep k acc x = acc) ∨ (¬ (x.fdiv 4).fmod 3 = k ∧ ((slashP (rowOf x) ∈ acc ∧ shelfStep k acc x = acc) ∨ (slashP (rowOf x) ∉ acc ∧ shelfStep k acc x = acc ++ [slashP (rowOf x)]))) := by
  unfold shelfStep
  rw [laid_row (rowOf_mem x)]
  by_cases h : (x.fdiv 4).fmod 3 = k
  · exact .inl ⟨h, if_pos h⟩
  · refine .inr ⟨h, ?_⟩
    rw [if_neg h]
    by_cases q : slashP (rowOf x) ∈ acc
    · exact .inl ⟨q, if_pos (List.any_eq_true (p := fun y => y == slashP (rowOf x)) |>.mpr ⟨slashP (rowOf x), q, beq_iff_eq.mpr rfl⟩)⟩
    · refine .inr ⟨q, if_neg fun e => ?_⟩
      obtain ⟨y, hy, e⟩ := List.any_eq_true.mp e
      exact q (eq_of_beq e ▸ hy)
theorem or_skip {a b c : Prop} (h : c → a) : a ∨ b ↔ a ∨ c ∨ b := ⟨fun x => x.elim .inl fun y => .inr (.inr y), fun x => x.elim .inl fun y => y.elim (fun z => .inl (h z)) .inr⟩
theorem fold_mem (k : Int) (ns : List Int) : ∀ (acc : List Str) (y : Str), y ∈ ns.foldl (shelfStep k) acc ↔ y ∈ acc ∨ y ∈ (sideP k ns).map slashP := by
  induction ns with
  | nil => intro acc y; simp [sideP]
  | cons x ns ih =>
    intro acc y
    rw [List.foldl_cons, ih, side_cons]
    rcases shelf_cases k acc x with ⟨h, e⟩ | ⟨h, ⟨q, e⟩ | ⟨q, e⟩⟩
    · rw [e, if_pos h]
    · rw [e, if_neg h, List.map_cons, List.mem_cons]
      exact or_skip fun z => z ▸ q
    · rw [e, if_neg h, List.map_cons, List.mem_cons, List.mem_append, List.mem_singleton]
      exact or_assoc
theorem fold_nodup (k : Int) : ∀ (ns : List Int) (acc : List Str), acc.Nodup → (ns.foldl (shelfStep k) acc).Nodup
  | [], _, h => h
  | x :: ns, acc, h => by
    rw [List.foldl_cons]
    rcases shelf_cases k acc x with ⟨_, e⟩ | ⟨_, ⟨q, e⟩ | ⟨q, e⟩⟩
    · rw [e]; exact fold_nodup k ns acc h
    · rw [e]; exact fold_nodup k ns acc h
    · rw [e]
      refine fold_nodup k ns _ ?_
      rw [List.nodup_append]
      refine ⟨h, List.pairwise_singleton _ _, fun a ha b hb e => ?_⟩
      rw [List.mem_singleton] at hb
      exact q (hb ▸ e ▸ ha)
theorem fold_len (k : Int) : ∀ (ns : List Int) (acc : List Str), (ns.foldl (shelfStep k) acc).length ≤ acc.length + ns.length
  | [], _ => Nat.le_refl _
  | x :: ns, acc => by
    rw [List.foldl_cons]
    have := fold_len k ns (shelfStep k acc x)
    have h2 : (shelfStep k acc x).length ≤ acc.length + 1 := by
      rcases shelf_cases k acc x with ⟨_, e⟩ | ⟨_, ⟨q, e⟩ | ⟨q, e⟩⟩ <;> rw [e] <;> simp
    rw [List.length_cons]
    omega
theorem paths_mem {k : Int} {ns : List Int} {y : Str} : y ∈ pathsP k ns ↔ ∃ row ∈ sideP k ns, slashP row = y := by
  unfold pathsP
  rw [fold_mem]
  constructor
  · rintro (h | h)
    · cases h
    · exact List.mem_map.mp h
  · intro h
    exact .inr (List.mem_map.mpr h)
theorem paths_nodup (k : Int) (ns : List Int) : (pathsP k ns).Nodup := fold_nodup k ns [] .nil
theorem paths_len (k : Int) (ns : List Int) : (pathsP k ns).length ≤ ns.length := by
  have := fold_len k ns []
  simpa [pathsP] using this
theorem inj_of {ps : List Str} (hn : ps.Nodup) (hd : ∀ x ∈ ps, ∃ row ∈ dfs 3, slashP row = x) : InjR ps.length fun i => rankP (txt ps i) := by
  intro i j hi hj hij e
  have ei : txt ps i = ps[i] := by unfold txt; rw [List.getD_eq_getElem?_getD, List.getElem?_eq_getElem hi]; rfl
  have ej : txt ps j = ps[j] := by unfold txt; rw [List.getD_eq_getElem?_getD, List.getElem?_eq_getElem hj]; rfl
  obtain ⟨r, hr, er⟩ := hd _ (List.getElem_mem hi)
  obtain ⟨q, hq, eq⟩ := hd _ (List.getElem_mem hj)
  simp only [ei, ej] at e
  rw [← er, ← eq] at e
  have := rank_inj hr hq e
  subst this
  have ee : ps[i] = ps[j] := er.symm.trans eq
  have hp := List.pairwise_iff_getElem.mp hn
  rcases Nat.lt_or_gt_of_ne hij with q | q
  · exact hp i j hi hj q ee
  · exact hp j i hj hi q ee.symm
theorem paths_row {k : Int} {ns : List Int} {y : Str} (h : y ∈ pathsP k ns) : ∃ row ∈ dfs 3, slashP row = y := by
  obtain ⟨row, hr, e⟩ := paths_mem.mp h
  exact ⟨row, side_dfs hr, e⟩
theorem paths_ok (k : Int) (ns : List Int) (hn : ns.length ≤ 63) : PathsOk rankP (pathsP k ns) where
  few := Nat.lt_of_le_of_lt (paths_len k ns) (by omega)
  len := fun x hx => by
    obtain ⟨row, hr, rfl⟩ := paths_row hx
    exact (sum_row hr).2.2.1
  ord := fun x hx y hy => by
    obtain ⟨r, hr, rfl⟩ := paths_row hx
    obtain ⟨q, hq, rfl⟩ := paths_row hy
    exact cmp_row hr hq
  inj := inj_of (paths_nodup k ns) fun x hx => paths_row hx
/-- what is due -/
theorem keep_hit {a b c : Prop} (h : c → b) : (a ∧ b) ∨ c ↔ (a ∨ c) ∧ b := ⟨fun x => x.elim (fun y => ⟨.inl y.1, y.2⟩) fun y => ⟨.inr y, h y⟩, fun x => x.1.elim (fun y => .inl ⟨y, x.2⟩) .inr⟩
theorem keep_miss {a b c : Prop} (h : c → b → a) : a ∧ b ↔ (a ∨ c) ∧ b := ⟨fun x => ⟨.inl x.1, x.2⟩, fun x => ⟨x.1.elim id fun y => h y x.2, x.2⟩⟩
theorem keepT_iff (rows there : List (List Str)) (n : Nat) (y : List Str) : y ∈ keepT rows there n ↔ y ∈ rows.take n ∧ y ∉ there := by
  induction n with
  | zero => simp [keepT]
  | succ n ih =>
    unfold keepT keepB
    rw [List.take_add_one]
    cases e : rows[n]? with
    | none =>
      simp only [Bool.false_eq_true, if_false, Option.toList, List.append_nil]
      exact ih
    | some r =>
      simp only [Option.toList, Option.getD_some, Bool.and_eq_true, Bool.not_eq_true', decide_eq_false_iff_not, List.mem_append, List.mem_singleton]
      split
      · rename_i h
        rw [List.mem_append, List.mem_singleton, ih]
        exact keep_hit fun z => z ▸ h.2
      · rename_i h
        rw [ih]
        refine keep_miss fun z h2 => ?_
        subst z
        by_cases q : y ∈ rows.take n
        · exact q
        · exact absurd ⟨q, h2⟩ h
theorem keepT_nodup (rows there : List (List Str)) : ∀ n, (keepT rows there n).Nodup
  | 0 => .nil
  | n + 1 => by
    have ih := keepT_nodup rows there n
    unfold keepT
    split
    · rename_i h
      rw [List.nodup_append]
      refine ⟨ih, List.pairwise_singleton _ _, fun a ha b hb e => ?_⟩
      rw [List.mem_singleton] at hb
      subst e
      unfold keepB at h
      cases q : rows[n]? with
      | none => rw [q] at h; cases h
      | some r =>
        rw [q] at h hb
        simp only [Bool.and_eq_true, Bool.not_eq_true', decide_eq_false_iff_not] at h
        have hb' : a = r := hb
        exact h.1 (hb' ▸ ((keepT_iff rows there n a).mp ha).1)
    · exact ih
theorem keepT_le (rows there : List (List Str)) : ∀ n, (keepT rows there n).length ≤ n
  | 0 => Nat.le_refl _
  | n + 1 => by
    have ih := keepT_le rows there n
    unfold keepT
    split
    · rw [List.length_append]; simp; omega
    · omega
theorem due3_mem {k j : Int} {ns : List Int} {y : List Str} : y ∈ due3 k j ns ↔ y ∈ sideP j ns ∧ y ∉ sideP k ns := by
  unfold due3
  rw [keepT_iff, List.take_length]
theorem dueP_isort (k j : Int) (ns : List Int) : dueP k j ns = isort (due3 k j ns) := order_isort (keepT_nodup _ _ _)
theorem dueP_mem {k j : Int} {ns : List Int} {y : List Str} : y ∈ dueP k j ns ↔ y ∈ sideP j ns ∧ y ∉ sideP k ns := by
  rw [dueP_isort, (isort_perm _).mem_iff, due3_mem]
theorem dueP_srt (k j : Int) (ns : List Int) : Srt (dueP k j ns) := by
  rw [dueP_isort]
  exact isort_srt _ (keepT_nodup _ _ _)
theorem dueP_len (k j : Int) (ns : List Int) : (dueP k j ns).length ≤ ns.length := by
  rw [dueP_isort, (isort_perm _).length_eq]
  unfold due3
  refine Nat.le_trans (keepT_le _ _ _) ?_
  unfold sideP
  rw [List.length_map]
  exact List.length_filter_le _ _
theorem dueP_dfs {k j : Int} {ns : List Int} {y : List Str} (h : y ∈ dueP k j ns) : y ∈ dfs 3 := side_dfs (dueP_mem.mp h).1
theorem srt_map : ∀ {l : List (List Str)}, (∀ x ∈ l, x ∈ dfs 3) → Srt l → Srt (l.map PP)
  | [], _, _ => .nil
  | x :: l, hd, h => by
    rw [List.map_cons]
    refine List.pairwise_cons.mpr ⟨fun y hy => ?_, srt_map (fun z hz => hd z (.tail _ hz)) (srt_tail h)⟩
    obtain ⟨q, hq, rfl⟩ := List.mem_map.mp hy
    rw [lt_row (hd x (.head _)) (hd q (.tail _ hq))]
    exact srt_head h hq
/-- a sorted shelf -/
theorem sorted_row {k : Int} {ns : List Int} {ys : List Str} (h : SortedBy rankP (pathsP k ns) ys) {y : Str} (hy : y ∈ ys) : ∃ row ∈ sideP k ns, slashP row = y := paths_mem.mp (h.1.mem_iff.mp hy)
theorem sorted_mem {k : Int} {ns : List Int} {ys : List Str} (h : SortedBy rankP (pathsP k ns) ys) {p : List Str} : p ∈ ys.map partsP ↔ ∃ row ∈ sideP k ns, PP row = p := by
  rw [List.mem_map]
  constructor
  · rintro ⟨y, hy, rfl⟩
    obtain ⟨row, hr, rfl⟩ := sorted_row h hy
    exact ⟨row, hr, rfl⟩
  · rintro ⟨row, hr, rfl⟩
    exact ⟨slashP row, h.1.mem_iff.mpr (paths_mem.mpr ⟨row, hr, rfl⟩), rfl⟩
theorem ranks_srt : ∀ {ys : List Str}, (∀ y ∈ ys, ∃ row ∈ dfs 3, slashP row = y) → (ys.Pairwise fun x y => rankP x < rankP y) → Srt (ys.map partsP)
  | [], _, _ => .nil
  | y :: ys, hd, h => by
    obtain ⟨h1, h2⟩ := List.pairwise_cons.mp h
    rw [List.map_cons]
    refine List.pairwise_cons.mpr ⟨fun p hp => ?_, ranks_srt (fun z hz => hd z (.tail _ hz)) h2⟩
    obtain ⟨z, hz, rfl⟩ := List.mem_map.mp hp
    have h3 := h1 z hz
    obtain ⟨r, hr, rfl⟩ := hd y (.head _)
    obtain ⟨q, hq, rfl⟩ := hd z (.tail _ hz)
    show ltR (PP r) (PP q) = true
    rw [lt_row hr hq]
    exact (rank_lt hr hq).mp h3
theorem sorted_srt {k : Int} {ns : List Int} {ys : List Str} (h : SortedBy rankP (pathsP k ns) ys) : Srt (ys.map partsP) :=
  ranks_srt (fun y hy => let ⟨row, hr, e⟩ := sorted_row h hy; ⟨row, side_dfs hr, e⟩) h.2
theorem sorted_dfs {k : Int} {ns : List Int} {ys : List Str} (h : SortedBy rankP (pathsP k ns) ys) {p : List Str} (hp : p ∈ ys.map partsP) : ∃ row ∈ dfs 3, PP row = p := by
  obtain ⟨row, hr, e⟩ := (sorted_mem h).mp hp
  exact ⟨row, side_dfs hr, e⟩
theorem map_back : ∀ {l : List (List Str)}, (∀ x ∈ l, x ∈ dfs 3) → (l.map PP).map backP = l.map slashP
  | [], _ => rfl
  | x :: l, h => by
    rw [List.map_cons, List.map_cons, List.map_cons, back_row (h x (.head _)), map_back fun z hz => h z (.tail _ hz)]
theorem same_half {k j : Int} {ns : List Int} {es as ms : List (List Str)} (hm : Srt ms) (hx : ∀ x, x ∈ ms ↔ x ∈ es ∧ x ∉ as)
    (he : ∀ p, p ∈ es ↔ ∃ row ∈ sideP j ns, PP row = p) (ha : ∀ p, p ∈ as ↔ ∃ row ∈ sideP k ns, PP row = p) : ms.map backP = (dueP k j ns).map slashP := by
  have e : ms = (dueP k j ns).map PP := by
    refine srt_uniq hm (srt_map (fun x hx => dueP_dfs hx) (dueP_srt k j ns)) fun p => ?_
    rw [hx p, he, ha, List.mem_map]
    constructor
    · rintro ⟨⟨row, hr, rfl⟩, hn⟩
      exact ⟨row, dueP_mem.mpr ⟨hr, fun q => hn ⟨row, q, rfl⟩⟩, rfl⟩
    · rintro ⟨row, hr, rfl⟩
      obtain ⟨h1, h2⟩ := dueP_mem.mp hr
      refine ⟨⟨row, h1, rfl⟩, ?_⟩
      rintro ⟨q, hq, e⟩
      exact h2 (pp_inj (side_dfs hq) (side_dfs h1) e ▸ hq)
  rw [e]
  exact map_back fun x hx => dueP_dfs hx
theorem lawOk {xs : List Int} (hn : xs.length ≤ 63) : LawOk xs rankP where
  laid := fun x => laid_ok (rowOf_mem x)
  p1 := paths_ok 2 xs hn
  p2 := paths_ok 1 xs hn
  len := fun k ys h => by
    rw [h.1.length_eq]
    exact Nat.le_trans (paths_len k xs) (by omega)
  ok := fun k ys h row hr x hx => by
    obtain ⟨q, hq, rfl⟩ := sorted_dfs h hr
    have := at_dfs fin_ok hq
    simp only [Bool.and_eq_true] at this
    rw [pp_row hq] at hx
    exact List.all_eq_true.mp this.2 x hx
  nodup := fun k ys h => (sorted_srt h).imp fun h => lt_ne h
  size := fun k ys h row hr => by
    obtain ⟨q, hq, rfl⟩ := sorted_dfs h hr
    have := at_dfs fin_parts hq
    simp only [Bool.and_eq_true] at this
    rw [pp_row hq]
    refine ⟨of_decide_eq_true this.1, fun i y hy => ?_⟩
    have h2 := redB_at this.2 hy
    have h3 : (1002 : Nat) ≤ sizeLine := by decide
    omega
  due := fun k j row hr => by
    have := sum_row (dueP_dfs hr)
    exact ⟨this.1, this.2.1⟩
  dueLen := fun k j => Nat.le_trans (dueP_len k j xs) (by omega)
  okP := fun k ys h row hr => by
    obtain ⟨q, hq, rfl⟩ := sorted_dfs h hr
    rw [back_row hq]
    have := at_dfs fin_ok hq
    simp only [Bool.and_eq_true] at this
    exact this.1
  okD := fun k j row hr => by
    have := at_dfs fin_ok (dueP_dfs hr)
    simp only [Bool.and_eq_true] at this
    exact this.1
  same := fun ys1 ys2 ms us h1 h2 hD => by
    obtain ⟨i1, i2, i3, i4⟩ := diff_srt hD (sorted_srt h1) (sorted_srt h2)
    exact ⟨same_half i1 i3 (fun p => sorted_mem h1) (fun p => sorted_mem h2), same_half i2 i4 (fun p => sorted_mem h2) (fun p => sorted_mem h1)⟩
end
section
open PySem PySem.W PySem.W.X PyProof.Rows PySem.Calls
theorem gd_top {loose : List Str} {mean : ExcName → Option Value} {mg mb : Str → Option Value} {h : Heap} (T : Top topProg loose mean mg mb h) : Top topProg loose (fun _ => none) mg mb h :=
  { g := T.g, b := T.b, nolimit := T.nolimit, nodigits := T.nodigits, fn := T.fn, own := fun o ho => (by cases ho), const := T.const, free := T.free, builtins := T.builtins, tab := T.tab, bmain := T.bmain, seer := T.seer }
set_option maxHeartbeats 8000000 in
theorem t8 : PySem.Challenge.rw_ik0057_01.Holds := rwJ_eq ▸ hdz (by
  rw [rwJ_eq]
  k_fill
  intro w s₀ s₁ mg mb G y fa o pm cd doc dV kV ho hd hcd hD hmg hg args vals as L hpre hlay hrd hwl hlo
  have ZF := z_facts (K := hdz.heap_214) (fun P => rfl) y
  have XK : (KM w.params).In s₁.heap := (km_in ZF.2.1).keeps L.keeps
  have X214 : (hdz.heap_214 w.params).In s₁.heap := fun a o e => L.keeps _ _ (ZF.2.1 a o e)
  have VX := (Ground.X G).2
  refine Ground.open G ?_
  intro T B D TE TW
  try (refine guard_noD D (by decide +kernel) ?_; clear D)
  have hT9 : TabsAt [(41, 37)] s₁.heap := List.forall_mem_cons.mpr ⟨tab_of (x := Str.ofString "cmp_to_key") (c := 41) (P := 37) T X214 rfl (by kernel_rfl), fun _ h => nomatch h⟩
  clear hmg
  wrow_args hpre hlay hrd hwl hlo
  first | refine callC_kw (enter_call ?_) | refine enter_call ?_
  w_top on
  refine kn_post hT9 (fun _ _ => rfl) ?_
  w_call any ho hd hcd hD T F
  clear hd hcd hD
  have F' := ghost_fr hT9 F
  have N' := ghost_news hT9 F (News.nil)
  have G' : Gd w mg mb (ghostOf s₁.heap [(41, 37)]) := ⟨fun a o e => ghost_ne (XK a o e) (fun q => by
    have q' : a = 37 := by simpa using q
    rw [q', km37] at e
    cases e), gd_top (ghost_top hT9 T)⟩
  rename s₁.heap.IsList _ _ => hL
  rename IntsAre _ _ => hI
  have hL' := ghost_list hT9 hL
  rename ¬ _ < _ => hc63
  refine law_body (fa := fa) (cd := cd) G' F' N' hL' hI (by omega) (r := rankP) (lawOk (by simp only [numsP, List.length_append, List.length_take, List.length_cons, List.length_nil]; omega)) ?_
  intro h' tk' m' Fr' hps
  refine ⟨⟨.inl ⟨.bool true, ofPy (.bool true), [], rfl, fun _ => rfl, ?_, ?_, fun _ => ⟨List.nodup_nil, fun a h => nomatch h⟩⟩, Fr'.keep, rfl, hg⟩, ⟨hps, trivial⟩⟩
  · exact .bool true
  · first
      | rfl
      | kernel_rfl)
end
end Mine
theorem PySem.Challenge.cw_ik0057_01_holds : PySem.Challenge.rw_ik0057_01.Holds := by
  exact Mine.t8
