import PyProof.Rows.All
import Wide.All
import OpenK.AllK
import Wide.FinOn
import PySem.Challenge.RW_oy0082_01
set_option Elab.async false
set_option linter.unusedVariables false
set_option linter.unusedSimpArgs false
set_option linter.unusedSectionVars false
namespace Mine
def CutOne (G : Prop) : Type := PSigma fun P : Prop => PLift P → G
def CutOne.mk {G : Prop} (P : Prop) (f : PLift P → G) : CutOne G := ⟨P, f⟩
def CutOne.P1 {G : Prop} (c : CutOne G) : Prop := c.1
theorem CutOne.run {G : Prop} (c : CutOne G) (a : c.P1) : G := c.2 ⟨a⟩
def CutTwo (G : Prop) : Type := PSigma fun P : Prop => PSigma fun Q : Prop => PLift P → PLift Q → G
def CutTwo.mk {G : Prop} (P Q : Prop) (f : PLift P → PLift Q → G) : CutTwo G := ⟨P, Q, f⟩
def CutTwo.P1 {G : Prop} (c : CutTwo G) : Prop := c.1
def CutTwo.P2 {G : Prop} (c : CutTwo G) : Prop := c.2.1
theorem CutTwo.run {G : Prop} (c : CutTwo G) (a : c.P1) (b : c.P2) : G := c.2.2 ⟨a⟩ ⟨b⟩
def CutThree (G : Prop) : Type := PSigma fun P : Prop => PSigma fun Q : Prop => PSigma fun R : Prop => PLift P → PLift Q → PLift R → G
def CutThree.mk {G : Prop} (P Q R : Prop) (f : PLift P → PLift Q → PLift R → G) : CutThree G := ⟨P, Q, R, f⟩
def CutThree.P1 {G : Prop} (c : CutThree G) : Prop := c.1
def CutThree.P2 {G : Prop} (c : CutThree G) : Prop := c.2.1
def CutThree.P3 {G : Prop} (c : CutThree G) : Prop := c.2.2.1
theorem CutThree.run {G : Prop} (c : CutThree G) (a : c.P1) (b : c.P2) (d : c.P3) : G := c.2.2.2 ⟨a⟩ ⟨b⟩ ⟨d⟩
end Mine
section
open PySem PySem.W PyProof.Rows
namespace Mine
def viewOf {a0 a1 a2 a3 a4 a5 a6 a7 a8 a9 b0 b1 b2 b3 b4 b5 b6 : Stmt} (P : Program) (_ : [a0, a1, a2, a3, a4, a5, a6, a7, a8, a9, b0, b1, b2, b3, b4, b5, b6] = P.main.body) : Program :=
  { P with main := { P.main with body := [a0, a2, a3, a5, a6, a7, a8, a9, b1, b2, b4, b5, b6] } }
noncomputable def view : Program := viewOf (RowW.prog (OpenRow.toRowW (OpenLaw.row Challenge.rw_oy0082_01))) rfl
theorem headK (K : Params → Frag) (as : List Addr) (e : ∀ P, as = (K P).map (·.1)) {d : DefRec} {kwd : List (Str × Expr)} (hdef : defOf view (OpenLaw.row Challenge.rw_oy0082_01).name = some (d, kwd))
    (left : LeftO (OpenLaw.row Challenge.rw_oy0082_01).prog view [Str.ofString "_Accumulator"] (fun s => xlAt view [] s && recOk (RowW.records (OpenRow.toRowW (OpenLaw.row Challenge.rw_oy0082_01))) s) (Hook.obs (kmHook K as e [63, 70])) (Hook.val (kmHook K as e [63, 70])) 1886)
    (hp : (OpenLaw.row Challenge.rw_oy0082_01).prog.theDef (OpenLaw.row Challenge.rw_oy0082_01).name = some (d.params, d.body, d.scope)) (hk : kwWritten? d.params.kwonlyargs d.params.kw_defaults = some kwd)
    (k1 : (OpenLaw.row Challenge.rw_oy0082_01).wellSaid = true) (hw : (OpenLaw.row Challenge.rw_oy0082_01).toRowW.promised)
    (hc : WalkO view [Str.ofString "_Accumulator"] (XL view []) (Hook.says (kmHook K as e [63, 70])) (OpenLaw.row Challenge.rw_oy0082_01).toRowW d kwd fun f vs => PySem.call f vs) : (OpenLaw.row Challenge.rw_oy0082_01).Holds :=
  holds_open left (Hook.of (kmHook K as e [63, 70])) (Hook.keeps (kmHook K as e [63, 70]))
    (fun s e => xl_of s (Bool.and_eq_true_iff.mp e).1) XL.keeps hdef hp hk (fun s e => recFacts_of (Bool.and_eq_true_iff.mp e).2) (by rfl) k1 (by decide +kernel) ⟨rfl, rfl, rfl, rfl, rfl, by decide +kernel⟩ hw hc
section
local macro_rules | `(tactic| o_head ($_:ident $K $as $e)) => `(tactic| (refine headK $K $as $e rfl ?hl rfl rfl (by assumption) ?hw ?hc; (case hl => (intro w; kernel_rfl))))
set_option maxRecDepth 100000 in
set_option maxHeartbeats 8000000 in
open_top hd for PySem.Challenge.rw_oy0082_01
end
end Mine
end
section
open PySem PySem.W PyProof.Rows
namespace Mine
open PySem.MeetsSeq PySem.MeetsSeq3 AutoSeq1
open AutoSeq1 (wpAny_loadPart')

abbrev two (a b : Int) (t u : Tok) (n : Nat) : Obj := { cls := .type "list", dict := none, data := .seq #[.int a t, .int b u] n, slots := #[] }

def lexLt (p q : Int × Int) : Bool := decide (p.1 < q.1) || (decide (p.1 = q.1) && decide (p.2 < q.2))

theorem lt_at2 (l b : Addr) (x0 x1 y0 y1 : Int) (t0 t1 u0 u1 : Tok) (n n2 : Nat) :
    Meets (Builtin.«list.__eq__.loop» ⟨[.ref l, .ref b, rawInt ((2 : Nat) : Int), rawInt 0], []⟩)
      (fun A R s => A.units + 8 < cLine ∧ s.heap.get? l = some (two x0 x1 t0 t1 n) ∧ s.heap.get? b = some (two y0 y1 u0 u1 n2) ∧
        R (.ok (.ret (.bool false))) s) := by
  intro prog w A R s h
  obtain ⟨hp, g, d, tk, os⟩ := s; obtain ⟨hu, hl, hb, h⟩ := h
  wp_walk using wpAny_loadPart' hl, wpAny_loadPart' hb
  exact h

theorem lt_at1 (l b : Addr) (x0 x1 y0 y1 : Int) (t0 t1 u0 u1 : Tok) (n n2 : Nat) :
    Meets (Builtin.«list.__eq__.loop» ⟨[.ref l, .ref b, rawInt ((1 : Nat) : Int), rawInt 0], []⟩)
      (fun A R s => A.units + 8 < cLine ∧ s.heap.get? l = some (two x0 x1 t0 t1 n) ∧ s.heap.get? b = some (two y0 y1 u0 u1 n2) ∧
        R (.ok (.ret (.bool (decide (x1 < y1))))) s) := by
  intro prog w A R s h
  obtain ⟨hp, g, d, tk, os⟩ := s; obtain ⟨hu, hl, hb, h⟩ := h
  wp_walk using wpAny_loadPart' hl, wpAny_loadPart' hb
  show wpAny _ _ (eqBool (.int x1 t1) (.int y1 u1)) _ _ _
  refine EqGives.int x1 y1 t1 u1 prog w _ _ _ _ ?_
  cases hb' : x1 == y1 with
  | true =>
    wp_walk
    refine ⟨plainId_quiet plain_eq_loop _, codeAny_builtin entry_eq_loop (by
        rw [Around.under_plainId plain_eq_loop _]
        refine lt_at2 l b x0 x1 y0 y1 t0 t1 u0 u1 n n2 prog w A R _ ⟨hu, hl, hb, ?_⟩
        have : x1 = y1 := by simpa using hb'
        rw [show decide (x1 < y1) = false by simp [this]] at h
        exact h)⟩
  | false =>
    refine wpAny_ite ?_
    rw [if_neg (by decide)]
    refine wpAny_bind (listItems_at hl rfl ?_)
    refine wpAny_bind (listItems_at hb rfl ?_)
    show wpAny _ _ (richCompare .Lt (.int x1 t1) (.int y1 u1) >>= _) _ _ _
    refine wpAny_bind (PyProof.Rows.lt_int (a := x1) (b := y1) (t := t1) (u := u1) ?_)
    wp_walk
    exact h

theorem lt_at0 (l b : Addr) (x0 x1 y0 y1 : Int) (t0 t1 u0 u1 : Tok) (n n2 : Nat) :
    Meets (Builtin.«list.__eq__.loop» ⟨[.ref l, .ref b, rawInt ((0 : Nat) : Int), rawInt 0], []⟩)
      (fun A R s => A.units + 8 < cLine ∧ s.heap.get? l = some (two x0 x1 t0 t1 n) ∧ s.heap.get? b = some (two y0 y1 u0 u1 n2) ∧
        R (.ok (.ret (.bool (lexLt (x0, x1) (y0, y1))))) s) := by
  intro prog w A R s h
  obtain ⟨hp, g, d, tk, os⟩ := s; obtain ⟨hu, hl, hb, h⟩ := h
  wp_walk using wpAny_loadPart' hl, wpAny_loadPart' hb
  show wpAny _ _ (eqBool (.int x0 t0) (.int y0 u0)) _ _ _
  refine EqGives.int x0 y0 t0 u0 prog w _ _ _ _ ?_
  cases hb' : x0 == y0 with
  | true =>
    wp_walk
    refine ⟨plainId_quiet plain_eq_loop _, codeAny_builtin entry_eq_loop (by
        rw [Around.under_plainId plain_eq_loop _]
        refine lt_at1 l b x0 x1 y0 y1 t0 t1 u0 u1 n n2 prog w A R _ ⟨hu, hl, hb, ?_⟩
        have : x0 = y0 := by simpa using hb'
        rw [show lexLt (x0, x1) (y0, y1) = decide (x1 < y1) by simp [this, lexLt]] at h
        exact h)⟩
  | false =>
    refine wpAny_ite ?_
    rw [if_neg (by decide)]
    refine wpAny_bind (listItems_at hl rfl ?_)
    refine wpAny_bind (listItems_at hb rfl ?_)
    show wpAny _ _ (richCompare .Lt (.int x0 t0) (.int y0 u0) >>= _) _ _ _
    refine wpAny_bind (PyProof.Rows.lt_int (a := x0) (b := y0) (t := t0) (u := u0) ?_)
    wp_walk
    have : x0 ≠ y0 := by simpa using hb'
    rw [show lexLt (x0, x1) (y0, y1) = decide (x0 < y0) by simp [this, lexLt]] at h
    exact h

theorem list_lt2 (l b : Addr) (x0 x1 y0 y1 : Int) (t0 t1 u0 u1 : Tok) (n n2 : Nat) :
    Meets (Builtin.«list.__lt__» ⟨[.ref l, .ref b], []⟩)
      (fun A R s => A.units + 8 < cLine ∧ s.heap.get? l = some (two x0 x1 t0 t1 n) ∧ s.heap.get? b = some (two y0 y1 u0 u1 n2) ∧
        R (.ok (.ret (.bool (lexLt (x0, x1) (y0, y1))))) s) := by
  intro prog w A R s h
  obtain ⟨hp, g, d, tk, os⟩ := s; obtain ⟨hu, hl, hb, h⟩ := h
  have f3 := AutoSeq1.sub_list_list
  wp_walk using wpAny_loadPart' hl, wpAny_loadPart' hb
  exact ⟨plainId_quiet plain_eq_loop _, codeAny_builtin entry_eq_loop (by
    rw [Around.under_plainId plain_eq_loop _]
    exact lt_at0 l b x0 x1 y0 y1 t0 t1 u0 u1 n n2 prog w A R _ ⟨hu, hl, hb, h⟩)⟩

theorem lt_two {prog : Program} {w : World} {A : Around} {E : Value → Shared → Prop} {s : Shared} {l b : Addr} {x0 x1 y0 y1 : Int} {t0 t1 u0 u1 : Tok} {n n2 : Nat} {Q : Value → Shared → Prop}
    (hl : s.heap.get? l = some (two x0 x1 t0 t1 n)) (hb : s.heap.get? b = some (two y0 y1 u0 u1 n2)) (hu : A.units + 16 < cLine)
    (h : Q (.bool (lexLt (x0, x1) (y0, y1))) s) : wpAny (model prog w) A (compareOp .Lt (.ref l) (.ref b)) Q E s :=
  cmp_ofLt (richCompare_meets_room (op := .Lt) ⟨_, hl, rfl⟩ ⟨_, hb, rfl⟩ F.slot_list_lt F.entry_list_lt (F.args_list_lt_2 _ _) (list_lt2 l b x0 x1 y0 y1 t0 t1 u0 u1 n n2)
    ⟨by omega, hl, hb, ⟨(fun x => nomatch x), h⟩⟩ (by omega))
end Mine
end
section
open PySem PySem.W PyProof.Rows
namespace Mine
def Halt (P : Prop) : Prop := P
theorem halt {P : Prop} (h : Halt P) : P := h

section pure
variable {α : Type} [Inhabited α] (lt : α → α → Bool)
def sd (vs : List α) (start pos : Nat) (x : α) : List α :=
  if _h : start < pos then
    if lt x (vs.getD ((pos - 1) / 2) default) then sd (vs.set pos (vs.getD ((pos - 1) / 2) default)) start ((pos - 1) / 2) x else vs.set pos x
  else vs.set pos x
termination_by pos
decreasing_by omega
def childOf (vs : List α) (c : Nat) : Nat :=
  if c + 1 < vs.length ∧ lt (vs.getD c default) (vs.getD (c + 1) default) = false then c + 1 else c
theorem childOf_ge (vs : List α) (c : Nat) : c ≤ childOf lt vs c := by unfold childOf; split <;> omega
theorem childOf_le (vs : List α) (c : Nat) : childOf lt vs c ≤ c + 1 := by unfold childOf; split <;> omega
theorem childOf_lt (vs : List α) (c : Nat) (h : c < vs.length) : childOf lt vs c < vs.length := by unfold childOf; split <;> omega
def su (vs : List α) (pos : Nat) : List α × Nat :=
  if _h : 2 * pos + 1 < vs.length then
    su (vs.set pos (vs.getD (childOf lt vs (2 * pos + 1)) default)) (childOf lt vs (2 * pos + 1))
  else (vs, pos)
termination_by vs.length - pos
decreasing_by
  have h1 := childOf_ge lt vs (2 * pos + 1)
  have h2 := childOf_lt lt vs (2 * pos + 1) _h
  simp only [List.length_set]; omega
def siftup (vs : List α) (pos : Nat) : List α :=
  let r := su lt vs pos
  let x := vs.getD pos default
  sd lt (r.1.set r.2 x) pos r.2 x
theorem sd_length (vs : List α) (start pos : Nat) (x : α) : (sd lt vs start pos x).length = vs.length := by
  induction vs, pos using sd.induct (lt := lt) (start := start) (x := x) with
  | case1 vs pos h h' ih => rw [sd, dif_pos h, if_pos h', ih, List.length_set]
  | case2 vs pos h h' => rw [sd, dif_pos h, if_neg h', List.length_set]
  | case3 vs pos h => rw [sd, dif_neg h, List.length_set]
theorem su_length (vs : List α) (pos : Nat) : (su lt vs pos).1.length = vs.length := by
  induction vs, pos using su.induct (lt := lt) with
  | case1 vs pos h ih => rw [su, dif_pos h, ih, List.length_set]
  | case2 vs pos h => rw [su, dif_neg h]
theorem su_pos (vs : List α) (pos : Nat) (hp : pos < vs.length) : pos ≤ (su lt vs pos).2 ∧ (su lt vs pos).2 < vs.length := by
  induction vs, pos using su.induct (lt := lt) with
  | case1 vs pos h ih =>
    have h1 := childOf_ge lt vs (2 * pos + 1)
    have h2 := childOf_lt lt vs (2 * pos + 1) h
    have := ih (by simpa using h2)
    rw [su, dif_pos h]
    simp only [List.length_set] at this
    omega
  | case2 vs pos h => rw [su, dif_neg h]; omega
theorem siftup_length (vs : List α) (pos : Nat) : (siftup lt vs pos).length = vs.length := by
  unfold siftup; rw [sd_length, List.length_set, su_length]
theorem mem_set' {l : List α} {i : Nat} {a b : α} (h : b ∈ l.set i a) : b ∈ l ∨ b = a := List.mem_or_eq_of_mem_set h
theorem getD_mem {l : List α} {i : Nat} (h : i < l.length) : l.getD i default ∈ l := by
  rw [List.getD_eq_getElem?_getD, List.getElem?_eq_getElem h]; exact List.getElem_mem h
theorem sd_mem (vs : List α) (start pos : Nat) (x : α) (hp : pos < vs.length) : ∀ v ∈ sd lt vs start pos x, v ∈ vs ∨ v = x := by
  induction vs, pos using sd.induct (lt := lt) (start := start) (x := x) with
  | case1 vs pos h h' ih =>
    rw [sd, dif_pos h, if_pos h']
    intro v hv
    rcases ih (by rw [List.length_set]; omega) v hv with q | q
    · rcases mem_set' q with q | q
      · exact .inl q
      · exact .inl (q ▸ getD_mem (by omega))
    · exact .inr q
  | case2 vs pos h h' => rw [sd, dif_pos h, if_neg h']; intro v hv; exact mem_set' hv
  | case3 vs pos h => rw [sd, dif_neg h]; intro v hv; exact mem_set' hv
theorem su_mem (vs : List α) (pos : Nat) : ∀ v ∈ (su lt vs pos).1, v ∈ vs := by
  induction vs, pos using su.induct (lt := lt) with
  | case1 vs pos h ih =>
    rw [su, dif_pos h]
    intro v hv
    rcases mem_set' (ih v hv) with q | q
    · exact q
    · exact q ▸ getD_mem (childOf_lt lt vs _ h)
  | case2 vs pos h => rw [su, dif_neg h]; exact fun v hv => hv
theorem siftup_mem (vs : List α) (pos : Nat) (hp : pos < vs.length) : ∀ v ∈ siftup lt vs pos, v ∈ vs := by
  intro v hv
  have h2 := su_pos lt vs pos hp
  unfold siftup at hv
  rcases sd_mem lt _ _ _ _ (by rw [List.length_set, su_length]; exact h2.2) v hv with q | q
  · rcases mem_set' q with q | q
    · exact su_mem lt vs pos v q
    · exact q ▸ getD_mem hp
  · exact q ▸ getD_mem hp
end pure
end Mine
end
section
open PySem PySem.W PyProof.Rows
namespace Mine
open PySem.MeetsSeq AutoSeq1
abbrev rangeIt (x left step : Int) : Obj := { cls := .type "range_iterator", dict := none, data := .fields #[rawInt x, rawInt left, rawInt step], slots := #[] }

theorem rangeSize1 (b : Int) (h : 0 ≤ b) : Builtin.Range.rangeSize 0 b 1 = b := by
  unfold Builtin.Range.rangeSize
  simp
  omega

theorem range_reversed (r : Addr) (b : Int) (t u v : Tok) (h0 : 0 ≤ b) (h1 : b < 2 ^ 62) :
    Meets (Builtin.«range.__reversed__» ⟨[.ref r], []⟩) (fun _ R s => s.heap.get? r = some { cls := .type "range", dict := none, data := .fields #[.int 0 t, .int b u, .int 1 v], slots := #[] } ∧
      R (.ok (.ret (Value.ref s.heap.objs.size))) { s with heap := s.heap.push (rangeIt (b - 1) b (-1)) }) := by
  have hb : (Builtin.Range.rangeFitsLong 0 && Builtin.Range.rangeFitsLong b && Builtin.Range.rangeFitsLong 1 && Builtin.Range.rangeFitsLong (-1) && Builtin.Range.rangeFitsLong (0 - 1) && Builtin.Range.rangeFitsLong b) = true := by
    simp only [Builtin.Range.rangeFitsLong, Bool.and_eq_true, decide_eq_true_eq]
    omega
  refine .of_wp fun prog w A R s h => ?_
  obtain ⟨hp, g, d, tk, os⟩ := s; obtain ⟨hl, h⟩ := h
  wp_walk
  rw [rangeSize1 b h0, hb]
  wp_walk
  exact ⟨_, rfl, by simpa using h⟩

section
variable {prog : Program} {w : World} {A : Around} {E : Value → Shared → Prop} {s : Shared}
theorem code_reversed_range {r : Addr} {b : Int} {t u v : Tok} {Q₁ : Value → Shared → Prop} (hr : IsRange s.heap r 0 b 1 t u v) (h0 : 0 ≤ b) (h1 : b < 2 ^ 62)
    (h : Q₁ (.ref s.heap.objs.size) { s with heap := s.heap.push (rangeIt (b - 1) b (-1)) }) :
    codeAny (model prog w) A (.call (.builtin "reversed.__new__") ⟨[.type "reversed", .ref r], []⟩) (wants Q₁ E) s := by
  have hT : s.TypeIs (.ref r) "range" := ⟨_, hr, rfl⟩
  refine codeAny_of_tree ?_
  show wpAny _ A.in1 (do checkBuiltinCall "reversed.__new__" ⟨[.type "reversed", .ref r], []⟩; again (.builtin "reversed.__new__" ⟨[.type "reversed", .ref r], []⟩)) _ _ s
  refine wpAny_bind (wpAny_of_eq (F.newCall_reversed_1 _) (wpAny_pure ⟨plainId_quiet F.plain_reversed_new _, codeAny_builtin F.entry_reversed_new ?_⟩))
  rw [Around.under_plainId F.plain_reversed_new _]
  unfold Builtin.«reversed.__new__»
  refine wpAny_bind (wpAny_of_eq (newClass_reversed _) ?_)
  try dsimp only
  refine wpAny_bind (wpAny_of_eq (a := ()) (by first | rfl | kernel_rfl) ?_)
  refine wpAny_bind (wpAny_of_eq (a := ()) (by first | rfl | kernel_rfl) ?_)
  try dsimp only
  refine wpAny_bind (wpAny_specialOf hT F.slot_range_reversed.lookup ?_)
  try dsimp only
  refine wpAny_bind (wpAny_of_eq (F.slot_range_reversed.bind _) ?_)
  try dsimp only
  rw [if_neg (show ¬ ((Value.builtin "range.__reversed__" == Value.none) = true) from Bool.false_ne_true)]
  refine wpAny_bind (wpAny_rule ?_)
  refine wpAny_bind (m := runValue (.call (.builtin "range.__reversed__") ⟨[.ref r], []⟩)) (show wpAny _ _ (call (.builtin "range.__reversed__") [.ref r]) _ _ _ from
    call_meets F.slot_range_reversed hT F.entry_range_reversed (F.args_range_reversed_1 _) (range_reversed r b t u v h0 h1) ⟨hr, ?_⟩)
  exact wpAny_pure h
theorem sub_ri_reversed : isSubtype (.type "range_iterator") (.type "reversed") = pure false := by rw [isSubtype_type]; kernel_rfl
theorem call_reversed_range {r : Addr} {b : Int} {t u v : Tok} {Q : Value → Shared → Prop} (hr : IsRange s.heap r 0 b 1 t u v) (h0 : 0 ≤ b) (h1 : b < 2 ^ 62)
    (h : Q (.ref s.heap.objs.size) { s with heap := s.heap.push (rangeIt (b - 1) b (-1)) }) : wpAny (model prog w) A (call (.type "reversed") [.ref r]) Q E s := by
  refine callType_other (U := "range_iterator") (Q₁ := fun obj s₁ => obj = .ref s.heap.objs.size ∧ s₁ = { s with heap := s.heap.push (rangeIt (b - 1) b (-1)) }) (by decide +kernel) F.create_reversed ⟨_, _, F.mro_reversed⟩ F.made_reversed sub_ri_reversed (F.typeCall_reversed_1 _) (code_reversed_range hr h0 h1 ⟨rfl, rfl⟩) ?_
  rintro obj s₁ ⟨rfl, rfl⟩
  exact ⟨⟨_, Heap.get?_push_size _ rfl, rfl⟩, h⟩
end
end Mine
end
section
open PySem PySem.W PyProof.Rows
namespace Mine
theorem fill_all : Challenge.rw_oy0082_01.name = Challenge.rw_oy0082_01.name ∧ hd.heap_39 = hd.heap_39 := by k_fill; exact ⟨rfl, rfl⟩
local macro_rules | `(tactic| omega) => `(tactic| lia)
local macro_rules | `(tactic| omega) => `(tactic| first | exact Nat.ne_of_lt (by assumption) | exact Nat.ne_of_gt (by assumption) | exact Nat.le_of_lt (by assumption) | exact Nat.lt_of_le_of_lt (Nat.le_add_right _ _) (by assumption) | decide)
theorem reset_S1 : True := by w_top off; trivial
theorem fill : Challenge.rw_oy0082_01.name = Challenge.rw_oy0082_01.name ∧ hd.heap_39 = hd.heap_39 := by k_fill; exact ⟨rfl, rfl⟩

def Keyed (news : List (Addr × Obj)) (key : Value → Int × Int) (vs : List Value) : Prop :=
  ∀ v ∈ vs, ∃ a t u n, v = .ref a ∧ (a, two (key v).1 (key v).2 t u n) ∈ news
def ltK (key : Value → Int × Int) (x y : Value) : Bool := lexLt (key x) (key y)

section
variable {prog : Program} {w : World} {A : Around} {E : Value → Shared → Prop} {s : Shared} {h₀ : Heap} {L : Addr} {m : Str → Option Value} {news rest : List (Addr × Obj)}
theorem subL {value slice : PySem.Expr} {l : Addr} {vs : List Value} {n : Nat} {k : Int} {u : Tok} {Q : Value → Shared → Prop} (N : News h₀ L s.heap news) (hm : (l, listOf vs.toArray n) ∈ news)
    (h0 : 0 ≤ k) (h1 : k < vs.length) (hfit : k < 2 ^ 63) (h : Q (vs.getD k.toNat default) s)
    (hs : subscripted slice false (.ref l) (.int k u) = operate [.ref l, .int k u] (getItem (.ref l) (.int k u)) := by with_unfolding_all rfl) :
    wpAny (model prog w) A (subscriptTail value slice (.ref l) (.int k u)) Q E s :=
  have hl : s.heap.IsList l vs.toArray := PySem.IsL.isList (n := n) (N _ hm).1
  tail_any hl.typeIs slot_list_getitem.lookup (wpAny_getItem_list hl h0 hfit (by
    have : k.toNat < vs.length := by omega
    simp [List.getD, this]) h) hs
theorem setL {l : Addr} {vs : List Value} {n : Nat} {k : Int} {u : Tok} {v : Value} {Q : Unit → Shared → Prop} (F : Fr h₀ L s.heap m) (N : News h₀ L s.heap ((l, listOf vs.toArray n) :: rest))
    (hne : ∀ p ∈ rest, p.1 ≠ l) (h0 : 0 ≤ k) (h1 : k < vs.length) (hfit : k < 2 ^ 63)
    (h : ∀ h', Fr h₀ L h' m → News h₀ L h' ((l, listOf (vs.set k.toNat v).toArray n) :: rest) → Q () { s with heap := h' }) :
    wpAny (model prog w) A (setItem (.ref l) (.int k u) v) Q E s := by
  have z := N (l, listOf vs.toArray n) (.head _)
  refine ki_setAt z.1 h0 hfit (by simpa using h1) (h _ (F.change (Heap.SameBut.update ..) z.2.1 z.2.2) (ki_turn (pre := []) _ N (by simp) hne ?_ ?_))
  · show vs.toArray.setIfInBounds k.toNat v = _
    apply Array.toList_inj.mp
    simp
  · simp
theorem ltL {key : Value → Int × Int} {vs : List Value} {x y : Value} {Q : Value → Shared → Prop} (N : News h₀ L s.heap news) (hk : Keyed news key vs) (hx : x ∈ vs) (hy : y ∈ vs) (hu : A.units + 16 < cLine)
    (h : Q (.bool (ltK key x y)) s) : wpAny (model prog w) A (compareOp .Lt x y) Q E s := by
  obtain ⟨a, t, u, n, e, ha⟩ := hk x hx
  obtain ⟨b, t', u', n', e', hb⟩ := hk y hy
  have : ltK key x y = lexLt ((key x).1, (key x).2) ((key y).1, (key y).2) := rfl
  rw [this] at h
  generalize (key x).1 = x0 at *
  generalize (key x).2 = x1 at *
  generalize (key y).1 = y0 at *
  generalize (key y).2 = y1 at *
  subst e e'
  exact lt_two (N _ ha).1 (N _ hb).1 hu h
theorem rsh1 {x : Int} {t u : Tok} {Q : Value → Shared → Prop} (hx : 0 ≤ x) (h : ∀ q : Nat, (q : Int) = x / 2 → Q (.int q s.toks) { s with toks := s.toks + 1 }) :
    wpAny (model prog w) A (binaryOp .RShift (.int x t) (.int 1 u)) Q E s := by
  refine rshift_int (by decide) ?_
  have e : x.fdiv (2 ^ Int.toNat 1) = ((x / 2).toNat : Int) := by
    show x.fdiv 2 = _
    rw [Int.fdiv_eq_ediv_of_nonneg _ (by decide)]
    omega
  rw [e]
  exact h _ (by omega)
theorem ws_go {J : Nat → (Str → Option Value) → List (Addr × Obj) → Prop} {Q : Flow → Shared → Prop} {n n' tk : Nat} {m₂ : Str → Option Value} {news₂ : List (Addr × Obj)} {f : Flow} {h' : Heap} (hf : f = .next ∨ f = .cont)
    (F : Fr h₀ L h' m₂) (N : News h₀ L h' news₂) (hn : n' < n) (hJ : J n' m₂ news₂) : WhileStep2 h₀ L s J Q n f { s with heap := h', toks := tk } := by
  rcases hf with rfl | rfl <;> exact ⟨h', tk, m₂, news₂, n', rfl, F, N, hn, hJ⟩
theorem ws_brk {J : Nat → (Str → Option Value) → List (Addr × Obj) → Prop} {Q : Flow → Shared → Prop} {n : Nat} {s₃ : Shared} (h : Q .next s₃) : WhileStep2 h₀ L s J Q n .brk s₃ := h
theorem Keyed.mono {key : Value → Int × Int} {vs vs' : List Value} {news' : List (Addr × Obj)} (hk : Keyed news key vs) (hv : ∀ v ∈ vs', v ∈ vs) (hn : ∀ p ∈ news, p ∈ news') : Keyed news' key vs' :=
  fun v h => let ⟨a, t, u, n, e, ha⟩ := hk v (hv v h); ⟨a, t, u, n, e, hn _ ha⟩
end
local macro_rules | `(tactic| walk_at "exec While Compare cons nil") => `(tactic| refine halt ?_)
local macro_rules | `(tactic| walk_at "subscriptTail") => `(tactic| (k_here; (with_reducible show wpAny _ _ (subscriptTail _ _ (Value.ref _) (Value.int _ _)) _ _ _); k_dflt (refine' subL ?k1 ?k2 ?k3 ?k4 ?k5 ?_ ?k6; (case k1 => k_asm); (case k2 => k_mem); (case k3 => omega); (case k4 => omega); (case k5 => omega); (case k6 => with_unfolding_all rfl); k_whole)))
local macro_rules | `(tactic| walk_at "setItem ref int") => `(tactic| (k_here; (with_reducible show wpAny _ _ (setItem (Value.ref _) (Value.int _ _) _) _ _ _); k_dflt (refine' setL ?k1 ?k2 ?k3 ?k4 ?k5 ?k6 ?_; (case k1 => k_asm); (case k2 => k_asm); (case k3 => k_asm); (case k4 => omega); (case k5 => omega); (case k6 => omega); k_whole); intro h' F' N'))
local macro_rules | `(tactic| walk_at "eval Name") => `(tactic| (k_here; k_dflt (refine' ld ?k1 ?k2 ?_; (case k1 => k_asm); (case k2 => assumption); k_whole); (try dsimp only)))

local macro_rules | `(tactic| walk_at "binaryOp RShift int int") => `(tactic| (k_here; refine rsh1 (by omega) ?_; intro q hq; (try dsimp only)))
local macro_rules | `(tactic| walk_at "compareOp Lt") => `(tactic| (k_here; k_dflt (refine' ltL ?k1 ?k2 ?k3 ?k4 ?k5 ?_; (case k1 => k_asm); (case k2 => refine Keyed.mono (by assumption) (fun _ h => h) (fun _ h => .tail _ h)); (case k3 => walk_at "mine mem"); (case k4 => walk_at "mine mem"); (case k5 => simp only [Around.deeper_units, Around.in1_units]; omega); k_whole)))
local macro_rules | `(tactic| walk_at "mine mem") => `(tactic| first | assumption | exact getD_mem (by omega) | (refine (by assumption : ∀ v ∈ _, v ∈ _) _ (getD_mem (by omega))))
section
variable {prog : Program} {w : World} {A A₀ : Around} {E : Value → Shared → Prop} {s : Shared} {L : Addr} {h₀ base : Heap} {m mg mb : Str → Option Value} {mean : ExcName → Option Value}
  {loose : List Str} {rest : List (Addr × Obj)} {env : Env} {outer : List Env} {Q : Value → Shared → Prop}

theorem siftdown_spec {l : Addr} {vs : List Value} {n : Nat} {key : Value → Int × Int} {start pos : Nat} {ts tp : Tok}
    (B : Below A₀ base outer h₀) (F : Fr h₀ L s.heap m) (X : (hd.heap_39 w.params).In h₀) (N : News h₀ L s.heap ((l, listOf vs.toArray n) :: rest)) (T : Top topProg loose mean mg mb h₀)
    (hA : A.frames = some (env :: outer)) (hf : env.frame = some L) (hke : env.scope.kind = .function) (hroom : A.depth < recursionLimit) (hunits : A.units + 100 < cLine)
    (hne : ∀ p ∈ rest, p.1 ≠ l) (hk : Keyed rest key vs) (hp : pos < vs.length) (hsz : vs.length < 1000)
    (h : ∀ h' tk, Fr h₀ L h' m → News h₀ L h' ((l, listOf (sd (ltK key) vs start pos (vs.getD pos default)).toArray n) :: rest) → Q .none { s with heap := h', toks := tk }) :
    wpAny (model prog w) A (call (.ref 133) [.ref l, .int start ts, .int pos tp]) Q E s := by
  refine wpAny_call ?_
  refine' code_def (binds := [("heap", .ref l), ("startpos", .int start ts), ("pos", .int pos tp)]) B F X N T hA hf hke ?k6 ?k7 hroom ?k9 ?kB ?_ ?c2 ?c3 ?c4 ?c5
  case k6 => k_dflt k_is
  case k7 => k_dflt k_is
  case k9 => k_dflt (exact BindsTo.of_eq rfl)
  case c5 => decide
  case kB => exact locs rfl
  case c2 => exact rfl
  case c3 => exact rfl
  case c4 => exact rfl
  k_whole; intro g' L' h' FG' F' N' B' X' T'; (try dsimp only); (try k_fold)
  k_steps
  unfold Halt
  rename_i h₁ F₁ N₁
  refine While_inv2 (fun k m₁ news₁ => ∃ (p : Nat) (vs' : List Value) (t1 t2 : Tok), k = p ∧ p < vs.length ∧ vs'.length = vs.length ∧ (∀ v ∈ vs', v ∈ vs) ∧ news₁ = (l, listOf vs'.toArray n) :: rest ∧
    m₁ "heap" = some (.ref l) ∧ m₁ "startpos" = some (.int start t1) ∧ m₁ "pos" = some (.int p t2) ∧ m₁ "newitem" = some (vs.getD pos default) ∧
    sd (ltK key) vs' start p (vs.getD pos default) = sd (ltK key) vs start pos (vs.getD pos default)) F₁ N₁ ⟨pos, vs, ts, tp, rfl, hp, rfl, fun _ h => h, rfl, rfl, rfl, rfl, rfl, rfl⟩ ?_
  rintro k m₁ news₁ h₂ tk₂ F₂ N₂ ⟨p, vs', t1, t2, rfl, hp', hl', hmem, rfl, e1, e2, e3, e4, e5⟩
  clear F₁ N₁ N F
  (try dsimp only); k_fold
  k_steps
  · rename_i hlt q hq _ _ _ _ hc _ _ F3 N3
    have hq' : q = (k - 1) / 2 := by omega
    refine ws_go (.inr rfl) F3 N3 (n' := q) (by omega) ⟨q, _, t1, _, rfl, by omega, by rw [List.length_set]; exact hl', ?_, rfl, e1, e2, rfl, e4, ?_⟩
    · intro v hv
      rcases mem_set' hv with hv | rfl
      · exact hmem v hv
      · exact hmem _ (getD_mem (by omega))
    · rw [Int.toNat_natCast, hq'] at hc
      rw [← e5, Int.toNat_natCast, Int.toNat_natCast, hq', sd.eq_1 (ltK key) vs' start k, dif_pos (by omega), if_pos hc]
  · rename_i hlt q hq _ _ _ F3 N3 hc
    have hq' : q = (k - 1) / 2 := by omega
    have e6 : vs'.set k (vs.getD pos default) = sd (ltK key) vs start pos (vs.getD pos default) := by
      rw [← e5, sd, dif_pos (by omega), if_neg (by rw [Int.toNat_natCast, hq'] at hc; rw [hc]; decide)]
    refine ws_brk ?_
    (try dsimp only)
    k_steps
    rename_i kF kN _ _
    refine h _ _ kF ?_
    rw [← e6]
    exact kN
  · rename_i hlt _ _ _ kF kN _ _
    have e6 : vs'.set k (vs.getD pos default) = sd (ltK key) vs start pos (vs.getD pos default) := by
      rw [← e5, sd, dif_neg (by omega)]
    refine h _ _ kF ?_
    rw [← e6]
    exact kN
end

local macro_rules | `(tactic| walk_at "storeName") => `(tactic| (k_here; dsimp only; k_dflt (refine' stN ?F ?N ?_ ?a ?b; (case F => k_asm); (case N => k_asm); (case a => rfl); (case b => rfl); k_whole; intro h' F' N'; (try k_sweep))))
local macro_rules | `(tactic| walk_at "my sub") => `(tactic| first | exact List.forall_mem_nil _ | (refine List.forall_mem_cons.mpr ⟨by k_mem, ?_⟩; walk_at "my sub") | (intro p hp; repeat (first | exact hp | refine List.Mem.tail _ ?_)))
theorem reset_A1 : True := by w_top off; trivial
section
abbrev accO (dx : Addr) (items : Array Value) (n : Nat) : Obj := { cls := .ref 101, dict := some dx, data := .seq items n }
theorem canon_list_ga : (Manifest.canonical "list.__getattribute__" != "object.__getattribute__") = false := by decide +kernel
section
variable {prog : Program} {w : World} {A : Around} {E : Value → Shared → Prop} {s : Shared} {h₀ : Heap} {L : Addr} {m : Str → Option Value} {news rest : List (Addr × Obj)}
  {x dx : Addr} {items : Array Value} {n k : Nat} {es : List DictEntry}
theorem acc_inst (N : News h₀ L s.heap news) (hx : (x, accO dx items n) ∈ news) (hdx : (dx, dictOf es k) ∈ news) : InstAt s.heap x (accO dx items n) 101 (some (dictOf es k)) :=
  ⟨(N _ hx).1, rfl, rfl, (N _ hdx).1⟩
theorem acc_method {name : Str} {pl : Sem Bool} {f : Value} {Q : Value × List Value → Shared → Prop} (X : (hd.heap_39 w.params).In h₀) (F : Fr h₀ L s.heap m) (N : News h₀ L s.heap news) (hx : (x, accO dx items n) ∈ news) (hdx : (dx, dictOf es k) ∈ news)
    (hf : findIn (hd.heap_39 w.params) (.ref 101) name = some (some f)) (ht : typeIn (hd.heap_39 w.params) f = some (.type "function") ∨ typeIn (hd.heap_39 w.params) f = some (.type "method_descriptor"))
    (hl : getL name es = some none) (h : Q (f, [.ref x]) s) : wpAny (model prog w) A (getMethod (.ref x) name pl) Q E s := by
  have X' := X.keeps F.keep
  have I := acc_inst N hx hdx
  have hga : findIn (hd.heap_39 w.params) (.ref 101) "__getattribute__" = some (some (.builtin "list.__getattribute__")) := by k_dflt k_is
  have hk : findIn (hd.heap_39 w.params) (.ref 101) "__getattr__" = some none := by k_dflt k_is
  unfold getMethod specialOf
  refine wpAny_bind (wpAny_bind (I.type.here ((looks_findIn X' hga).here ?_)))
  dsimp only
  rw [canon_list_ga, if_neg (by decide)]
  refine wpAny_bind (wpAny_bind (I.type.here ((looks_findIn X' hk).here ?_)))
  refine wpAny_bind (wpAny_bind (I.type.here ((looks_findIn X' hf).here ?_)))
  have fin : wpAny (model prog w) A (do
      if let some d := (← loadPart x (some headPart)).dict then
        if (← nsGet d name).isSome then return ← (do return (← getAttr (.ref x) name, []))
      rule "call.method-form"
      return (f, [.ref x])) Q E s := by
    refine wpAny_bind (wpAny_loadPart I.at_ ?_)
    refine wpAny_bind (wpAny_bind (wpAny_loadPart (N _ hdx).1 ?_))
    have hl' : lookIn name (dictOf es k) = some none := hl
    rw [nsLook_of hl']
    exact wpAny_pure (wpAny_bind (wpAny_rule (wpAny_pure h)))
  rcases ht with ht | ht
  · refine wpAny_bind ((looks_typeIn X' ht).here ?_)
    rw [if_neg (by decide +kernel)]
    exact fin
  · refine wpAny_bind ((looks_typeIn X' ht).here ?_)
    rw [if_neg (by decide +kernel)]
    exact fin
end
end
theorem reset_A2 : True := by w_top off; trivial
section
theorem lga_kind : builtinKind "list.__getattribute__" = some .slot := by decide +kernel
theorem lga_split : splitId "list.__getattribute__" = some ("list", "__getattribute__") := by decide +kernel
section
variable {prog : Program} {w : World} {A : Around} {E : Value → Shared → Prop} {s : Shared} {h₀ : Heap} {L : Addr} {m : Str → Option Value} {news rest : List (Addr × Obj)}
  {x dx : Addr} {items : Array Value} {n k : Nat} {es : List DictEntry}
theorem acc_get {name : Str} {expr : Bool} {v : Value} {Q : Value → Shared → Prop} (X : (hd.heap_39 w.params).In h₀) (FF : Fr h₀ L s.heap m) (N : News h₀ L s.heap news) (hx : (x, accO dx items n) ∈ news) (hdx : (dx, dictOf es k) ∈ news)
    (ha : findIn (hd.heap_39 w.params) (.ref 101) name = some none) (hl : getL name es = some (some v)) (hv : handedIn v = true)
    (h : Q v { s with toks := s.toks + 1 }) : wpAny (model prog w) A (getAttr (.ref x) name expr) Q E s := by
  have X' := X.keeps FF.keep
  have I := acc_inst N hx hdx
  have hga : findIn (hd.heap_39 w.params) (.ref 101) "__getattribute__" = some (some (.builtin "list.__getattribute__")) := by k_dflt k_is
  have hk : findIn (hd.heap_39 w.params) (.ref 101) "__getattr__" = some none := by k_dflt k_is
  have hdi : hasDictIn (hd.heap_39 w.params) 101 = true := by k_dflt k_is
  have hsub : instIn (hd.heap_39 w.params) (.ref 101) (.type "type") = some true := by k_dflt k_is
  have hli : subIn (hd.heap_39 w.params) (.ref 101) (.type "list") = some true := by k_dflt k_is
  have hfo : findObj (hd.heap_39 w.params) 101 (some (dictOf es k)) name = some (.value v) := findObj_own hdi ha rfl hl
  obtain ⟨hh, g, d, t, os⟩ := s
  have L0 := I.type (M := model prog w)
  have L1 := looks_findIn (M := model prog w) X' hga
  have L2 := looks_findIn (M := model prog w) X' hk
  have L3 := looks_find (M := model prog w) X' I hfo
  have L4 : Looks (model prog w) hh (isInstance (.ref x) (.type "list")) true := L0.andThen (looks_subIn X' hli)
  unfold getAttr getAttrBy
  refine wpAny_bind (wpAny_mkText (wpAny_holding (wpAny_bind (L0.at (wpAny_bind (L1.at ?_))))))
  show wpAny _ _ (getAttrByItsOwn _ _ _ _ _ _) _ _ _
  unfold getAttrByItsOwn
  refine wpAny_bind (show wpAny _ _ (typeLookup (.ref 101) "__getattr__") _ _ _ from L2.at ?_)
  refine wpAny_bind (wpAny_attempt (wpAny_holding ?_))
  have hcg : callGetattribute (.ref x) (.str name t) (.builtin "list.__getattribute__") expr = boundAndCalled (.builtin "list.__getattribute__") (.ref x) (.str name t) := by
    unfold callGetattribute; cases expr <;> rfl
  rw [hcg]
  unfold boundAndCalled
  refine wpAny_bind (wpAny_of_eq (F.slot_list_getattribute.bind _) ?_)
  refine wpAny_call (codeAny_call_builtin F.slot_list_getattribute.plain F.entry_list_ga (@check_slot (model prog w) _ _ _ "list.__getattribute__" "list" "__getattribute__" (.ref x) [.str name t] [] _ lga_kind lga_split L4 (F.args_list_getattribute_2 _ _) ?_))
  unfold Builtin.«object.__getattribute__»
  refine wpAny_bind (wpAny_of_eq (a := (Value.ref x, [Value.str name t])) rfl ?_)
  refine wpAny_bind (wpAny_of_eq (a := name) rfl ?_)
  refine wpAny_bind (L0.at (wpAny_bind (L3.at ?_)))
  refine wpAny_pure ?_
  show wpAny _ _ (handedOut v) _ _ _
  rw [handedOut_of hv]
  exact wpAny_pure h
end
end
theorem reset_A3 : True := by w_top off; trivial
section
set_option maxRecDepth 100000
section
variable {prog : Program} {w : World} {A : Around} {E : Value → Shared → Prop} {h : Heap}
theorem lk_check_new (X : (hd.heap_39 w.params).In h) (a : Value) : Looks (model prog w) h (checkBuiltinCall "list.__new__" ⟨[.ref 101, a], []⟩) () := Looks.of_peek X (by kernel_rfl)
theorem lk_isType (X : (hd.heap_39 w.params).In h) : Looks (model prog w) h (isType (.ref 101)) true := Looks.of_peek X (by kernel_rfl)
theorem lk_subList (X : (hd.heap_39 w.params).In h) : Looks (model prog w) h (isSubtype (.ref 101) (.type "list")) true := Looks.of_peek X (by kernel_rfl)
theorem lk_subSelf (X : (hd.heap_39 w.params).In h) : Looks (model prog w) h (isSubtype (.ref 101) (.ref 101)) true := Looks.of_peek X (by kernel_rfl)
theorem lk_hasDel (X : (hd.heap_39 w.params).In h) : Looks (model prog w) h (classHasDel 101) false := Looks.of_peek X (by kernel_rfl)
theorem lk_made (X : (hd.heap_39 w.params).In h) : Looks (model prog w) h (Bind.madeBy (.ref 101)) (some "list.__new__") := Looks.of_peek X (by kernel_rfl)
theorem lk_call (X : (hd.heap_39 w.params).In h) : Looks (model prog w) h (specialOf (.ref 101) "__call__") (some (.builtin "type.__call__")) := Looks.of_peek X (by kernel_rfl)
theorem lk_typ (X : (hd.heap_39 w.params).In h) : Looks (model prog w) h (isInstance (.ref 101) (.type "type")) true := Looks.of_peek X (by kernel_rfl)
theorem lk_init (X : (hd.heap_39 w.params).In h) : Looks (model prog w) h (typeLookup (.ref 101) "__init__") (some (.ref 38)) := Looks.of_peek X (by kernel_rfl)
theorem lk_bindInit (X : (hd.heap_39 w.params).In h) (x : Addr) : Looks (model prog w) h (bindSpecial (.ref 38) (.ref x)) (.ref 38, [.ref x]) := Looks.of_peek X (by kernel_rfl)
end
section
variable {prog : Program} {w : World} {A : Around} {R : Result → Shared → Prop} {h : Heap} {g : Array GenState} {d : Drawn} {t : Nat} {os : OsState}
theorem acc_new {a : Value} (X : (hd.heap_39 w.params).In h)
    (hq : R (.ok (.ret (.ref (h.objs.size + 1)))) ⟨(h.push emptyDict).push (accO h.objs.size #[] 0), g, d, t, os⟩) :
    codeAny (model prog w) A (.call (.builtin "list.__new__") ⟨[.ref 101, a], []⟩) R ⟨h, g, d, t, os⟩ := by
  refine codeAny_of_tree ?_
  show wpAny _ A.in1 (do checkBuiltinCall "list.__new__" ⟨[.ref 101, a], []⟩; again (.builtin "list.__new__" ⟨[.ref 101, a], []⟩)) _ _ _
  refine wpAny_bind ((lk_check_new X a).at (wpAny_pure ⟨plainId_quiet F.plain_list_new _, codeAny_builtin_stack F.entry_list_new rfl fun p st => ?_⟩))
  rw [Around.under_plainId F.plain_list_new _]
  have hown := owner_list_new
  simp only [hown]
  refine wpAny_bind ((lk_isType X).at ?_)
  rw [if_neg (by decide)]
  refine wpAny_bind ((lk_subList X).at ?_)
  rw [if_neg (by decide)]
  refine wpAny_bind (wpAny_pure ?_)
  rw [if_neg (by decide)]
  refine wpAny_bind (wpAny_newObj_type ?_)
  show wpAny _ _ (newObj (.ref 101) (.seq #[]) (some h.objs.size) >>= ret) _ _ _
  unfold newObj
  have X' : (hd.heap_39 w.params).In ((h.push emptyDict).push (accO h.objs.size #[] 0)) := X.keeps fun b o e => Heap.get?_push_of_some _ (Heap.get?_push_of_some _ e)
  refine wpAny_bind ?_
  show wpAny _ _ (newObjAsIs _ _ _) _ _ _
  unfold newObjAsIs
  refine wpAny_bind (wpAny_alloc ?_)
  refine wpAny_bind ((lk_hasDel X').at ?_)
  refine wpAny_pure (wpAny_pure ?_)
  show R _ _
  rw [Heap.size_push]
  exact hq
end
section
variable {prog : Program} {w : World} {A : Around} {R : Result → Shared → Prop} {h : Heap} {g : Array GenState} {d : Drawn} {t : Nat} {os : OsState}
theorem acc_make0 {a : Value} (X : (hd.heap_39 w.params).In h)
    (hq : codeAny (model prog w) (A.under (.builtin "type.__call__" ⟨[.ref 101, a], []⟩)) (.call (.ref 38) ⟨[.ref (h.objs.size + 1), a], []⟩) (InitBack (h.objs.size + 1) R) ⟨(h.push emptyDict).push (accO h.objs.size #[] 0), g, d, t, os⟩) :
    codeAny (model prog w) A (.call (.ref 101) ⟨[a], []⟩) R ⟨h, g, d, t, os⟩ := by
  have hC : ∃ oc od cd sl, h.get? 101 = some ⟨oc, od, .cls cd, sl⟩ ∧ cd.mro.isEmpty = false := by
    have e : (clsIn (hd.heap_39 w.params) 101).any (fun cd => !cd.mro.isEmpty) = true := by kernel_rfl
    obtain ⟨cd, e1, e2⟩ := any_some e
    unfold clsIn at e1
    split at e1
    · rename_i ho; cases e1; exact ⟨_, _, _, _, X _ _ ho, by simpa using e2⟩
    · cases e1
  obtain ⟨oc, od, cd, sl, hC, e4⟩ := hC
  refine codeAny_of_tree ?_
  show wpAny _ _ (callAny (.ref 101) _) _ _ _
  refine nd_load hC ?_
  show wpAny _ _ (callAny.viaDunder (.ref 101) _) _ _ _
  unfold callAny.viaDunder
  refine wpAny_bind ((lk_call X).at ?_)
  dsimp only
  rw [tc_bind]
  refine wpAny_bind (wpAny_pure (wpAny_bind (wpAny_pure ?_)))
  refine wpAny_pure (a := Fin.again (.call (.builtin "type.__call__") ⟨.ref 101 :: [a], []⟩)) (And.intro rfl ?_)
  refine codeAny_call_builtin_at (Code.quiet_builtin _ (by decide +kernel)) entry_typeCall (check_slot tc_kind tc_split (lk_typ X) (tc_args _ _ _) ?_)
  unfold Builtin.«type.__call__»
  have hm : Looks (model prog w) h (mroOf (.ref 101)) cd.mro := ((Looks.ld (part := none) hC).andThen .now).andThen .now
  have hmade := lk_made (prog := prog) X
  repeat (first | simp only [e4, Bool.false_eq_true, if_false] | with_reducible refine wpAny_call ?_ | lk)
  refine acc_new X ?_
  have k : ∀ b o, h.get? b = some o → ((h.push emptyDict).push (accO h.objs.size #[] 0)).get? b = some o := fun b o e => Heap.get?_push_of_some _ (Heap.get?_push_of_some _ e)
  have hx : ((h.push emptyDict).push (accO h.objs.size #[] 0)).get? (h.objs.size + 1) = some (accO h.objs.size #[] 0) := by heap_get
  have t1 : Looks (model prog w) ((h.push emptyDict).push (accO h.objs.size #[] 0)) (typeOf (.ref (h.objs.size + 1))) (.ref 101) := (Looks.ld hx).andThen .now
  have s1 := (lk_subSelf (prog := prog) X).keeps k
  have i1 := (lk_init (prog := prog) X).keeps k
  have b1 := (lk_bindInit (prog := prog) X (h.objs.size + 1)).keeps k
  unfold isInstance callSpecial? specialOf
  repeat (first | with_reducible refine wpAny_call ?_ | lk)
  refine codeAny_mono hq fun r s' z => ?_
  rcases r with e | (v | _ | _ | _) <;> first | exact z | exact z.elim | skip
  obtain ⟨rfl, z⟩ := z
  exact wpAny_pure (wpAny_pure z)
end
end
theorem reset_A4 : True := by w_top off; trivial
section
set_option maxRecDepth 100000
abbrev wrapO (id : String) (x : Addr) : Obj := { cls := .type "method-wrapper", dict := none, data := .fields #[.builtin id, .ref x], slots := #[] }
theorem slot_wd_get : Slot "wrapper_descriptor" "__get__" "wrapper_descriptor.__get__" := .of (owner := "wrapper_descriptor") (n := "__get__") (by rw [typeLookup_type, builtinLookup_eq_fast]; kernel_rfl) (by decide +kernel) (by decide +kernel) (by decide +kernel)
  (by first | exact .inl (by decide +kernel) | exact .inr (by decide +kernel)) (by rw [isSubtype_type]; kernel_rfl)
theorem entry_wd_get : entryFor table "wrapper_descriptor.__get__" = some Builtin.«wrapper_descriptor.__get__» := entryFor_of_tree (by kernel_rfl)
theorem args_wd_get (a b c : Value) : argsOk "wrapper_descriptor.__get__" ⟨[a, b, c], []⟩ := by unfold argsOk; kernel_rfl
section
variable {prog : Program} {w : World} {A : Around} {E : Value → Shared → Prop} {h : Heap} {g : Array GenState} {d : Drawn} {t : Nat} {os : OsState}
theorem own_init : ".".intercalate ("list.__init__".cutAt '.').dropLast = "list" := by decide +kernel
theorem own_len : ".".intercalate ("list.__len__".cutAt '.').dropLast = "list" := by decide +kernel
theorem wd_get {id : String} (hid : ".".intercalate (id.cutAt '.').dropLast = "list") {x dx : Addr} {items : Array Value} {n : Nat} {Q : Fin → Shared → Prop} (X : (hd.heap_39 w.params).In h) (hx : h.get? x = some (accO dx items n))
    (hq : Q (.done (.ret (.ref h.objs.size))) ⟨h.push (wrapO id x), g, d, t, os⟩) : wpAny (model prog w) A (Builtin.«wrapper_descriptor.__get__» ⟨[.builtin id, .ref x, .ref 101], []⟩) Q E ⟨h, g, d, t, os⟩ := by
  unfold Builtin.«wrapper_descriptor.__get__»
  have hs := lk_subList (prog := prog) X
  rw [← hid] at hs
  repeat (first | (with_reducible refine Looks.at hs ?_) | (with_reducible refine wpAny_loadPart_at hx ?_) | (with_reducible refine wpAny_newObj_type ?_ (by size_fits)) | wp_step | dsimp only)
  all_goals exact hq
theorem lk_opaque (X : (hd.heap_39 w.params).In h) : Looks (model prog w) h (opaqueClassAbove (.ref 101)) none := Looks.of_peek X (by kernel_rfl)
theorem lk_mro (X : (hd.heap_39 w.params).In h) : Looks (model prog w) h (mroOf (.ref 101)) [.ref 101, .type "list", .type "object"] := Looks.of_peek X (by kernel_rfl)
theorem super_ga {id : String} {name : Str} (hid : ".".intercalate (id.cutAt '.').dropLast = "list") (hown : fastBuiltinOwn "list" name = some (.builtin id)) (htyp : ∀ s : Shared, s.TypeIs (.builtin id) "wrapper_descriptor") (hn : (name == ("__class__" : Str)) = false)
    {so x dx : Addr} {items : Array Value} {n : Nat} {tk : Tok} {Q : Fin → Shared → Prop} (X : (hd.heap_39 w.params).In h) (hx : h.get? x = some (accO dx items n)) (hso : h.get? so = some (ks_superObj 101 x 101)) (hxC : x ≠ 101)
    (hq : Q (.done (.ret (.ref h.objs.size))) ⟨h.push (wrapO id x), g, d, t, os⟩) :
    wpAny (model prog w) A (Builtin.«super.__getattribute__» ⟨[.ref so, .str name tk], []⟩) Q E ⟨h, g, d, t, os⟩ := by
  have hne : (Value.ref x == Value.ref 101) = false := by simp [hxC]
  have hdt : (ks_superObj 101 x 101).data = .fields #[.ref 101, .ref x, .ref 101] := rfl
  have f0 : (#[.ref 101, .ref x, .ref 101] : Array Value)[0]? = some (.ref 101) := rfl
  have f1 : (#[.ref 101, .ref x, .ref 101] : Array Value)[1]? = some (.ref x) := rfl
  have f2 : (#[.ref 101, .ref x, .ref 101] : Array Value)[2]? = some (.ref 101) := rfl
  have hal : alongIn (hd.heap_39 w.params) name [.type "list", .type "object"] = some (some (.builtin id)) := by simp only [alongIn, ownIn, hown]
  have hlk := slot_wd_get.lookup
  unfold Builtin.«super.__getattribute__»
  repeat (first
    | (with_reducible refine wpAny_field hso hdt f0 ?_) | (with_reducible refine wpAny_field hso hdt f1 ?_) | (with_reducible refine wpAny_field hso hdt f2 ?_)
    | (with_reducible refine ks_wpAny_notOpaque (lk_opaque X) ?_)
    | (with_reducible refine Looks.at (lk_mro X) ?_)
    | (refine ks_forIn_along X (fun _ _ => rfl) rfl ?_ hal)
    | (with_reducible refine wpAny_typeOf (htyp _) ?_)
    | (with_reducible refine wpAny_call_entry slot_wd_get (htyp _) entry_wd_get ?_ (args_wd_get _ _ _))
    | (with_reducible refine wd_get hid X hx ?_)
    | (with_reducible refine ⟨_, rfl, ?_⟩)
    | (simp only [hn, hne, Bool.or_false, Bool.false_eq_true, if_false])
    | wp_step
    | dsimp only)
  all_goals exact hq
end
end
theorem reset_A5 : True := by w_top off; trivial
section
set_option maxRecDepth 100000
section
variable {prog : Program} {w : World} {A : Around} {E : Value → Shared → Prop} {s : Shared} {h₀ : Heap} {L : Addr} {m : Str → Option Value} {news : List (Addr × Obj)}
theorem super_method {id : String} {name : Str} (hid : ".".intercalate (id.cutAt '.').dropLast = "list") (hown : fastBuiltinOwn "list" name = some (.builtin id)) (htyp : ∀ s : Shared, s.TypeIs (.builtin id) "wrapper_descriptor") (hn : (name == ("__class__" : Str)) = false)
    {so x dx : Addr} {items : Array Value} {n : Nat} {pl : Sem Bool} {Q : Value × List Value → Shared → Prop} (FF : Fr h₀ L s.heap m) (X₀ : (hd.heap_39 w.params).In h₀) (N : News h₀ L s.heap news) (hxn : (x, accO dx items n) ∈ news) (hson : (so, ks_superObj 101 x 101) ∈ news)
    (hq : ∀ q h', Fr h₀ L h' m → News h₀ L h' ((q, wrapO id x) :: news) → (∀ p ∈ news, p.1 < q) → Q (.ref q, []) { s with heap := h', toks := s.toks + 1 }) :
    wpAny (model prog w) A (getMethod (.ref so) name pl) Q E s := by
  have X := X₀.keeps FF.keep
  have hx := (N _ hxn).1
  have hso := (N _ hson).1
  have hxC : x ≠ 101 := by
    rintro rfl
    have e := (N _ hxn).2.2
    have hc : clsIn (hd.heap_39 w.params) 101 ≠ none := by
      have e : (clsIn (hd.heap_39 w.params) 101).isSome = true := by kernel_rfl
      intro z; rw [z] at e; cases e
    unfold clsIn at hc
    split at hc
    · rename_i ho
      have := X₀ _ _ ho
      dsimp only at e
      rw [e] at this; cases this
    · exact hc rfl
  obtain ⟨hh, g, d, t, os⟩ := s
  have hlk := F.ks_slot_super_ga.lookup
  have hcan := F.ks_canon_super_ga
  have hT : ∀ t', (⟨hh, g, d, t', os⟩ : Shared).TypeIs (.ref so) "super" := fun _ => ⟨_, hso, rfl⟩
  unfold getMethod
  refine wpAny_bind (wpAny_specialOf (hT _) hlk ?_)
  show wpAny _ _ (if (Manifest.canonical "super.__getattribute__" != "object.__getattribute__") = true then _ else _) _ _ _
  rw [if_pos hcan]
  unfold getAttr getAttrBy
  refine wpAny_bind (wpAny_bind (wpAny_mkText (wpAny_holding (wpAny_bind (wpAny_typeOf (hT _) (wpAny_bind (wpAny_of_eq hlk ?_)))))))
  show wpAny _ _ (getAttrByItsOwn (.ref so) (.str name t) (.type "super") (.builtin "super.__getattribute__") true false) _ _ _
  unfold getAttrByItsOwn hookBefore callGetattribute boundAndCalled
  refine wpAny_bind (wpAny_of_eq (show (if onTheHeap (.type "super") then typeLookup (.type "super") "__getattr__" else pure none) = pure none from rfl) ?_)
  refine wpAny_bind (wpAny_attempt (wpAny_holding ?_))
  show wpAny _ _ (bindSpecial (.builtin "super.__getattribute__") (.ref so) >>= _) _ _ _
  refine wpAny_bind (wpAny_of_eq (F.ks_slot_super_ga.bind _) ?_)
  refine wpAny_mono (Q := fun v s' => v = .ref hh.objs.size ∧ s' = ⟨hh.push (wrapO id x), g, d, t + 1, os⟩) (E := fun _ _ => False)
    (wpAny_call_entry F.ks_slot_super_ga (hT _) F.ks_entry_super_ga (super_ga hid hown htyp hn X hx hso hxC ⟨_, rfl, rfl, rfl⟩) (F.ks_gaArgs_super _ _)) (fun v s' hv => ?_) fun _ _ z => z.elim
  obtain ⟨rfl, rfl⟩ := hv
  refine wpAny_pure (wpAny_pure ?_)
  obtain ⟨F', N', l'⟩ := ks_newsPush (s := ⟨hh, g, d, t, os⟩) (o := wrapO id x) FF N rfl (Heap.get?_push_at rfl rfl) (fun b o e => Heap.get?_push_of_some _ e)
  exact hq _ _ F' N' l'
theorem super_callWith {id : String} {x q : Addr} {pos : Pos} {env : Env} {Q : Value → Shared → Prop} (hq : s.heap.get? q = some (wrapO id x)) (h : wpAny (model prog w) A (call (.ref q) []) Q E s) :
    wpAny (model prog w) A (callWith pos (.ref q) [] (backTo pos (starEach [] env)) []) Q E s :=
  callWith_of (P := fun h => h.get? q = some (wrapO id x)) rfl (fun h e => ⟨.machine, .inr (.inl rfl), (Looks.ld (part := none) e).andThen .now⟩) (evalArgs_nil3 ⟨hq, h⟩)
theorem super_call {id : String} {x q : Addr} {B : Builtin} {Q : Value → Shared → Prop} (hq : s.heap.get? q = some (wrapO id x)) (hc : checkBoundCall id ⟨[.ref x], []⟩ = pure ()) (hp : plainId id = true) (entry : entryFor table id = some B)
    (h : wpAny (model prog w) A.in1 (B ⟨[.ref x], []⟩) (fun fin s' => match fin with | .done f => wants Q E (.ok f) s' | .again c' => c'.quiet = true ∧ codeAny (model prog w) A c' (wants Q E) s') (fun e s' => wants Q E (.error e) s') s) :
    wpAny (model prog w) A (call (.ref q) []) Q E s := by
  refine wpAny_call (codeAny_of_tree ?_)
  show wpAny _ A.in1 (callAny (.ref q) _) _ _ _
  unfold callAny
  refine wpAny_bind (wpAny_load hq ?_)
  show wpAny _ A.in1 (checkBoundCall id ⟨[.ref x], []⟩ >>= fun _ => again (.builtin id ⟨[.ref x], []⟩)) _ _ _
  rw [hc]
  refine wpAny_bind (wpAny_pure (wpAny_pure ⟨plainId_quiet hp _, codeAny_builtin entry ?_⟩))
  rw [Around.under_plainId hp _]
  exact h
theorem bound_init (x : Addr) : checkBoundCall "list.__init__" ⟨[.ref x], []⟩ = pure () := by kernel_rfl
theorem bound_len (x : Addr) : checkBoundCall "list.__len__" ⟨[.ref x], []⟩ = pure () := by kernel_rfl
end
end
theorem reset_A6 : True := by w_top off; trivial
section
set_option maxRecDepth 100000
theorem refuse_acc (x : Addr) : Builtin.ObjectAttr.refuseIfOverridden (.ref x) "__setattr__" = typeOf (.ref x) >>= fun tp => mroOf tp >>= fun l => refuseLoop (.ref x) "__setattr__" l := refuse_eq _ _
theorem refuse_loop_acc (x : Addr) : refuseLoop (.ref x) "__setattr__" [.ref 101, .type "list", .type "object"] = pure () := by kernel_rfl
section
variable {prog : Program} {w : World} {A : Around} {E : Value → Shared → Prop} {s : Shared} {h₀ h : Heap} {L : Addr} {m : Str → Option Value} {news : List (Addr × Obj)}
theorem lk_setattr (X : (hd.heap_39 w.params).In h) : Looks (model prog w) h (typeLookup (.ref 101) "__setattr__") (some (.builtin "object.__setattr__")) := Looks.of_peek X (by kernel_rfl)
theorem lk_noSize (X : (hd.heap_39 w.params).In h) : Looks (model prog w) h (typeLookup (.ref 101) "_initial_size") none := Looks.of_peek X (by kernel_rfl)
theorem lk_subObj (X : (hd.heap_39 w.params).In h) : Looks (model prog w) h (isSubtype (.ref 101) (.type "object")) true := Looks.of_peek X (by kernel_rfl)
abbrev sizeE (w : World) (tk : Tok) (v : Value) : DictEntry := ⟨PyData.keyHash w.params "_initial_size", .str "_initial_size" tk, v⟩
theorem acc_osa {R : Result → Shared → Prop} {x dx : Addr} {items : Array Value} {n : Nat} {tk : Tok} {v : Value} {pre post : List (Addr × Obj)} (FF : Fr h₀ L s.heap m) (X₀ : (hd.heap_39 w.params).In h₀)
    (N : News h₀ L s.heap (pre ++ (dx, dictOf [] 0) :: post)) (hx : s.heap.get? x = some (accO dx items n)) (h1 : ∀ p ∈ pre, p.1 ≠ dx) (h2 : ∀ p ∈ post, p.1 ≠ dx)
    (h : ∀ h', Fr h₀ L h' m → News h₀ L h' (pre ++ (dx, dictOf [sizeE w s.toks v] 1) :: post) → R (.ok (.ret .none)) { s with heap := h', toks := s.toks + 1 }) :
    codeAny (model prog w) A (.call (.builtin "object.__setattr__") ⟨[.ref x, .str "_initial_size" tk, v], []⟩) R s := by
  have SF := PySem.F.store_object
  have X : (hd.heap_39 w.params).In s.heap := X₀.keeps FF.keep
  have T : Looks (model prog w) s.heap (typeOf (.ref x)) (.ref 101) := (Looks.ld hx).andThen .now
  have sub : Looks (model prog w) s.heap (isInstance (.ref x) (.type "object")) true := T.andThen (lk_subObj X)
  have hcd : ∃ cd, clsIn (hd.heap_39 w.params) 101 = some cd ∧ cd.hasDict = true := by
    have e : (clsIn (hd.heap_39 w.params) 101).any (·.hasDict) = true := by kernel_rfl
    exact any_some e
  obtain ⟨cd, hc, hd'⟩ := hcd
  refine codeAny_call_builtin SF.slot.plain SF.entry (@check_slot (model prog w) _ _ s "object.__setattr__" "object" "__setattr__" (.ref x) [.str "_initial_size" tk, v] [] _ SF.kind SF.split sub (SF.args (.ref x) (.str "_initial_size" tk) v) ?_)
  rw [osa_eq, refuse_acc]
  refine wpAny_bind (wpAny_bind (T.here (wpAny_bind ((lk_mro X).here ?_))))
  rw [refuse_loop_acc]
  refine wpAny_pure (wpAny_bind (T.here (wpAny_bind ((lk_noSize X).here (wpAny_bind (Looks.now.here ?_))))))
  obtain ⟨U1, U2⟩ := news_upd (f := Obj.putName "_initial_size" (PyData.keyHash w.params "_initial_size") (.str "_initial_size" s.toks) v) FF N h1 h2
    (putName_dict "_initial_size" (PyData.keyHash w.params "_initial_size") (.str "_initial_size" s.toks) v [] 0) rfl
  have D := (N (dx, dictOf [] 0) (by simp)).1
  have D' := (U2 _ (List.mem_append.mpr (.inr (.head _)))).1
  refine wpAny_bind (wpAny_pure (wpAny_bind (wpAny_bind (wpAny_loadPart hx (wpAny_bind ((looks_clsIn X hc).here ?_))))))
  rw [hd']
  refine wpAny_pure (a := some dx) (wpAny_bind (wpAny_pure (wpAny_bind ?_)))
  unfold nsSet
  refine wpAny_bind (wpAny_bind (wpAny_askSetting (wpAny_pure (wpAny_bind (wpAny_mkText (wpAny_bind (wpAny_loadPart D ?_)))))))
  dsimp only
  rw [aRefKeyMayBeTheName_at, show (!([] : List DictEntry).toArray.any (·.key.isStr "_initial_size") && ([] : List DictEntry).toArray.any (·.refKey)) = false by simp]
  refine wpAny_updatePart D ?_
  refine wpAny_bind (wpAny_lookBehind D' (by exact pastItsLine_dict (by rw [List.size_toArray, sizeLine_eq]; simp [putL])) ?_)
  exact wpAny_pure (h _ U1 U2)
theorem acc_set {x dx : Addr} {items : Array Value} {n : Nat} {v : Value} {pre post : List (Addr × Obj)} {Q : Unit → Shared → Prop} (FF : Fr h₀ L s.heap m) (X₀ : (hd.heap_39 w.params).In h₀)
    (N : News h₀ L s.heap (pre ++ (dx, dictOf [] 0) :: post)) (hx : s.heap.get? x = some (accO dx items n)) (h1 : ∀ p ∈ pre, p.1 ≠ dx) (h2 : ∀ p ∈ post, p.1 ≠ dx)
    (h : ∀ h' tk tk', Fr h₀ L h' m → News h₀ L h' (pre ++ (dx, dictOf [sizeE w tk' v] 1) :: post) → Q () { s with heap := h', toks := tk }) :
    wpAny (model prog w) A (setAttr (.ref x) "_initial_size" v) Q E s := by
  have X : (hd.heap_39 w.params).In s.heap := X₀.keeps FF.keep
  have T : Looks (model prog w) s.heap (typeOf (.ref x)) (.ref 101) := (Looks.ld hx).andThen .now
  obtain ⟨hh, g, d, t, os⟩ := s
  unfold setAttr callSpecial? specialOf
  refine wpAny_bind (wpAny_mkText (wpAny_bind (wpAny_bind (wpAny_bind (T.at ((lk_setattr X).at ?_))))))
  refine wpAny_holding ?_
  refine wpAny_bind (wpAny_of_eq (a := (Value.builtin "object.__setattr__", [Value.ref x])) (by kernel_rfl) ?_)
  refine wpAny_bind (wpAny_call (acc_osa (s := ⟨hh, g, d, t + 1, os⟩) FF X₀ N hx h1 h2 fun h' F' N' => ?_))
  exact wpAny_pure (wpAny_pure (h _ _ _ F' N'))
end
end
theorem reset_A7 : True := by w_top off; trivial
section
set_option maxRecDepth 100000
section
variable {prog : Program} {w : World} {A A₀ : Around} {E : Value → Shared → Prop} {s : Shared} {L : Addr} {h₀ base : Heap} {m mg mb : Str → Option Value} {mean : ExcName → Option Value}
  {loose : List Str} {news rest : List (Addr × Obj)} {env : Env} {outer : List Env} {Q : Value → Shared → Prop}
theorem acc_init_list {x dx : Addr} {n : Nat} {Q : Fin → Shared → Prop} (FF : Fr h₀ L s.heap m) (N : News h₀ L s.heap ((x, accO dx #[] n) :: rest)) (hne : ∀ p ∈ rest, p.1 ≠ x)
    (h : ∀ h', Fr h₀ L h' m → News h₀ L h' ((x, accO dx #[] n) :: rest) → Q (.done (.ret .none)) { s with heap := h' }) :
    wpAny (model prog w) A (Builtin.«list.__init__» ⟨[.ref x], []⟩) Q E s := by
  have hx := (N _ (.head _)).1
  obtain ⟨U1, U2⟩ := news_upd (f := Obj.mapSeq (fun _ => #[])) (pre := []) FF N (by simp) hne (rfl : Obj.mapSeq (fun _ => #[]) (accO dx #[] n) = accO dx #[] n) rfl
  show wpAny _ A (do let old ← Builtin.List.listItems (.ref x); Builtin.List.listUpdate (.ref x) (fun _ => #[]); letGo old.toList.reverse; ret .none) _ _ s
  refine wpAny_bind (listItems_at hx rfl ?_)
  show wpAny _ A (updateSeq x (fun _ => #[]) >>= fun _ => letGo (#[] : Array Value).toList.reverse >>= fun _ => ret .none) _ _ s
  refine wpAny_bind (wpAny_updateSeq hx rfl ?_)
  refine wpAny_bind (wpAny_letGo ?_)
  exact wpAny_pure (h _ U1 U2)
end
end
theorem reset_A8 : True := by w_top off; trivial
section
set_option maxRecDepth 100000
theorem type_list_init (s : Shared) : s.TypeIs (.builtin "list.__init__") "wrapper_descriptor" := by show builtinType _ = _; rw [builtinType_eq_fast]; kernel_rfl
theorem type_list_len (s : Shared) : s.TypeIs (.builtin "list.__len__") "wrapper_descriptor" := by show builtinType _ = _; rw [builtinType_eq_fast]; kernel_rfl
section
variable {prog : Program} {w : World} {A A₀ : Around} {E : Value → Shared → Prop} {s : Shared} {L : Addr} {h₀ base : Heap} {m mg mb : Str → Option Value} {mean : ExcName → Option Value}
  {loose : List Str} {news rest : List (Addr × Obj)} {env : Env} {outer : List Env} {Q : Value → Shared → Prop}
theorem acc_make {v : Value} (hprog : ((prog.main.file : Str) == ("/claim/cut.py" : Str)) = true ∧ (prog.main.scope.names.lookup ("super" : Str)).isSome = false)
    (B : Below A₀ base outer h₀) (FF : Fr h₀ L s.heap m) (X : (hd.heap_39 w.params).In h₀) (N : News h₀ L s.heap news) (T : Top topProg loose mean mg mb h₀)
    (hA : A.frames = some (env :: outer)) (hf : env.frame = some L) (hke : env.scope.kind = .function) (hroom : A.depth + 20 < recursionLimit) (hunits : A.units + 200 < cLine)
    (h : ∀ x dx h' tk tk', Fr h₀ L h' m → News h₀ L h' ((x, accO dx #[] 0) :: (dx, dictOf [sizeE w tk' v] 1) :: news) → (∀ p ∈ news, p.1 < dx) → dx < x → Q (.ref x) { s with heap := h', toks := tk }) :
    wpAny (model prog w) A (call (.ref 101) [v]) Q E s := by
  obtain ⟨hh, g, d, t, os⟩ := s
  refine wpAny_call (acc_make0 (X.keeps FF.keep) ?_)
  have N' := (N.push FF emptyDict).push (FF.push _) (accO hh.objs.size #[] 0)
  have F' := (FF.push emptyDict).push (accO hh.objs.size #[] 0)
  rw [Heap.size_push] at N'
  have lt1 : ∀ p ∈ news, p.1 < hh.objs.size := fun p hp => Heap.lt_size (N p hp).1
  generalize hx : hh.objs.size + 1 = x at *
  generalize hdx : hh.objs.size = dx at *
  have lt2 : dx < x := by omega
  have lt3 : ∀ p ∈ news, p.1 < x := fun p hp => Nat.lt_trans (lt1 p hp) lt2
  generalize (hh.push emptyDict).push (accO dx #[] 0) = h1 at *
  clear hx hdx FF N
  refine' ks_code_super (s := ⟨h1, g, d, t, os⟩) (binds := [("self", .ref x), ("initial_size", v)]) B F' X N' T ?kA hf hke ?k6 ?k7 ?k8 ?k9 ?kB ?_ ?c1 ?c2 ?c3 ?c4
  case kA => exact hA
  case k6 => k_dflt k_is
  case k7 => k_dflt k_is
  case k8 => simp only [depth_under_make]; omega
  case k9 => k_dflt (exact binds_K (X.keeps F'.keep) rfl (by k_is) rfl rfl rfl)
  case kB => exact locs rfl
  case c1 => decide
  case c2 => exact rfl
  case c3 => exact rfl
  case c4 => exact rfl
  intro g' L' h' FG' F2 N2 B' X' T' l1
  (try dsimp only)
  k_steps
  have l2 : ∀ p ∈ news, p.1 ≠ dx := fun p hp => Nat.ne_of_lt (lt1 p hp)
  have l3 : ∀ p ∈ (dx, emptyDict) :: news, p.1 ≠ x := fun p hp => by
    rcases List.mem_cons.mp hp with rfl | hp
    · exact Nat.ne_of_lt lt2
    · exact Nat.ne_of_lt (lt3 p hp)
  refine acc_set (pre := [(x, accO dx #[] 0)]) F2 X' N2 (N2 _ (.head _)).1 (fun p hp => by rw [List.mem_singleton.mp hp]; exact Nat.ne_of_gt lt2) l2 ?_
  intro h3 tk3 tk4 F3 N3
  (try dsimp only)
  have I3 : InstAt h3 x (accO dx #[] 0) 101 (some (dictOf [sizeE w tk4 v] 1)) := ⟨(N3 _ (.head _)).1, rfl, rfl, (N3 _ (.tail _ (.head _))).1⟩
  refine ks_wpAt_execs_cons ?_
  refine ks_wpAt_Expr_any ?_
  refine ks_wpAt_MethodCall ?_
  k_dflt (refine ks_node F3 X' N3 T' (by k_is) (by rfl) (by rfl) I3 (by k_is) (by rfl) hprog.1 (by k_is) (by k_is) (by k_is) (by k_is) (by decide) (by rfl) (by rfl) (by rfl) (by rfl) hprog.2 (by first | boot_by_name | rfl | kernel_rfl) ?_)
  intro so h4 F4 N4 l4
  refine super_method own_init (by kernel_rfl) type_list_init (by decide) F4 X' N4 (.tail _ (.head _)) (.head _) ?_
  intro q h5 F5 N5 l5
  (try dsimp only)
  refine super_callWith (N5 _ (.head _)).1 ?_
  refine super_call (N5 _ (.head _)).1 (bound_init x) (by decide +kernel) F.entry_list_init ?_
  refine acc_init_list (rest := (dx, dictOf [sizeE w tk4 v] 1) :: news) F5 (fun p hp => N5 p (.tail _ (.tail _ hp))) ?_ ?_
  · intro p hp
    rcases List.mem_cons.mp hp with rfl | hp
    · exact Nat.ne_of_lt lt2
    · exact Nat.ne_of_lt (lt3 p hp)
  intro h6 F6 N6
  (try dsimp only)
  k_steps
  rename_i kF kN _ _
  exact h _ _ _ _ _ kF kN lt1 lt2
end
end
section
local macro_rules | `(tactic| walk_at "z") => `(tactic| skip)
local macro_rules | `(tactic| walk_at "z") => `(tactic| skip)
local macro_rules | `(tactic| walk_at "z") => `(tactic| skip)
theorem flush_B1 : True ∧ True := by w_top off; (try (walk1; fail)); exact ⟨trivial, trivial⟩
end
section
set_option maxRecDepth 100000
theorem app_kind : builtinKind "list.append" = some .method := by decide +kernel
theorem app_split : splitId "list.append" = some ("list", "append") := by decide +kernel
section
variable {prog : Program} {w : World} {A A₀ : Around} {E : Value → Shared → Prop} {s : Shared} {L : Addr} {h₀ base : Heap} {m mg mb : Str → Option Value} {mean : ExcName → Option Value}
  {loose : List Str} {news rest : List (Addr × Obj)} {env : Env} {outer : List Env} {Q : Value → Shared → Prop}
theorem check_meth {M : Model} {i owner n : String} {self : Value} {rest : List Value} {kw : List (Str × Value)} {Q : Unit → Shared → Prop}
    (hk : builtinKind i = some .method) (hs : splitId i = some (owner, n)) (hi : Looks M s.heap (isInstance self (.type owner)) true) (ha : argsOk i ⟨self :: rest, kw⟩) (q : Q () s) :
    wpAny M A (checkBuiltinCall i ⟨self :: rest, kw⟩) Q E s := by
  simp only [checkBuiltinCall, hk, hs]
  refine wpAny_bind (hi.here ?_)
  simp only [Bool.not_true, Bool.false_eq_true, if_false]
  cases hsig : Manifest.signature? i with
  | none => exact wpAny_pure q
  | some sig =>
    simp only [argsOk, hsig] at ha
    have h2 : Bind.checkArgs i sig ⟨self :: rest, kw⟩ = pure () := ha
    show wpAny M A (Bind.checkArgs i sig ⟨self :: rest, kw⟩) Q E s
    rw [h2]; exact wpAny_pure q
theorem acc_append {x dx : Addr} {items : Array Value} {n : Nat} {v : Value} (X₀ : (hd.heap_39 w.params).In h₀) (FF : Fr h₀ L s.heap m) (N : News h₀ L s.heap ((x, accO dx items n) :: rest)) (hne : ∀ p ∈ rest, p.1 ≠ x) (hsz : items.size < 10000)
    (h : ∀ h' n', Fr h₀ L h' m → News h₀ L h' ((x, accO dx (items.push v) n') :: rest) → Q .none { s with heap := h' }) :
    wpAny (model prog w) A (call (.builtin "list.append") [.ref x, v]) Q E s := by
  have X := X₀.keeps FF.keep
  have hx := (N _ (.head _)).1
  have T : Looks (model prog w) s.heap (isInstance (.ref x) (.type "list")) true := ((Looks.ld (part := some headPart) hx).andThen .now).andThen (lk_subList X)
  obtain ⟨U1, U2⟩ := news_upd (f := Obj.mapSeq (·.push v)) (pre := []) FF N (by simp) hne (rfl : Obj.mapSeq (·.push v) (accO dx items n) = accO dx (items.push v) (if (items.push v).size == items.size then n else n + 1)) rfl
  refine wpAny_call (codeAny_call_builtin F.slot_list_append.plain F.entry_list_append (check_meth app_kind app_split T (F.args_list_append_2 _ _) ?_))
  show wpAny _ A.in1 (updateSeq x (·.push v) >>= fun _ => ret .none) _ _ s
  refine wpAny_bind (wpAny_updateSeq hx rfl ?_ (by rw [sizeLine_eq]; omega) (by rw [Array.size_push, sizeLine_eq]; omega))
  exact wpAny_pure (h _ _ U1 U2)
end
section
variable {prog : Program} {w : World} {A A₀ : Around} {E : Value → Shared → Prop} {s : Shared} {L : Addr} {h₀ base : Heap} {m mg mb : Str → Option Value} {mean : ExcName → Option Value}
  {loose : List Str} {news news' rest : List (Addr × Obj)} {env : Env} {outer : List Env} {Q : Value → Shared → Prop}
theorem acc_appendU {x dx : Addr} {items : Array Value} {n : Nat} {v : Value} (X₀ : (hd.heap_39 w.params).In h₀) (FF : Fr h₀ L s.heap m) (N : News h₀ L s.heap news) (hsz : items.size < 10000)
    (U : Upd x (accO dx items n) (accO dx (items.push v) (n + 1)) news news')
    (h : ∀ h', Fr h₀ L h' m → News h₀ L h' news' → Q .none { s with heap := h' }) :
    wpAny (model prog w) A (call (.builtin "list.append") [.ref x, v]) Q E s := by
  obtain ⟨pre, post, rfl, rfl, a, b⟩ := U.split
  have X := X₀.keeps FF.keep
  have hx := (N (x, accO dx items n) (by simp)).1
  have T : Looks (model prog w) s.heap (isInstance (.ref x) (.type "list")) true := ((Looks.ld (part := some headPart) hx).andThen .now).andThen (lk_subList X)
  have e : Obj.mapSeq (·.push v) (accO dx items n) = accO dx (items.push v) (n + 1) := by
    show (⟨_, _, .seq (items.push v) (if (items.push v).size == items.size then n else n + 1), _⟩ : Obj) = _
    rw [if_neg (by simp)]
  obtain ⟨U1, U2⟩ := news_upd (f := Obj.mapSeq (·.push v)) FF N a b e rfl
  refine wpAny_call (codeAny_call_builtin F.slot_list_append.plain F.entry_list_append (check_meth app_kind app_split T (F.args_list_append_2 _ _) ?_))
  show wpAny _ A.in1 (updateSeq x (·.push v) >>= fun _ => ret .none) _ _ s
  refine wpAny_bind (wpAny_updateSeq hx rfl ?_ (by rw [sizeLine_eq]; omega) (by rw [Array.size_push, sizeLine_eq]; omega))
  exact wpAny_pure (h _ U1 U2)
end
theorem allLt_mem {d : Addr} {l : List (Addr × Obj)} (h : AllLt d l) : ∀ p ∈ l, p.1 < d := by
  induction l with
  | nil => intro p hp; cases hp
  | cons q r ih =>
    intro p hp
    rcases List.mem_cons.mp hp with rfl | hp
    · exact h.1
    · exact ih h.2 p hp
local macro_rules | `(tactic| k_all) => `(tactic| assumption)
local macro_rules | `(tactic| walk_at "getMethod ref") => `(tactic| (k_here; k_dflt (refine' acc_method ?X ?F ?N ?hx ?hd ?hf ?ht ?hl ?_; (case X => k_asm); (case F => k_asm); (case N => k_asm); (case hx => k_mem); (case hd => k_mem); (case hf => k_is); (case ht => first | exact .inl (by k_is) | exact .inr (by k_is)); (case hl => k_get); k_whole)))
local macro_rules | `(tactic| walk_at "call builtin:list.append") => `(tactic| (k_here; (with_reducible show wpAny _ _ (call (Value.builtin _) [Value.ref _, _]) _ _ _); k_dflt (refine' acc_appendU ?X ?F ?N ?z ?U ?_; (case X => k_asm); (case F => k_asm); (case N => k_asm); (case U => k_upd); (case z => (first | assumption | (simp only [List.size_toArray]; omega))); k_whole); intro h' F' N'; (try k_sweep)))
section
variable {prog : Program} {w : World} {A A₀ : Around} {E : Value → Shared → Prop} {s : Shared} {L : Addr} {h₀ base : Heap} {m mg mb : Str → Option Value} {mean : ExcName → Option Value}
  {loose : List Str} {news news' rest : List (Addr × Obj)} {env : Env} {outer : List Env} {Q : Value → Shared → Prop}
theorem push_spec {x dx : Addr} {items : Array Value} {n : Nat} {es : List DictEntry} {k : Nat} {tk0 : Tok} {v0 u v : Value}
    (B : Below A₀ base outer h₀) (FF : Fr h₀ L s.heap m) (X : (hd.heap_39 w.params).In h₀) (N : News h₀ L s.heap ((x, accO dx items n) :: (dx, dictOf [sizeE w tk0 v0] 1) :: rest)) (T : Top topProg loose mean mg mb h₀)
    (hA : A.frames = some (env :: outer)) (hf : env.frame = some L) (hke : env.scope.kind = .function) (hroom : A.depth + 20 < recursionLimit)
    (hne : ∀ p ∈ rest, p.1 ≠ x) (hdx : dx ≠ x) (hsz : items.size < 1000)
    (h : ∀ t h' tk, Fr h₀ L h' m → News h₀ L h' ((t, { cls := .type "tuple", data := .seq #[u, v] }) :: (x, accO dx (items.push (.ref t)) (n + 1)) :: (dx, dictOf [sizeE w tk0 v0] 1) :: rest) → x < t → dx < t → (∀ p ∈ rest, p.1 < t) → Q .none { s with heap := h', toks := tk }) :
    wpAny (model prog w) A (call (.ref 45) [.ref x, u, v]) Q E s := by
  have hsz' : items.size < 10000 := by omega
  refine wpAny_call ?_
  refine' code_def (binds := [("self", .ref x), ("fws", u), ("string", v)]) B FF X N T hA hf hke ?k6 ?k7 (by omega) ?k9 ?kB ?_ ?c2 ?c3 ?c4 ?c5
  case k6 => k_dflt k_is
  case k7 => k_dflt k_is
  case k9 => k_dflt (exact BindsTo.of_eq rfl)
  case c5 => decide
  case kB => exact locs rfl
  case c2 => exact rfl
  case c3 => exact rfl
  case c4 => exact rfl
  k_whole; intro g' L' h' FG' F' N' B' X' T'; (try dsimp only); (try k_fold)
  k_steps
  rename_i l1 _ _ _ kF kN _ _
  exact h _ _ _ kF kN l1.1 l1.2.1 (allLt_mem l1.2.2)
end
end
theorem reset_C1 : True := by w_top off; trivial
section
set_option maxRecDepth 100000
abbrev iterO (l : Addr) (i : Nat) : Obj := { cls := .type "list_iterator", dict := none, data := .fields #[.ref l, .int i 0], slots := #[] }
def IsAcc (h : Heap) (x : Addr) (items : Array Value) : Prop := ∃ dx n, h.get? x = some (accO dx items n)
theorem IsAcc.at {h h' : Heap} {x : Addr} {items : Array Value} (a : IsAcc h x items) (e : ∀ o, h.get? x = some o → h'.get? x = some o) : IsAcc h' x items := let ⟨dx, n, q⟩ := a; ⟨dx, n, e _ q⟩
section
variable {prog : Program} {w : World} {A : Around} {E : Value → Shared → Prop} {s : Shared} {h : Heap}
theorem lk_iter (X : (hd.heap_39 w.params).In h) : Looks (model prog w) h (typeLookup (.ref 101) "__iter__") (some (.builtin "list.__iter__")) := Looks.of_peek X (by kernel_rfl)
theorem bind_iter (x : Addr) : bindSpecial (.builtin "list.__iter__") (.ref x) = pure (.builtin "list.__iter__", [.ref x]) := slot_list_iter.bind _
theorem it_kind : builtinKind "list.__iter__" = some .slot := by decide +kernel
theorem it_split : splitId "list.__iter__" = some ("list", "__iter__") := by decide +kernel
theorem acc_iter {x : Addr} {items : Array Value} {Q : Value → Shared → Prop} (X : (hd.heap_39 w.params).In s.heap) (a : IsAcc s.heap x items)
    (hQ : Q (.ref s.heap.objs.size) { s with heap := s.heap.push (iterO x 0) }) : wpAny (model prog w) A (pyIter (.ref x)) Q E s := by
  obtain ⟨dx, n, hx⟩ := a
  have T : Looks (model prog w) s.heap (typeOf (.ref x)) (.ref 101) := (Looks.ld hx).andThen .now
  have S : Looks (model prog w) s.heap (specialOf (.ref x) "__iter__") (some (.builtin "list.__iter__")) := T.andThen (lk_iter X)
  have Li : Looks (model prog w) s.heap (isInstance (.ref x) (.type "list")) true := T.andThen (lk_subList X)
  unfold pyIter
  refine wpAny_bind (S.here ?_)
  show wpAny _ A (callSpecialIfBoundUnlessNone? (.ref x) "__iter__" _ >>= _) Q E s
  unfold callSpecialIfBoundUnlessNone? bindSpecialIfBound?
  refine wpAny_bind (wpAny_holding (wpAny_bind (wpAny_bind (S.here ?_))))
  have fin : wpAny (model prog w) A (call (.builtin "list.__iter__") [.ref x]) (fun it s' => wpAny (model prog w) A (do match ← specialOf it "__next__" with
      | none => (do rule "iter.non-iterator"; raiseError "TypeError" s!"iter() returned non-iterator of type '{← typeNameOf it}'")
      | some _ => pure it) Q E s') E s := by
    refine wpAny_call (codeAny_call_builtin slot_list_iter.plain entry_list_iter (@check_slot (model prog w) _ _ _ "list.__iter__" "list" "__iter__" (.ref x) [] [] _ it_kind it_split Li (args_list_iter _) ?_))
    show wpAny _ _ (do ret (← newFields "list_iterator" [.ref x, rawInt 0])) _ _ s
    refine wpAny_bind (wpAny_newObj_type (wpAny_pure ?_))
    exact wpAny_bind (wpAny_specialOf (T := "list_iterator") ⟨_, Heap.get?_push_size _ rfl, rfl⟩ slot_listiter_next.lookup (wpAny_pure hQ))
  refine wpAny_bind (wpAny_askSetting (wpAny_ite ?_))
  split
  · refine wpAny_bind (wpAny_of_eq (bind_iter x) (wpAny_pure ?_))
    exact wpAny_bind (wpAny_mono fin (fun v s' h' => wpAny_pure h') fun _ _ z => z)
  · refine wpAny_tryCatch (wpAny_bind (wpAny_of_eq (bind_iter x) (wpAny_pure ?_)))
    exact wpAny_bind (wpAny_mono fin (fun v s' h' => wpAny_pure h') fun _ _ z => z)
end
end
theorem reset_C2 : True := by w_top off; trivial
section
set_option maxRecDepth 100000
open AutoSeq1 (wpAny_loadPart')
theorem next_item (it l dx : Addr) (i : Nat) (items : Array Value) (n : Nat) (x : Value) (hx : items[i]? = some x) :
    Meets (Builtin.«list_iterator.__next__» ⟨[.ref it], []⟩) (fun _ R s => s.heap.get? it = some (iterO l i) ∧ s.heap.get? l = some (accO dx items n) ∧
      R (.ok (.ret x)) { s with heap := s.heap.update it (Obj.mapFields fun v => v.setIfInBounds 1 (rawInt ((i : Int) + 1))) }) := by
  refine .of_wp fun prog w A R s h => ?_
  obtain ⟨hp, g, d, tk, os⟩ := s; obtain ⟨h1, h2, h⟩ := h
  have hx' : items[((i : Nat) : Int).toNat]? = some x := by simpa using hx
  wp_walk using wpAny_loadPart' h1, wpAny_loadPart' h2
  rw [hx']
  wp_walk using wpAny_loadPart' h1, wpAny_loadPart' h2
  exact ⟨_, rfl, h⟩
section
variable {prog : Program} {w : World} {A : Around} {E : Value → Shared → Prop} {s : Shared} {h : Heap}
theorem acc_next_item {it l : Addr} {i : Nat} {items : Array Value} {x : Value} {Q : Option Value → Shared → Prop} (hit : s.heap.get? it = some (iterO l i)) (hl : IsAcc s.heap l items) (hx : items[i]? = some x)
    (hQ : ∀ h', h'.get? it = some (iterO l (i + 1)) → Heap.SameBut it s.heap h' → Q (some x) { s with heap := h' }) : wpAny (model prog w) A (pyNext (.ref it)) Q E s := by
  obtain ⟨dx, n, hl⟩ := hl
  have hT : s.TypeIs (.ref it) "list_iterator" := ⟨_, hit, rfl⟩
  unfold pyNext
  refine wpAny_bind (wpAny_attempt (wpAny_callSpecial?_slot (name := Str.ofString "__next__") hT slot_listiter_next
    (call_meets slot_listiter_next hT entry_listiter_next (args_listiter_next _) (next_item it l dx i items n x hx) ⟨hit, hl, ?_⟩)))
  exact wpAny_pure (hQ _ (Heap.get?_update_self _ hit rfl) (Heap.SameBut.update ..))
theorem acc_next_end {it l : Addr} {i : Nat} {items : Array Value} {Q : Option Value → Shared → Prop} (hh : A.handled = none) (hit : s.heap.get? it = some (iterO l i)) (hl : IsAcc s.heap l items) (hx : items[i]? = none)
    (hQ : ∀ h', Heap.ExtBut it s.heap h' → Q none { s with heap := h' }) : wpAny (model prog w) A (pyNext (.ref it)) Q E s := by
  obtain ⟨dx, n, hl⟩ := hl
  have hT : s.TypeIs (.ref it) "list_iterator" := ⟨_, hit, rfl⟩
  unfold pyNext
  refine wpAny_bind (wpAny_attempt (wpAny_callSpecial?_slot (name := Str.ofString "__next__") hT slot_listiter_next
    (wpAny_call_entry slot_listiter_next hT entry_listiter_next ?_ (args_listiter_next _))))
  show wpAny _ _ (field (.ref it) 0 >>= _) _ _ s
  refine wpAny_bind (wpAny_field hit rfl (x := .ref l) rfl ?_)
  show wpAny _ _ (field (.ref it) 1 >>= _) _ _ s
  refine wpAny_bind (wpAny_field hit rfl (x := .int i 0) rfl ?_)
  show wpAny _ _ (seqItems? (.ref l) >>= _) _ _ s
  refine wpAny_bind (wpAny_seqItems hl rfl ?_)
  simp only [Int.toNat_natCast, hx]
  refine wpAny_bind (wpAny_rule (wpAny_bind (wpAny_setField hit rfl (by simp) ?_)))
  show wpAny _ _ (newExc (.type "StopIteration") [] >>= _) _ _ _
  refine wpAny_bind ?_
  simp only [newExc, newTuple]
  refine wpAny_bind (wpAny_newObj_type ?_ (by size_fits))
  refine wpAny_bind (m := firstArgMember _ _) (wpAny_of_eq (a := Value.none) (by first | rfl | (simp only [firstArgMember]; rfl)) ?_)
  refine wpAny_newObj_type ?_ (by size_fits)
  simp only [raiseNew]
  refine wpAny_bind (wpAny_handled ?_)
  rw [show A.in1.handled = none from hh]
  refine wpAny_bind (wpAny_pure (wpAny_throw ?_))
  refine wpAny_bind (wpAny_isInstance (T := "StopIteration") (b := true) ⟨_, Heap.get?_push_size _ rfl, rfl⟩ isSubtype_stop ?_)
  exact wpAny_pure (hQ _ (((Heap.SameBut.update ..).extBut.push _).push _))
end
end
theorem reset_C3 : True := by w_top off; trivial
section
set_option maxRecDepth 100000
theorem IsAcc.extBut {h h' : Heap} {x b : Addr} {items : Array Value} (a : IsAcc h x items) (hs : Heap.ExtBut b h h') (hne : x ≠ b) : IsAcc h' x items := a.at fun o e => hs x o hne e
theorem walksAcc {prog : Program} {w : World} {A : Around} (hh : A.handled = none) (I ax : Addr) (hne : ax ≠ I) (items : Array Value) (Ts : Nat → Addr) (vals : Nat → Array Value)
    (hit : ∀ j, j < items.size → items[j]? = some (.ref (Ts j))) (hTI : ∀ j, j < items.size → Ts j ≠ I) :
    WalksU prog w A I (I :: ax :: (List.range items.size).map Ts) [I] items.size (fun j v => v = vals j)
      (fun j h => h.get? I = some (iterO ax j) ∧ IsAcc h ax items ∧ ∀ k, k < items.size → h.IsTuple (Ts k) (vals k))
      (fun j T h => (j < items.size ∧ T = Ts j) ∧ h.get? I = some (iterO ax (j + 1)) ∧ IsAcc h ax items ∧ ∀ k, k < items.size → h.IsTuple (Ts k) (vals k)) where
  sub := fun b hb => by simp at hb; simp [hb]
  frame := fun _ _ _ st hk => ⟨hk I (by simp) _ st.1, st.2.1.at fun o e => hk ax (by simp) o e,
    fun k hk' => (st.2.2 k hk').at fun o e => hk (Ts k) (List.mem_cons_of_mem _ (List.mem_cons_of_mem _ (List.mem_map.mpr ⟨k, List.mem_range.mpr hk', rfl⟩))) o e⟩
  item := fun i s Q E hi st hQ => by
    refine acc_next_item st.1 st.2.1 (x := .ref (Ts i)) (hit i hi) fun h' hit' hs' => ?_
    have tup : ∀ k, k < items.size → h'.IsTuple (Ts k) (vals k) := fun k hk' => (st.2.2 k hk').extBut hs'.extBut (hTI k hk')
    exact hQ (Ts i) (vals i) h' s.toks rfl (tup i hi) ⟨⟨hi, rfl⟩, hit', st.2.1.extBut hs'.extBut hne, tup⟩ fun b o hb e => hs'.extBut b o (fun h => hb (by simp [h])) e
  go := fun _ _ _ _ _ s Q _ hm hQ => wpAny_letOwnedTupleGo_listiter ⟨_, hm.2.1, rfl, rfl⟩ (hQ s.heap hm.2 fun _ _ _ e => e)
  apart := fun j T _ hm hmem => by
    rcases List.mem_cons.mp hmem with e | e
    · exact hTI j hm.1.1 (hm.1.2 ▸ e)
    · cases e
  done := fun s Q E st hQ => acc_next_end hh st.1 st.2.1 (by simp) fun h' he' => hQ h' s.toks fun b o hb e => he' b o (fun h => hb (by simp [h])) e
  self := fun _ _ _ _ st hQ => wpAny_pyIter_listiter ⟨_, st.1, rfl, rfl⟩ hQ
end
theorem reset_C4 : True := by w_top off; trivial
section
set_option maxRecDepth 100000
def TabOk (pos : Pos) (ps : Array Value) : Prop := ps = #[] ∨ ∃ c' : Addr, ps = #[rawInt pos.line, rawInt pos.col, .ref c']
abbrev tabO (ps : Array Value) : Obj := { cls := .none, data := .fields ps }
section
variable {M : Model} {prog : Program} {w : World} {A : Around} {E : Value → Shared → Prop} {s : Shared}
theorem tab_code {env : Env} {c P : Addr} {ps : Array Value} {pos : Pos} {qualname : Str} {scope : Scope} {Q : Value → Shared → Prop} (hc : env.code = .ref c) (hok : s.heap.IsCode c P ps) (htab : s.heap.TableAt c P ps) (ht : TabOk pos ps)
    (hQ : ∀ code h' tk ps', TabOk pos ps' → Heap.ExtBut P s.heap h' → s.heap.objs.size ≤ h'.objs.size → h'.get? P = some (tabO ps') → Q code { s with heap := h', toks := tk }) :
    wpAny M A (genexprCode env pos qualname scope) Q E s := by
  rcases ht with rfl | ⟨c', rfl⟩
  · refine wpAny_genexprCodeX hc hok htab rfl fun c' h' tk hx h1 h2 _ _ ht' _ => ?_
    exact hQ _ _ _ _ (.inr ⟨c', by simp⟩) hx (by omega) ht'.2
  · refine wpAny_genexprCode_hit hc hok (c' := .ref c') ?_ ?_
    · show (if ((pos.line : Int) == pos.line && (pos.col : Int) == pos.col) = true then _ else _) = _
      simp
    · exact hQ _ s.heap s.toks _ (.inr ⟨c', rfl⟩) (fun _ _ _ e => e) (Nat.le_refl _) htab.2
end
end
theorem reset_C5 : True := by w_top off; trivial
section
set_option maxRecDepth 100000
theorem pass_all (n : Nat) : passing (fun _ => true) n 0 = List.range n := by
  unfold passing; rw [List.drop_zero]; exact List.filter_eq_self.mpr fun _ _ => rfl
section
variable {prog : Program} {w : World} {A : Around} {E : Value → Shared → Prop} {s : Shared} {L : Addr} {h₀ : Heap} {m mg mb : Str → Option Value} {mean : ExcName → Option Value}
  {loose : List Str} {rest : List (Addr × Obj)}
theorem acc_genexp {env : Env} {elt iter : PySem.Expr} {xa xb : Str} {pa pb pt : Pos} {kt : Nat} {scope : Scope} {pos : Pos} {c P x dx : Addr} {items : Array Value} {n : Nat} {ps : Array Value} {Ts : Nat → Addr} {va vb : Nat → Value} {V : Nat → Value → Prop} {Q : Value → Shared → Prop}
    (X₀ : (hd.heap_39 w.params).In h₀) (FF : Fr h₀ L s.heap m) (T : Top topProg loose mean mg mb h₀) (N : News h₀ L s.heap ((P, tabO ps) :: rest)) (hP : ∀ p ∈ rest, p.1 ≠ P) (ht : TabOk pos ps) (hG : AllBare s.gens)
    (hx : (x, accO dx items n) ∈ rest) (hT : ∀ j, j < items.size → items[j]? = some (.ref (Ts j)) ∧ ∃ k, (Ts j, ({ cls := .type "tuple", data := .seq #[va j, vb j] k } : Obj)) ∈ rest)
    (hcode : env.code = .ref c) (hic : ∀ (h : Heap) (ps' : Array Value), (hd.heap_39 w.params).In h → h.get? P = some (tabO ps') → TriplesOk ps'.toList → h.IsCode c P ps' ∧ h.TableAt c P ps')
    (hg : env.globals = mainGlobals) (hh : A.handled = none) (hco : scope.isCoroutine = false) (hclos : closureFor scope env = pure []) (hcell : ∀ y ∈ scope.names, y.2 ≠ .cell) (h0 : scope.names.lookup (".0" : Str) = some NameKind.local)
    (hxa : scope.names.lookup xa = some .local) (hxb : scope.names.lookup xb = some .local) (hab : xa ≠ xb) (hkind : scope.kind = .function) (hroom : A.depth < recursionLimit)
    (hev : ∀ Q' : Value → Shared → Prop, Q' (.ref x) s → wpAny (model prog w) A (eval iter env) Q' E s) (hs : ∀ y, genFold iter env y = pure y)
    (helt : ∀ (A' : Around) (E' : Value → Shared → Prop) i (s₂ : Shared) (m₂ : Str → Option Value) (C : Addr) (code : Value) (g : Heap), A'.handled = none → i < items.size → Fr g C s₂.heap m₂ → (hd.heap_39 w.params).In g → Top topProg loose mean mg mb g → m₂ xa = some (va i) → m₂ xb = some (vb i) →
      wpAny (model prog w) A' (eval elt (genEnv scope [] C code builtinsNs env)) (fun y s₃ => V i y ∧ Keeps s₂ s₃) E' s₂)
    (hQ : ∀ a h' tk gs ps', TabOk pos ps' → Fr h₀ L h' m → News h₀ L h' ((P, tabO ps') :: rest) → AllBare gs → L ≤ s.heap.objs.size - 1 → (∀ p ∈ (P, tabO ps') :: rest, p.1 ≤ s.heap.objs.size - 1) →
      Gen prog w A (s.heap.objs.size - 1) a items.size (fun j y => ∃ i, (List.range items.size)[j]? = some i ∧ V i y) { s with heap := h', toks := tk, gens := gs } → Q (.ref a) { s with heap := h', toks := tk, gens := gs }) :
    wpAny (model prog w) A (eval (.GeneratorExp elt [⟨.Tuple [.Name xa pa, .Name xb pb] kt pt, iter, [], 0⟩] scope pos) env) Q E s := by
  refine wpAny_GeneratorExp_walksQT hh hco hclos hcell h0 hxa hxb hab hkind hroom (hev _ ?_) hs
  have X : (hd.heap_39 w.params).In s.heap := X₀.keeps FF.keep
  have hxs := (N _ (.tail _ hx)).1
  refine acc_iter X ⟨dx, n, hxs⟩ ?_
  -- the iterator
  have ltN : ∀ p ∈ (P, tabO ps) :: rest, p.1 < s.heap.objs.size := fun p hp => Heap.lt_size (N p hp).1
  have ltL : L < s.heap.objs.size := FF.ns.lt
  have F1 := FF.push (iterO x 0)
  have N1 : News h₀ L (s.heap.push (iterO x 0)) ((P, tabO ps) :: rest) := fun p hp => ⟨Heap.get?_push_of_some _ (N p hp).1, (N p hp).2⟩
  have hI : (s.heap.push (iterO x 0)).get? s.heap.objs.size = some (iterO x 0) := Heap.get?_push_size _ rfl
  have hIsz : (s.heap.push (iterO x 0)).objs.size = s.heap.objs.size + 1 := Heap.size_push ..
  have hI0 : h₀.get? s.heap.objs.size = none := next_is_new FF
  generalize hi : s.heap.objs.size = I at *
  generalize s.heap.push (iterO x 0) = h1 at *
  refine ⟨T.nolimit.keeps F1.keep, ?_⟩
  have X1 : (hd.heap_39 w.params).In h1 := X₀.keeps F1.keep
  have htr : TriplesOk ps.toList := by rcases ht with rfl | ⟨_, rfl⟩ <;> trivial
  obtain ⟨ic1, ta1⟩ := hic h1 ps X1 (N1 _ (.head _)).1 htr
  refine tab_code (s := { s with heap := h1 }) hcode ic1 ta1 ht fun code h2 tk2 ps2 ht2 hx2 hsz2 hP2 => ?_
  have hPL : P ≠ L := (N1 _ (.head _)).2.1
  have hP0 : h₀.get? P = none := (N1 _ (.head _)).2.2
  have F2 : Fr h₀ L h2 m := ⟨F1.ns.at' fun o e => hx2 _ o (Ne.symm hPL) e, fun b o e => hx2 b o (fun q => by rw [q, hP0] at e; cases e) (F1.keep b o e), F1.above⟩
  have N2 : News h₀ L h2 ((P, tabO ps2) :: rest) := fun p hp => by
    rcases List.mem_cons.mp hp with rfl | hp
    · exact ⟨hP2, hPL, hP0⟩
    · exact ⟨hx2 _ _ (hP p hp) (N1 p (.tail _ hp)).1, (N1 p (.tail _ hp)).2⟩
  have hPI : P ≠ I := Nat.ne_of_lt (ltN _ (.head _))
  have hI2 : h2.get? I = some (iterO x 0) := hx2 _ _ (Ne.symm hPI) hI
  obtain ⟨bm, ob, M⟩ := bmod_of_top T
  have M2 := M.keeps F2.keep
  rw [hg]
  refine wpAny_builtinsFor M2.ns M2.name M2.ne M2.obj M2.cls M2.dict M2.data ?_
  have sz2 : I + 1 ≤ h2.objs.size := by rw [← hIsz]; exact hsz2
  have sz3 : I ≤ h2.objs.size := Nat.le_trans (Nat.le_succ I) sz2
  have hTI : ∀ j, j < items.size → Ts j ≠ I := fun j hj => by
    obtain ⟨_, k, hk⟩ := hT j hj
    exact Nat.ne_of_lt (ltN _ (.tail _ hk))
  have hTu : ∀ j, j < items.size → h2.IsTuple (Ts j) #[va j, vb j] := fun j hj => by
    obtain ⟨_, k, hk⟩ := hT j hj
    exact ⟨_, (N2 _ (.tail _ hk)).1, rfl, _, rfl⟩
  have hcs : cStatics < I := by
    obtain ⟨_, hn, _⟩ := T.nolimit
    exact Nat.lt_of_lt_of_le hn.lt (Nat.le_trans FF.above (Nat.le_of_lt ltL))
  refine ⟨I, _, [I], items.size, _, _, _, fun _ => true, V, rfl, fun A' hA' => (walksAcc (prog := prog) (w := w) hA' I x (Nat.ne_of_lt (ltN _ (.tail _ hx))) items Ts (fun j => #[va j, vb j]) (fun j hj => (hT j hj).1) hTI).bound, ?_, ⟨hI2, ⟨dx, n, (N2 _ (.tail _ hx)).1⟩, hTu⟩, ?_, T.nolimit.keeps F2.keep, ?_, ?_, ?_⟩
  · rintro i vals ⟨_, rfl⟩
    exact ⟨_, _, rfl⟩
  · intro b hb
    rcases List.mem_cons.mp hb with rfl | hb
    · exact sz2
    · rcases List.mem_cons.mp hb with rfl | hb
      · exact Nat.lt_of_lt_of_le (ltN _ (.tail _ hx)) sz3
      · obtain ⟨j, hj, rfl⟩ := List.mem_map.mp hb
        obtain ⟨_, k, hk⟩ := hT j (List.mem_range.mp hj)
        exact Nat.lt_of_lt_of_le (ltN _ (.tail _ hk)) sz3
  · intro hm
    exact absurd (List.mem_singleton.mp hm) (Nat.ne_of_lt hcs)
  · intro href hhref
    -- the generator's own frame: all that lay below but the iterator stays
    have base : ∀ (s₂ : Shared) (m₂ : Str → Option Value), s₂.heap.Ns (genEnv scope [] h2.objs.size code builtinsNs env).locals m₂ → (∀ b ∈ List.range h2.objs.size, b ∉ [I] → ∀ o, href.get? b = some o → s₂.heap.get? b = some o) → Fr (h2.hide I) h2.objs.size s₂.heap m₂ := fun s₂ m₂ hn hk => by
      refine ⟨hn, fun b o e => ?_, Nat.le_of_eq (Heap.hide_size _ _)⟩
      have e2 := Heap.of_hide e
      refine hk b (List.mem_range.mpr (Heap.lt_size e2)) (fun hm => ?_) o (hhref b o e2)
      rw [List.mem_singleton.mp hm, Heap.hide_self] at e; cases e
    have stay : ∀ b o, h₀.get? b = some o → (h2.hide I).get? b = some o := fun b o e => (Heap.hide_ne _ fun q => by rw [q, hI0] at e; cases e).trans (F2.keep b o e)
    refine ⟨fun A' E' i va' vb' s₂ m₂ _ _ _ _ _ _ => ?_, fun A' E' i va' vb' s₂ m₂ hA' hPt _ hn ha hb hk => ?_⟩
    · exact wpAny_pure ⟨rfl, s₂.heap, s₂.toks, rfl, fun _ _ e => e⟩
    · obtain ⟨hlt, hv⟩ := hPt
      have e1 : va' = va i := by have := congrArg (fun a => a[0]?) hv; simpa using this
      have e2 : vb' = vb i := by have := congrArg (fun a => a[1]?) hv; simpa using this
      subst e1 e2
      exact helt A' E' i s₂ m₂ _ code _ hA' hlt (base s₂ m₂ hn hk) (X₀.keeps stay) (T.keeps stay) ha hb
  · intro a h5 tk gs hgb hag hsz5 hk5 W hat
    refine hQ a h5 tk _ ps2 ht2 (F2.keeps hk5) (fun p hp => ⟨hk5 _ _ (N2 p hp).1, (N2 p hp).2⟩) (hG.push hgb) (Nat.le_sub_one_of_lt ltL) (fun p hp => ?_) ?_
    · rcases List.mem_cons.mp hp with rfl | hp
      · exact Nat.le_sub_one_of_lt (show P < I from ltN (P, tabO ps) (.head _))
      · exact Nat.le_sub_one_of_lt (ltN _ (.tail _ hp))
    · rw [pass_all, List.length_range] at W
      refine ⟨_, _, _, _, W, hat, (fun i s' st => st.1.typeIs), List.mem_cons_self, ?_, ?_⟩
      · intro b hb
        show b < h5.objs.size
        rw [hsz5]
        rcases List.mem_cons.mp hb with rfl | hb
        · exact Nat.lt_succ_self _
        · rcases List.mem_cons.mp hb with rfl | hb
          · exact Nat.lt_succ_of_lt hag
          · exact Nat.lt_succ_of_lt (Nat.lt_trans (List.mem_range.mp hb) hag)
      · intro b hb
        rcases List.mem_cons.mp hb with rfl | hb
        · exact Nat.lt_of_lt_of_le (Nat.lt_of_le_of_lt (Nat.sub_le I 1) (Nat.lt_succ_self I)) sz2
        · rw [List.mem_singleton.mp hb]
          exact Nat.sub_lt (Nat.lt_of_le_of_lt (Nat.zero_le _) ltL) Nat.one_pos
end
end
theorem reset_C6 : True := by w_top off; trivial
section
set_option maxRecDepth 100000
theorem args_sum2 (a b : Value) : argsOk "sum" ⟨[a, b], []⟩ := by unfold argsOk; kernel_rfl
section
variable {prog : Program} {w : World} {A : Around} {E : Value → Shared → Prop} {s : Shared}
theorem sum2_walk {x : Value} {t0 : Tok} {Q : Value → Shared → Prop}
    (h : wpAny (model prog w) A.in1 (pyIter x) (fun it s₂ => ∃ I fp wr G n P St val, it = .ref I ∧ WalksS prog w A.in1 I fp wr G n P St ∧ St 0 s₂ ∧ (∀ b ∈ fp, b < s₂.heap.objs.size) ∧
      (∀ i v, P i v → ∃ t, v = .int (val i) t) ∧ (∀ j, j < n → InLong (val j) ∧ InLong (preSum val (j + 1))) ∧
      ∀ s' t', Moved wr G s₂ s' → Q (.int (preSum val n) t') s') E s) :
    wpAny (model prog w) A (call (.builtin "sum") [x, .int 0 t0]) Q E s := by
  refine call_function_tree F.kind_sum F.plain_sum F.entry_sum (args_sum2 _ _) ?_
  unfold Builtin.«sum»
  simp only [List.length_cons, List.length_nil]
  rw [if_neg (by decide)]
  refine wpAny_bind (wpAny_of_eq (show Builtin.Builtins.bindParams "sum" ["start"] 0 ⟨[.int 0 t0], []⟩ = pure [some (.int 0 t0)] from rfl) ?_)
  refine wpAny_bind (wpAny_mono h (fun it s₂ h₂ => ?_) fun _ _ e => e)
  obtain ⟨I, fp, wr, G, n, P, St, val, rfl, W, hst, hfp, hval, hfit, hQ⟩ := h₂
  dsimp only
  rw [if_pos (by first | rfl | decide +kernel)]
  refine wpAny_bind (wpAny_rule (wpAny_bind (wpAny_mkInt (wpAny_bind (wpAny_pure ?_)))))
  simp only [List.forIn_cons, List.forIn_nil]
  refine wpAny_bind (wpAny_bind (wpAny_bind (wpAny_isInstance (T := "int") (b := false) (typeIs_int _ _ _) PySem.sub_int_str ?_)))
  simp only [Bool.false_eq_true, if_false]
  refine wpAny_pure (wpAny_bind (wpAny_bind (wpAny_isInstance (T := "int") (b := false) (typeIs_int _ _ _) sub_int_bytes ?_)))
  simp only [Bool.false_eq_true, if_false]
  refine wpAny_pure (wpAny_bind (wpAny_bind (wpAny_isInstance (T := "int") (b := false) (typeIs_int _ _ _) sub_int_bytearray ?_)))
  simp only [Bool.false_eq_true, if_false]
  refine wpAny_pure (wpAny_pure (wpAny_bind (wpAny_newObj_type ?_)))
  have hSf : s₂.heap.objs.size ∉ fp := fun hm => Nat.lt_irrefl _ (hfp _ hm)
  refine wpAny_pure ⟨plainId_quiet F.plain_sum_loop _, codeAny_sum_loopS W val hval hfit s₂.heap.objs.size hSf n 0 _ s₂.toks 0 rfl (Nat.zero_le _)
    (W.frame 0 s₂ _ _ hst (by first | exact Nat.le_refl _ | exact Nat.le_succ _ | omega) fun b _ o e => Heap.get?_push_of_some _ e) (Heap.get?_push_size _ rfl) fun s' t' hm => ?_⟩
  exact hQ s' t' (hm.drop_new (by first | exact Nat.le_refl _ | exact Nat.le_succ _ | omega))
end
end
section
local macro_rules | `(tactic| walk_at "z") => `(tactic| skip)
local macro_rules | `(tactic| walk_at "z") => `(tactic| skip)
local macro_rules | `(tactic| walk_at "z") => `(tactic| skip)
local macro_rules | `(tactic| walk_at "z") => `(tactic| skip)
local macro_rules | `(tactic| walk_at "z") => `(tactic| skip)
theorem flush_C7 : True ∧ True := by w_top off; (try (walk1; fail)); exact ⟨trivial, trivial⟩
end
section
set_option maxRecDepth 100000
section
variable {prog : Program} {w : World} {A : Around} {E : Value → Shared → Prop} {s : Shared} {L C : Addr} {h₀ g : Heap} {m mg mb : Str → Option Value} {mean : ExcName → Option Value}
  {loose : List Str} {rest : List (Addr × Obj)} {scope : Scope} {cl : List (Str × Addr)} {code : Value} {env : Env} {Q : Value → Shared → Prop}
theorem gen_builtin {x : Str} {pos : Pos} {v : Value} (FF : Fr g C s.heap m) (X : (hd.heap_39 w.params).In g) (T : Top topProg loose mean mg mb g) (e : nsIn (hd.heap_39 w.params) mainGlobals x = some none) (hv : bootBuiltins x = some v) (hn : x ≠ "__name__")
    (hg : env.globals = mainGlobals) (hk : scope.kind = .function) (hx : (genEnv scope cl C code builtinsNs env).kindOf x = some .globalImplicit) (h : Q v s) (hdb : (x == ("__debug__" : Str)) = false := by decide) :
    wpAny (model prog w) A (eval (.Name x pos) (genEnv scope cl C code builtinsNs env)) Q E s :=
  Calls.Name_function_global hk hx (Calls.loadGlobal_builtin (env := genEnv scope cl C code builtinsNs env) (show s.heap.Ns env.globals mg from hg ▸ T.g.keeps FF.keep) (mg_none_of X T.g e) (T.b.keeps FF.keep) ((T.builtins x hn).trans hv) h) hdb
theorem gen_global {x : Str} {pos : Pos} {v : Value} (FF : Fr g C s.heap m) (X : (hd.heap_39 w.params).In g) (T : Top topProg loose mean mg mb g) (e : nsIn (hd.heap_39 w.params) mainGlobals x = some (some v))
    (hg : env.globals = mainGlobals) (hk : scope.kind = .function) (hx : (genEnv scope cl C code builtinsNs env).kindOf x = some .globalImplicit) (h : Q v s) (hdb : (x == ("__debug__" : Str)) = false := by decide) :
    wpAny (model prog w) A (eval (.Name x pos) (genEnv scope cl C code builtinsNs env)) Q E s :=
  Calls.Name_function_global hk hx (Calls.loadGlobal_global (env := genEnv scope cl C code builtinsNs env) (show s.heap.Ns env.globals mg from hg ▸ T.g.keeps FF.keep) (mg_of X T.g e) h) hdb
end
local macro_rules | `(tactic| k_all) => `(tactic| assumption)
local macro_rules | `(tactic| walk_at "eval Name") => `(tactic| (k_here; k_dflt (refine' ldVarG ?k1 ?k2 ?_ ?k3 ?k4; (case k1 => k_asm); (case k2 => assumption); (case k3 => rfl); (case k4 => rfl); k_whole); (try dsimp only)))
local macro_rules | `(tactic| walk_at "eval Name") => `(tactic| (k_here; k_dflt (refine' gen_builtin ?k1 ?k2 ?k3 ?k4 ?k5 ?k6 ?k7 ?k8 ?k9 ?_; (case k1 => k_asm); (case k2 => k_asm); (case k3 => k_asm); (case k7 => rfl); (case k8 => rfl); (case k9 => rfl); (case k4 => k_is); (case k5 => boot_by_name); (case k6 => decide); k_whole); (try dsimp only)))
local macro_rules | `(tactic| walk_at "eval Name") => `(tactic| (k_here; k_dflt (refine' gen_global ?k1 ?k2 ?k3 ?k4 ?k7 ?k8 ?k9 ?_; (case k1 => k_asm); (case k2 => k_asm); (case k3 => k_asm); (case k7 => rfl); (case k8 => rfl); (case k9 => rfl); (case k4 => k_is); k_whole); (try dsimp only)))
section
variable {prog : Program} {w : World} {A A₀ : Around} {E : Value → Shared → Prop} {s : Shared} {L : Addr} {h₀ base : Heap} {m mg mb : Str → Option Value} {mean : ExcName → Option Value}
  {loose : List Str} {news news' rest : List (Addr × Obj)} {env : Env} {outer : List Env} {Q : Value → Shared → Prop}
local macro_rules | `(tactic| walk_at "getAttr ref") => `(tactic| (k_here; k_dflt (refine' acc_get ?X ?F ?N ?hx ?hd ?ha ?hl ?hv ?_; (case X => k_asm); (case F => k_asm); (case N => k_asm); (case hx => assumption); (case hd => assumption); (case ha => k_is); (case hl => k_get); (case hv => k_handed); k_whole)))
theorem code67 (h : Heap) (ps : Array Value) (X : (hd.heap_39 w.params).In h) (hP : h.get? 63 = some (tabO ps)) (ht : TriplesOk ps.toList) : h.IsCode 67 63 ps ∧ h.TableAt 67 63 ps := by
  have e : ∃ o vs file tf flags tg inF text tt, (hd.heap_39 w.params).lookup 67 = some o ∧ o.cls = .type "code" ∧ o.data = .fields vs ∧ vs[11]? = some (.ref 63) ∧ vs.getD 11 .none = .ref 63 ∧ vs.getD 18 .none = .str file tf ∧ vs.getD 7 .none = .int flags tg ∧ vs.getD 9 .none = .bool inF ∧ vs.getD 10 .none = .int text tt := by
    k_dflt (exact ⟨_, _, _, _, _, _, _, _, _, by k_is, rfl, rfl, rfl, rfl, rfl, rfl, rfl, rfl⟩)
  obtain ⟨o, vs, file, tf, flags, tg, inF, text, tt, e1, e2, e3, e4, e5, e6, e7, e8, e9⟩ := e
  exact ⟨⟨o, vs, file, tf, flags, tg, inF, text, tt, _, X _ _ e1, e3, e5, e6, e7, e8, e9, hP, rfl, ht, by decide⟩, ⟨o, vs, X _ _ e1, e2, e3, e4⟩, hP⟩
theorem Gen.later {a : Addr} {n : Nat} {V : Nat → Value → Prop} {h : Heap} {tk tk' : Nat} {gs : Array GenState} (G : Gen prog w A L a n V { s with heap := h, toks := tk, gens := gs }) (hle : tk ≤ tk') : Gen prog w A L a n V { s with heap := h, toks := tk', gens := gs } := by
  obtain ⟨fp, wr, g, St, W, hst, h1, h2, h3, h4⟩ := G
  exact ⟨fp, wr, g, St, W, W.frame 0 _ h tk' hst hle fun _ _ _ e => e, h1, h2, h3, h4⟩
theorem len_spec {x dx : Addr} {items : Array Value} {n : Nat} {tk0 t0 : Tok} {ps : Array Value} {Ts : Nat → Addr} {sa sb : Nat → Str} {ta tb : Nat → Tok}
    (B : Below A₀ base outer h₀) (FF : Fr h₀ L s.heap m) (X : (hd.heap_39 w.params).In h₀) (N : News h₀ L s.heap ((63, tabO ps) :: rest)) (T : Top topProg loose mean mg mb h₀)
    (hA : A.frames = some (env :: outer)) (hf : env.frame = some L) (hke : env.scope.kind = .function) (hroom : A.depth + 20 < recursionLimit) (hh : A.handled = none) (hG : AllBare s.gens)
    (hP : ∀ p ∈ rest, p.1 ≠ 63) (ht : TabOk ⟨26, 19, 26, 63⟩ ps) (hx : (x, accO dx items n) ∈ rest) (hdx : (dx, dictOf [sizeE w tk0 (.int 0 t0)] 1) ∈ rest)
    (hT : ∀ j, j < items.size → items[j]? = some (.ref (Ts j)) ∧ ∃ k, (Ts j, ({ cls := .type "tuple", data := .seq #[.str (sa j) (ta j), .str (sb j) (tb j)] k } : Obj)) ∈ rest)
    (hln : ∀ j, (sa j).length + (sb j).length ≤ 100) (hsz : items.size < 1000)
    (h : ∀ h' tk gs ps' t, TabOk ⟨26, 19, 26, 63⟩ ps' → Fr h₀ L h' m → News h₀ L h' ((63, tabO ps') :: rest) → AllBare gs → Q (.int (preSum (fun i => (sa i).length + (sb i).length) items.size) t) { s with heap := h', toks := tk, gens := gs }) :
    wpAny (model prog w) A (call (.ref 68) [.ref x]) Q E s := by
  refine wpAny_call ?_
  refine' code_def (binds := [("self", .ref x)]) B FF X N T hA hf hke ?k6 ?k7 (by omega) ?k9 ?kB ?_ ?c2 ?c3 ?c4 ?c5
  case k6 => k_dflt k_is
  case k7 => k_dflt k_is
  case k9 => k_dflt (exact BindsTo.of_eq rfl)
  case c5 => decide
  case kB => exact locs rfl
  case c2 => exact rfl
  case c3 => exact rfl
  case c4 => exact rfl
  k_whole; intro g' L' h' FG' F' N' B' X' T'; (try dsimp only); (try k_fold)
  k_steps
  refine acc_genexp (V := fun i y => ∃ t, y = .int ((sa i).length + (sb i).length) t) X' F' T' N' hP ht hG hx hT rfl code67 rfl hh rfl (by rfl) (by decide) rfl rfl rfl (by decide) rfl (by simp only [depth_deeper]; omega) ?_ (fun _ => by with_unfolding_all rfl) ?_ ?_
  · intro Q' hq'
    exact ld F' rfl hq'
  · intro A' E' i s₂ m₂ C code g hA' hi F2 X2 T2 e1 e2
    have l1 := hln i
    k_steps
    all_goals exact ⟨s₂.heap, _, rfl, fun _ _ e => e⟩
  · intro a h2 tk2 gs2 ps2 ht2 F2 N2 Gb2 hL2 hlt2 G2
    (try dsimp only)
    have hx2 : (x, accO dx items n) ∈ (63, tabO ps2) :: rest := .tail _ hx
    have hdx2 : (dx, dictOf [sizeE w tk0 (.int 0 t0)] 1) ∈ (63, tabO ps2) :: rest := .tail _ hdx
    k_steps
    obtain ⟨fp, wr, gg, St, W, hst, _, _, hfp, hwr⟩ := Gen.later G2 (Nat.le_succ tk2)
    have W := W.in4_1
    have hval : ∀ j v, (∃ i, (List.range items.size)[j]? = some i ∧ ∃ t, v = Value.int (((sa i).length : Int) + (sb i).length) t) → ∃ t, v = .int (((sa j).length : Int) + (sb j).length) t := by
      rintro j v ⟨i, hi, hv⟩
      obtain ⟨h1, h2⟩ := List.getElem?_eq_some_iff.mp hi
      simp at h2
      subst h2
      exact hv
    have hps : ∀ k, k ≤ items.size → 0 ≤ preSum (fun i => ((sa i).length : Int) + (sb i).length) k ∧ preSum (fun i => ((sa i).length : Int) + (sb i).length) k ≤ 100 * k := by
      intro k
      induction k with
      | zero => intro _; simp [preSum]
      | succ k ih =>
        intro hk
        have := ih (by omega)
        have l1 := hln k
        simp only [preSum]
        omega
    refine sum2_walk (W.self 0 _ _ _ hst ⟨a, _, _, _, _, _, _, fun i => ((sa i).length : Int) + (sb i).length, rfl, W, hst, hfp, hval, ?_, fun s' t' hm => ?_⟩)
    · intro j hj
      have l1 := hln j
      have l2 := hps (j + 1) (by omega)
      unfold InLong
      dsimp only
      constructor <;> omega
    · have F3 : Fr g' L' s'.heap _ := F2.moved hm fun b hb => Nat.lt_of_le_of_lt hL2 (hwr b hb)
      have N3 : News g' L' s'.heap ((63, tabO ps2) :: rest) := fun p hp => ⟨hm.heap _ _ (fun hmem => Nat.lt_irrefl _ (Nat.lt_of_lt_of_le (hwr _ hmem) (hlt2 p hp))) (N2 p hp).1, (N2 p hp).2⟩
      have Gb3 : AllBare s'.gens := Gb2.movedS hm
      have e : s' = { s with heap := s'.heap, toks := s'.toks, gens := s'.gens } := by
        obtain ⟨a1, a2, a3, a4, a5⟩ := s'
        have := hm.drawn; have := hm.os
        simp only at *
        subst_vars
        rfl
      rw [e]
      generalize s'.heap = h3 at *
      generalize s'.toks = tk3 at *
      generalize s'.gens = gs3 at *
      k_steps
      rename_i kF kN _ _
      exact h _ _ _ _ _ ht2 kF kN Gb3
end
end
section
local macro_rules | `(tactic| walk_at "z") => `(tactic| skip)
local macro_rules | `(tactic| walk_at "z") => `(tactic| skip)
local macro_rules | `(tactic| walk_at "z") => `(tactic| skip)
local macro_rules | `(tactic| walk_at "z") => `(tactic| skip)
local macro_rules | `(tactic| walk_at "z") => `(tactic| skip)
theorem flush_C8 : True ∧ True := by w_top off; (try (walk1; fail)); exact ⟨trivial, trivial⟩
end
section
set_option maxRecDepth 100000
local macro_rules | `(tactic| k_all) => `(tactic| assumption)
local macro_rules | `(tactic| walk_at "eval Name") => `(tactic| (k_here; k_dflt (refine' ldVarG ?k1 ?k2 ?_ ?k3 ?k4; (case k1 => k_asm); (case k2 => assumption); (case k3 => rfl); (case k4 => rfl); k_whole); (try dsimp only)))
local macro_rules | `(tactic| walk_at "eval Name") => `(tactic| (k_here; k_dflt (refine' gen_builtin ?k1 ?k2 ?k3 ?k4 ?k5 ?k6 ?k7 ?k8 ?k9 ?_; (case k1 => k_asm); (case k2 => k_asm); (case k3 => k_asm); (case k7 => rfl); (case k8 => rfl); (case k9 => rfl); (case k4 => k_is); (case k5 => boot_by_name); (case k6 => decide); k_whole); (try dsimp only)))
local macro_rules | `(tactic| walk_at "eval Name") => `(tactic| (k_here; k_dflt (refine' gen_global ?k1 ?k2 ?k3 ?k4 ?k7 ?k8 ?k9 ?_; (case k1 => k_asm); (case k2 => k_asm); (case k3 => k_asm); (case k7 => rfl); (case k8 => rfl); (case k9 => rfl); (case k4 => k_is); k_whole); (try dsimp only)))
section
variable {prog : Program} {w : World} {A A₀ : Around} {E : Value → Shared → Prop} {s : Shared} {L : Addr} {h₀ base : Heap} {m mg mb : Str → Option Value} {mean : ExcName → Option Value}
  {loose : List Str} {news news' rest : List (Addr × Obj)} {env : Env} {outer : List Env} {Q : Value → Shared → Prop}
theorem newTuple_px {vs : List Value} (FF : Fr h₀ L s.heap m) (N : News h₀ L s.heap news) (hsz : vs.length ≤ 1000)
    (h : Fr h₀ L (s.heap.push { cls := .type "tuple", data := .seq vs.toArray }) m → News h₀ L (s.heap.push { cls := .type "tuple", data := .seq vs.toArray }) ((s.heap.objs.size, { cls := .type "tuple", data := .seq vs.toArray }) :: news) → Q (.ref s.heap.objs.size) { s with heap := s.heap.push { cls := .type "tuple", data := .seq vs.toArray } }) :
    wpAny (model prog w) A (newTuple vs) Q E s := wpAny_newObj_type (h (FF.push _) (N.push FF _)) (by show vs.toArray.size ≤ sizeLine; rw [List.size_toArray, sizeLine_eq]; omega)
theorem code74 (h : Heap) (ps : Array Value) (X : (hd.heap_39 w.params).In h) (hP : h.get? 70 = some (tabO ps)) (ht : TriplesOk ps.toList) : h.IsCode 74 70 ps ∧ h.TableAt 74 70 ps := by
  have e : ∃ o vs file tf flags tg inF text tt, (hd.heap_39 w.params).lookup 74 = some o ∧ o.cls = .type "code" ∧ o.data = .fields vs ∧ vs[11]? = some (.ref 70) ∧ vs.getD 11 .none = .ref 70 ∧ vs.getD 18 .none = .str file tf ∧ vs.getD 7 .none = .int flags tg ∧ vs.getD 9 .none = .bool inF ∧ vs.getD 10 .none = .int text tt := by
    k_dflt (exact ⟨_, _, _, _, _, _, _, _, _, by k_is, rfl, rfl, rfl, rfl, rfl, rfl, rfl, rfl⟩)
  obtain ⟨o, vs, file, tf, flags, tg, inF, text, tt, e1, e2, e3, e4, e5, e6, e7, e8, e9⟩ := e
  exact ⟨⟨o, vs, file, tf, flags, tg, inF, text, tt, _, X _ _ e1, e3, e5, e6, e7, e8, e9, hP, rfl, ht, by decide⟩, ⟨o, vs, X _ _ e1, e2, e3, e4⟩, hP⟩
local macro_rules | `(tactic| walk_at "newTuple") => `(tactic| (k_here; k_dflt (refine' newTuple_px ?F ?N ?z ?_; (case F => k_asm); (case N => k_asm); (case z => exact Nat.le_of_ble_eq_true rfl); k_whole); intro F' N'))
theorem str_spec {x dx : Addr} {items : Array Value} {n : Nat} {tk0 t0 : Tok} {ps : Array Value} {Ts : Nat → Addr} {sa sb : Nat → Str} {ta tb : Nat → Tok}
    (B : Below A₀ base outer h₀) (FF : Fr h₀ L s.heap m) (X : (hd.heap_39 w.params).In h₀) (N : News h₀ L s.heap ((70, tabO ps) :: rest)) (T : Top topProg loose mean mg mb h₀)
    (hA : A.frames = some (env :: outer)) (hf : env.frame = some L) (hke : env.scope.kind = .function) (hroom : A.depth + 20 < recursionLimit) (hh : A.handled = none) (hG : AllBare s.gens)
    (hP : ∀ p ∈ rest, p.1 ≠ 70) (ht : TabOk ⟨29, 32, 29, 85⟩ ps) (hx : (x, accO dx items n) ∈ rest)
    (hT : ∀ j, j < items.size → items[j]? = some (.ref (Ts j)) ∧ ∃ k, (Ts j, ({ cls := .type "tuple", data := .seq #[.str (sa j) (ta j), .str (sb j) (tb j)] k } : Obj)) ∈ rest)
    (hln : ∀ j, (sa j).length + (sb j).length ≤ 100) (hsz : items.size < 1000)
    (h : ∀ h' tk gs ps' t, TabOk ⟨29, 32, 29, 85⟩ ps' → Fr h₀ L h' m → News h₀ L h' ((70, tabO ps') :: rest) → AllBare gs → Q (.str (Txt.join "" ((List.range items.size).map fun i => sa i ++ sb i)) t) { s with heap := h', toks := tk, gens := gs }) :
    wpAny (model prog w) A (call (.ref 75) [.ref x]) Q E s := by
  refine wpAny_call ?_
  refine' code_def (binds := [("self", .ref x)]) B FF X N T hA hf hke ?k6 ?k7 (by omega) ?k9 ?kB ?_ ?c2 ?c3 ?c4 ?c5
  case k6 => k_dflt k_is
  case k7 => k_dflt k_is
  case k9 => k_dflt (exact BindsTo.of_eq rfl)
  case c5 => decide
  case kB => exact locs rfl
  case c2 => exact rfl
  case c3 => exact rfl
  case c4 => exact rfl
  k_whole; intro g' L' h' FG' F' N' B' X' T'; (try dsimp only); (try k_fold)
  k_steps
  refine acc_genexp (V := fun i y => ∃ t, y = .str (sa i ++ sb i) t) X' F' T' N' hP ht hG hx hT rfl code74 rfl hh rfl (by rfl) (by decide) rfl rfl rfl (by decide) rfl (by simp only [depth_deeper]; omega) ?_ (fun _ => by with_unfolding_all rfl) ?_ ?_
  · intro Q' hq'
    exact ld F' rfl hq'
  · intro A' E' i s₂ m₂ C code g hA' hi F2 X2 T2 e1 e2
    have l1 := hln i
    have N2 : News g C s₂.heap [] := News.nil
    k_steps
    all_goals exact ⟨_, _, rfl, fun _ _ e => Heap.get?_push_of_some _ e⟩
  · intro a h2 tk2 gs2 ps2 ht2 F2 N2 Gb2 hL2 hlt2 G2
    (try dsimp only)
    k_steps
    have htx : ∀ j v, (∃ i, (List.range items.size)[j]? = some i ∧ ∃ t, v = Value.str (sa i ++ sb i) t) → ∃ t, v = .str (sa j ++ sb j) t := by
      rintro j v ⟨i, hi, hv⟩
      obtain ⟨h1, h2⟩ := List.getElem?_eq_some_iff.mp hi
      simp at h2
      subst h2
      exact hv
    obtain ⟨fp, wr, gg, St, W, hst, hTy, ha, hfp, hwr⟩ := G2
    have W := W.in4_2
    refine SC.joinGen W hTy hst hfp ha (fun j v hv => let ⟨u, e⟩ := htx j v hv; ⟨_, u, e⟩) (fun s' lt hm hacc => ?_) (by rw [sizeLine_eq]; omega)
    have hlen : lt.length = items.size := by simpa [strValues] using hacc.1
    have hl : lt.map (·.1) = (List.range items.size).map fun i => sa i ++ sb i := by
      apply List.ext_getElem
      · simp [hlen]
      · intro j h1 h2
        have hj : j < lt.length := by simpa using h1
        obtain ⟨u, hv⟩ := htx j _ (hacc.2 j (.str lt[j].1 lt[j].2) (by simp [strValues, List.getElem?_eq_getElem hj]))
        injection hv with h3 _
        simp [h3]
    rw [hl]
    refine ⟨joinOk_of ?_, fun t' k => ?_⟩
    · have hsum : ∀ k, k ≤ items.size → (((List.range k).map fun i => sa i ++ sb i).map (·.length)).sum ≤ 100 * k := by
        intro k
        induction k with
        | zero => intro _; simp
        | succ k ih =>
          intro hk
          have := ih (by omega)
          have l1 := hln k
          rw [List.range_succ, List.map_append, List.map_append, List.sum_append]
          simp only [List.map_cons, List.map_nil, List.sum_cons, List.sum_nil, Str.length_append]
          omega
      have := hsum items.size (Nat.le_refl _)
      have e0 : (Str.ofString "").length = 0 := by decide +kernel
      rw [e0]
      omega
    · have F3 : Fr g' L' s'.heap _ := F2.moved hm fun b hb => Nat.lt_of_le_of_lt hL2 (hwr b hb)
      have N3 : News g' L' s'.heap ((70, tabO ps2) :: rest) := fun p hp => ⟨hm.heap _ _ (fun hmem => Nat.lt_irrefl _ (Nat.lt_of_lt_of_le (hwr _ hmem) (hlt2 p hp))) (N2 p hp).1, (N2 p hp).2⟩
      have Gb3 : AllBare s'.gens := Gb2.movedS hm
      have e : ({ s' with toks := k } : Shared) = { s with heap := s'.heap, toks := k, gens := s'.gens } := by
        obtain ⟨a1, a2, a3, a4, a5⟩ := s'
        have := hm.drawn; have := hm.os
        simp only at *
        subst_vars
        rfl
      rw [e]
      generalize s'.heap = h3 at *
      generalize s'.gens = gs3 at *
      k_steps
      rename_i kF kN _ _
      exact h _ _ _ _ _ ht2 kF kN Gb3
end
end
theorem reset_C9 : True := by w_top off; trivial
section
set_option maxRecDepth 100000
section
variable {prog : Program} {w : World} {A A₀ : Around} {E : Value → Shared → Prop} {s : Shared} {L : Addr} {h₀ base : Heap} {m mg mb : Str → Option Value} {mean : ExcName → Option Value}
  {loose : List Str} {news rest : List (Addr × Obj)} {env : Env} {outer : List Env} {Q : Value → Shared → Prop}
theorem acc_len_list {x dx : Addr} {items : Array Value} {n : Nat} {Q : Fin → Shared → Prop} (hx : s.heap.get? x = some (accO dx items n))
    (h : Q (.done (.ret (.int items.size s.toks))) { s with toks := s.toks + 1 }) :
    wpAny (model prog w) A (Builtin.«list.__len__» ⟨[.ref x], []⟩) Q E s := by
  obtain ⟨hp, g, d, tk, os⟩ := s
  unfold Builtin.«list.__len__»
  refine wpAny_bind (wpAny_of_eq (a := (Value.ref x, [])) rfl ?_)
  show wpAny _ A (seqSize x >>= fun k => retInt k) _ _ _
  unfold seqSize
  refine wpAny_bind (wpAny_bind (wpAny_loadPart hx (wpAny_pure ?_)))
  exact wpAny_bind (wpAny_mkInt (wpAny_pure h))
theorem count_spec {x dx : Addr} {items : Array Value} {n : Nat} (hprog : ((prog.main.file : Str) == ("/claim/cut.py" : Str)) = true ∧ (prog.main.scope.names.lookup ("super" : Str)).isSome = false)
    (B : Below A₀ base outer h₀) (FF : Fr h₀ L s.heap m) (X : (hd.heap_39 w.params).In h₀) (N : News h₀ L s.heap news) (T : Top topProg loose mean mg mb h₀)
    (hA : A.frames = some (env :: outer)) (hf : env.frame = some L) (hke : env.scope.kind = .function) (hroom : A.depth + 20 < recursionLimit) (hunits : A.units + 200 < cLine)
    (hxn : (x, accO dx items n) ∈ news) {es : List DictEntry} {k : Nat} (hdx : (dx, dictOf es k) ∈ news)
    (h : ∀ h' tk t, Fr h₀ L h' m → News h₀ L h' news → Q (.int items.size t) { s with heap := h', toks := tk }) :
    wpAny (model prog w) A (call (.ref 98) [.ref x]) Q E s := by
  refine wpAny_call ?_
  refine' ks_code_super (binds := [("self", .ref x)]) B FF X N T hA hf hke ?k6 ?k7 ?k8 ?k9 ?kB ?_ ?c1 ?c2 ?c3 ?c4
  case k6 => k_dflt k_is
  case k7 => k_dflt k_is
  case k8 => omega
  case k9 => k_dflt (exact BindsTo.of_eq rfl)
  case kB => exact locs rfl
  case c1 => decide
  case c2 => exact rfl
  case c3 => exact rfl
  case c4 => exact rfl
  intro g' L' h' FG' F3 N3 B' X' T' l1
  (try dsimp only)
  have I3 : InstAt h' x (accO dx items n) 101 (some (dictOf es k)) := ⟨(N3 _ hxn).1, rfl, rfl, (N3 _ hdx).1⟩
  refine ks_wpAt_execs_cons ?_
  refine ks_wpAt_Return_some ?_
  refine ks_wpAt_MethodCall ?_
  k_dflt (refine ks_node F3 X' N3 T' (by k_is) (by rfl) (by rfl) I3 (by k_is) (by rfl) hprog.1 (by k_is) (by k_is) (by k_is) (by k_is) (by decide) (by rfl) (by rfl) (by rfl) (by rfl) hprog.2 (by first | boot_by_name | rfl | kernel_rfl) ?_)
  intro so h4 F4 N4 l4
  refine super_method own_len (by kernel_rfl) type_list_len (by decide) F4 X' N4 (.tail _ hxn) (.head _) ?_
  intro q h5 F5 N5 l5
  (try dsimp only)
  refine super_callWith (N5 _ (.head _)).1 ?_
  refine super_call (N5 _ (.head _)).1 (bound_len x) (by decide +kernel) F.entry_list_len ?_
  refine acc_len_list (N5 _ (.tail _ (.tail _ hxn))).1 ?_
  (try dsimp only)
  have N6 : News g' L' h5 news := fun p hp => N5 p (.tail _ (.tail _ hp))
  clear N5 N4 N3 F3 F4
  k_steps
  rename_i kF kN _ _
  exact h _ _ _ kF kN
end
end
theorem reset_D0 : True := by w_top off; trivial
section
set_option maxRecDepth 100000
abbrev sliceO (t0 : Tok) : Obj := { cls := .type "slice", data := .fields #[.int 0 t0, .none, .none] }
theorem gi_kind : builtinKind "list.__getitem__" = some .method := by decide +kernel
theorem gi_split : splitId "list.__getitem__" = some ("list", "__getitem__") := by decide +kernel
theorem si_kind : builtinKind "list.__setitem__" = some .slot := by decide +kernel
theorem si_split : splitId "list.__setitem__" = some ("list", "__setitem__") := by decide +kernel
theorem pick_all (items : Array Value) : slicePick items (some 0) none none = items := by
  unfold slicePick
  have hb : sliceBounds (some 0) none none items.size = (0, (items.size : Int), 1) := by
    simp only [sliceBounds, Option.getD_none, show (1 : Int) > 0 from by decide, if_true, show ¬ ((0 : Int) < 0) from by decide, if_false]
    have : max (0 : Int) (min 0 (items.size : Int)) = 0 := by omega
    rw [this]
  rw [hb]
  have hr : sliceRange 0 (items.size : Int) 1 = List.range items.size := by
    unfold sliceRange
    simp only [show (1 : Int) > 0 from by decide, if_true, Int.ediv_one, Int.sub_zero, Int.zero_add, Int.one_mul, Int.toNat_natCast]
    have : (if (0 : Int) < (items.size : Int) then (items.size : Int) + 1 - 1 else 0).toNat = items.size := by split <;> omega
    rw [this]
    simp
  rw [hr]
  apply Array.toList_inj.mp
  simp only
  apply List.ext_getElem?
  intro j
  have : List.filterMap (fun k => items[k]?) (List.range items.size) = items.toList := by
    have e : items.toList = (List.range items.size).map (fun k => items.getD k default) := by
      apply List.ext_getElem
      · simp
      · intro i h1 h2
        have : i < items.size := by simpa using h1
        simp [this]
    rw [e]
    have c : ∀ l : List Nat, (∀ k ∈ l, k < items.size) → List.filterMap (fun k => items[k]?) l = l.map (fun k => items.getD k default) := by
      intro l
      induction l with
      | nil => intro _; rfl
      | cons k r ih =>
        intro hk
        have h1 : k < items.size := hk k (.head _)
        rw [List.filterMap_cons, ih fun q hq => hk q (.tail _ hq)]
        simp [h1]
    exact c _ fun k hk => List.mem_range.mp hk
  rw [this]
section
variable {prog : Program} {w : World} {A : Around} {E : Value → Shared → Prop} {s : Shared} {h : Heap}
theorem lk_getitem (X : (hd.heap_39 w.params).In h) : Looks (model prog w) h (typeLookup (.ref 101) "__getitem__") (some (.builtin "list.__getitem__")) := looks_findIn X (by k_dflt k_is)
theorem lk_setitem (X : (hd.heap_39 w.params).In h) : Looks (model prog w) h (typeLookup (.ref 101) "__setitem__") (some (.builtin "list.__setitem__")) := looks_findIn X (by k_dflt k_is)
theorem lk_seqs (X : (hd.heap_39 w.params).In h) : Looks (model prog w) h (seqItemTypes.anyM fun n => isSubtype (.ref 101) (.type n)) false := anyM_none X (by k_dflt k_is : noSeq (hd.heap_39 w.params) 101 = true)
theorem acc_getslice {x dx sl : Addr} {items : Array Value} {n : Nat} {t0 : Tok} {Q : Value → Shared → Prop} (X : (hd.heap_39 w.params).In s.heap) (hx : s.heap.get? x = some (accO dx items n)) (hsl : s.heap.get? sl = some (sliceO t0)) (hsz : items.size < 1000)
    (h : Q (.ref s.heap.objs.size) { s with heap := s.heap.push { cls := .type "list", data := .seq items } }) : wpAny (model prog w) A (getItem (.ref x) (.ref sl)) Q E s := by
  have T : Looks (model prog w) s.heap (typeOf (.ref x)) (.ref 101) := (Looks.ld hx).andThen .now
  have S : Looks (model prog w) s.heap (specialOf (.ref x) "__getitem__") (some (.builtin "list.__getitem__")) := T.andThen (lk_getitem X)
  have Li : Looks (model prog w) s.heap (isInstance (.ref x) (.type "list")) true := T.andThen (lk_subList X)
  have hTs : s.TypeIs (.ref sl) "slice" := ⟨_, hsl, rfl⟩
  unfold getItem
  refine wpAny_holding ?_
  refine wpAny_bind ?_
  unfold sequenceKey
  refine wpAny_bind (T.here (wpAny_bind ((lk_seqs X).here ?_)))
  rw [if_pos (show (!false) = true from rfl)]
  refine wpAny_pure ?_
  unfold callSpecial?
  refine wpAny_bind (wpAny_bind (S.here (wpAny_holding (wpAny_bind (wpAny_of_eq (slot_list_getitem.bind _) (wpAny_bind ?_))))))
  refine wpAny_call (codeAny_call_builtin slot_list_getitem.plain entry_list_getitem (@check_meth _ _ s (model prog w) "list.__getitem__" "list" "__getitem__" (.ref x) [.ref sl] [] _ gi_kind gi_split Li (args_list_getitem _ _) ?_))
  unfold Builtin.«list.__getitem__»
  refine wpAny_bind (wpAny_of_eq (a := (Value.ref x, Value.ref sl)) rfl ?_)
  refine wpAny_bind ?_
  unfold Builtin.List.listSubscript?
  refine wpAny_bind (wpAny_specialOf hTs slice_no_index ?_)
  simp only [Option.isNone_none, if_true]
  refine wpAny_pure ?_
  show wpAny _ _ (typeOf (.ref sl) >>= _) _ _ s
  refine wpAny_bind (wpAny_typeOf hTs ?_)
  rw [if_neg (by decide), listSliceParts_eq]
  refine wpAny_bind (wpAny_bind (wpAny_field hsl rfl (x := .none) rfl (wpAny_bind (wpAny_listPart IsPart.none ?_))))
  rw [if_neg (show ¬ ((rawPart none == rawInt 0) = true) from Bool.false_ne_true)]
  refine wpAny_bind (wpAny_field hsl rfl (x := .int 0 t0) rfl (wpAny_bind (wpAny_listPart (IsPart.int 0 t0) ?_)))
  refine wpAny_bind (wpAny_field hsl rfl (x := .none) rfl (wpAny_bind (wpAny_listPart IsPart.none (wpAny_pure ?_))))
  refine wpAny_bind (listItems_at hx rfl ?_)
  refine wpAny_bind (wpAny_of_eq (sliceIndices_raw (some 0) none none items.size (by simp)) ?_)
  have hp := pick_all items
  have hsz' : (slicePick items (some 0) none none).size ≤ sizeLine := by rw [hp, sizeLine_eq]; omega
  refine wpAny_bind (wpAny_newObj_type (wpAny_pure (wpAny_pure (wpAny_pure ?_))) hsz')
  show Q _ { s with heap := s.heap.push { cls := .type "list", data := .seq (slicePick items (some 0) none none) } }
  rw [hp]
  exact h
end
end
theorem reset_D2 : True := by w_top off; trivial
section
set_option maxRecDepth 100000
section
variable {prog : Program} {w : World} {A : Around} {E : Value → Shared → Prop} {s : Shared} {h₀ : Heap} {L : Addr} {m : Str → Option Value} {rest : List (Addr × Obj)}
theorem emptied (items : Array Value) : (items.extract 0 0 ++ #[] ++ items.extract items.size items.size) = #[] := by simp
def emptyF (k : Nat) (xs : Array Value) : Array Value := xs.extract 0 (0 : Int).toNat ++ #[] ++ xs.extract (max (0 : Int) k).toNat xs.size
theorem setslice_body {x dx sl e : Addr} {items : Array Value} {n k : Nat} {t0 : Tok} {Q : Fin → Shared → Prop} (hx : s.heap.get? x = some (accO dx items n)) (hsl : s.heap.get? sl = some (sliceO t0)) (he : s.heap.get? e = some (listOf #[] k)) (hex : e ≠ x) (hsz : items.size < 1000)
    (h : Q (.done (.ret .none)) { s with heap := s.heap.update x (Obj.mapSeq (emptyF items.size)) }) : wpAny (model prog w) A (Builtin.«list.__setitem__» ⟨[.ref x, .ref sl, .ref e], []⟩) Q E s := by
  have hTs : s.TypeIs (.ref sl) "slice" := ⟨_, hsl, rfl⟩
  have hTe : s.TypeIs (.ref e) "list" := ⟨_, he, rfl⟩
  unfold Builtin.«list.__setitem__»
  refine wpAny_bind (wpAny_of_eq (a := (Value.ref x, [Value.ref sl, Value.ref e])) rfl ?_)
  refine wpAny_bind ?_
  unfold Builtin.List.listSubscript?
  refine wpAny_bind (wpAny_specialOf hTs slice_no_index ?_)
  simp only [Option.isNone_none, if_true]
  refine wpAny_pure ?_
  refine wpAny_bind (wpAny_typeOf hTs ?_)
  rw [if_neg (by decide), listSliceParts_eq]
  refine wpAny_bind (wpAny_bind (wpAny_field hsl rfl (x := .none) rfl (wpAny_bind (wpAny_listPart IsPart.none ?_))))
  rw [if_neg (show ¬ ((rawPart none == rawInt 0) = true) from Bool.false_ne_true)]
  refine wpAny_bind (wpAny_field hsl rfl (x := .int 0 t0) rfl (wpAny_bind (wpAny_listPart (IsPart.int 0 t0) ?_)))
  refine wpAny_bind (wpAny_field hsl rfl (x := .none) rfl (wpAny_bind (wpAny_listPart IsPart.none (wpAny_pure ?_))))
  have hsr : Builtin.List.listSameRef (.ref x) (.ref e) = false := by simp [Builtin.List.listSameRef, Ne.symm hex]
  rw [hsr, if_neg (by decide)]
  refine wpAny_bind ?_
  unfold Builtin.List.listAllItems
  refine wpAny_bind (wpAny_typeOf hTe ?_)
  rw [if_pos (by decide)]
  refine listItems_at he rfl ?_
  refine wpAny_bind (listItems_at hx rfl ?_)
  refine wpAny_bind (wpAny_of_eq (sliceIndices_raw (some 0) none none items.size (by simp)) ?_)
  have hb : sliceBounds (some 0) none none items.size = (0, (items.size : Int), 1) := by
    simp only [sliceBounds, Option.getD_none, show (1 : Int) > 0 from by decide, if_true, show ¬ ((0 : Int) < 0) from by decide, if_false]
    have : max (0 : Int) (min 0 (items.size : Int)) = 0 := by omega
    rw [this]
  rw [hb]
  dsimp only
  rw [if_pos (by decide)]
  refine wpAny_bind (wpAny_rule ?_)
  rw [if_neg (by simp [Builtin.List.listTooLong, sizeLine_eq]; omega)]
  refine wpAny_bind (show wpAny _ _ (updateSeq x (emptyF items.size)) _ _ _ from wpAny_updateSeq hx rfl ?_ (by rw [sizeLine_eq]; omega) ?_)
  · refine wpAny_bind (wpAny_letGo ?_)
    exact wpAny_pure h
  · unfold emptyF
    rw [show (max (0 : Int) (items.size : Int)).toNat = items.size by omega]
    show (items.extract 0 0 ++ #[] ++ items.extract items.size items.size).size ≤ _
    rw [emptied]
    decide
theorem acc_setslice {x dx sl e : Addr} {items : Array Value} {n k : Nat} {t0 : Tok} {Q : Unit → Shared → Prop} (X₀ : (hd.heap_39 w.params).In h₀) (FF : Fr h₀ L s.heap m) (N : News h₀ L s.heap ((x, accO dx items n) :: rest)) (hne : ∀ p ∈ rest, p.1 ≠ x)
    (hsl : s.heap.get? sl = some (sliceO t0)) (he : s.heap.get? e = some (listOf #[] k)) (hex : e ≠ x) (hsz : items.size < 1000)
    (h : ∀ h' n', Fr h₀ L h' m → News h₀ L h' ((x, accO dx #[] n') :: rest) → Q () { s with heap := h' }) : wpAny (model prog w) A (setItem (.ref x) (.ref sl) (.ref e)) Q E s := by
  have X := X₀.keeps FF.keep
  have hx := (N _ (.head _)).1
  have T : Looks (model prog w) s.heap (typeOf (.ref x)) (.ref 101) := (Looks.ld hx).andThen .now
  have S : Looks (model prog w) s.heap (specialOf (.ref x) "__setitem__") (some (.builtin "list.__setitem__")) := T.andThen (lk_setitem X)
  have Li : Looks (model prog w) s.heap (isInstance (.ref x) (.type "list")) true := T.andThen (lk_subList X)
  have hf : emptyF items.size items = #[] := by
    unfold emptyF
    rw [show (max (0 : Int) (items.size : Int)).toNat = items.size by omega]
    exact emptied items
  have ef : Obj.mapSeq (emptyF items.size) (accO dx items n) = accO dx #[] (if (#[] : Array Value).size == items.size then n else n + 1) := by
    show (⟨_, _, .seq (emptyF items.size items) (if (emptyF items.size items).size == items.size then n else n + 1), _⟩ : Obj) = _
    rw [hf]
  obtain ⟨U1, U2⟩ := news_upd (f := Obj.mapSeq (emptyF items.size)) (pre := []) FF N (by simp) hne ef rfl
  have U3 := h _ _ U1 U2
  unfold setItem
  refine wpAny_holding ?_
  refine wpAny_bind ?_
  unfold sequenceKey
  refine wpAny_bind (T.here (wpAny_bind ((lk_seqs X).here ?_)))
  rw [if_pos (show (!false) = true from rfl)]
  refine wpAny_pure ?_
  unfold callSpecial?
  refine wpAny_bind (wpAny_bind (S.here (wpAny_holding (wpAny_bind (wpAny_of_eq (slot_list_setitem.bind _) (wpAny_bind ?_))))))
  refine wpAny_call (codeAny_call_builtin slot_list_setitem.plain entry_list_setitem (@check_slot (model prog w) _ _ _ "list.__setitem__" "list" "__setitem__" (.ref x) [.ref sl, .ref e] [] _ si_kind si_split Li (args_list_setitem _ _ _) ?_))
  refine setslice_body hx hsl he hex hsz ?_
  exact wpAny_pure (wpAny_pure U3)
end
end
theorem reset_D3 : True := by w_top off; trivial
section
set_option maxRecDepth 100000
local macro_rules | `(tactic| k_all) => `(tactic| assumption)
section
variable {prog : Program} {w : World} {A A₀ : Around} {E : Value → Shared → Prop} {s : Shared} {L : Addr} {h₀ base : Heap} {m mg mb : Str → Option Value} {mean : ExcName → Option Value}
  {loose : List Str} {news rest : List (Addr × Obj)} {env : Env} {outer : List Env} {Q : Value → Shared → Prop}
theorem acc_subslice {x dx sl : Addr} {items : Array Value} {n : Nat} {t0 : Tok} {nm : Str} {np : Pos} {lo up : Option PySem.Expr} {p : Pos} (X : (hd.heap_39 w.params).In s.heap) (hx : s.heap.get? x = some (accO dx items n)) (hsl : s.heap.get? sl = some (sliceO t0)) (hsz : items.size < 1000)
    (h : Q (.ref s.heap.objs.size) { s with heap := s.heap.push { cls := .type "list", data := .seq items } }) : wpAny (model prog w) A (subscriptTail (.Name nm np) (.Slice lo up none p) (.ref x) (.ref sl)) Q E s := by
  have T : Looks (model prog w) s.heap (typeOf (.ref x)) (.ref 101) := (Looks.ld hx).andThen .now
  have S : Looks (model prog w) s.heap (specialOf (.ref x) "__getitem__") (some (.builtin "list.__getitem__")) := T.andThen (lk_getitem X)
  unfold subscriptTail getitemInPython
  refine wpAny_bind (wpAny_bind (S.here (wpAny_pure (wpAny_bind ?_))))
  show wpAny _ _ (operate [.ref sl, .ref x] (getItem (.ref x) (.ref sl))) _ _ _
  refine wpAny_operating (acc_getslice X hx hsl hsz ?_)
  exact wpAny_bind (wpAny_pure (wpAny_pure h))
theorem popfrom_spec {x dx : Addr} {items : Array Value} {n : Nat} {t0 : Tok}
    (B : Below A₀ base outer h₀) (FF : Fr h₀ L s.heap m) (X : (hd.heap_39 w.params).In h₀) (N : News h₀ L s.heap ((x, accO dx items n) :: rest)) (T : Top topProg loose mean mg mb h₀)
    (hA : A.frames = some (env :: outer)) (hf : env.frame = some L) (hke : env.scope.kind = .function) (hroom : A.depth + 20 < recursionLimit) (hunits : A.units + 200 < cLine)
    (hne : ∀ p ∈ rest, p.1 ≠ x) (hsz : items.size < 1000)
    (h : ∀ p h' tk n', Fr h₀ L h' m → News h₀ L h' ((p, listOf items 0) :: (x, accO dx #[] n') :: rest) → x < p → (∀ q ∈ rest, q.1 < p) → Q (.ref p) { s with heap := h', toks := tk }) :
    wpAny (model prog w) A (call (.ref 53) [.ref x, .int 0 t0]) Q E s := by
  refine wpAny_call ?_
  refine' code_def (binds := [("self", .ref x), ("i", .int 0 t0)]) B FF X N T hA hf hke ?k6 ?k7 (by omega) ?k9 ?kB ?_ ?c2 ?c3 ?c4 ?c5
  case k6 => k_dflt k_is
  case k7 => k_dflt k_is
  case k9 => k_dflt (exact binds_K (X.keeps FF.keep) rfl (by k_is) rfl rfl rfl)
  case c5 => decide
  case kB => exact locs rfl
  case c2 => exact rfl
  case c3 => exact rfl
  case c4 => exact rfl
  k_whole; intro g' L' h1 FG' F1 N1 B' X' T'; (try dsimp only); (try k_fold)
  k_steps
  have F2 := F1.push (sliceO t0)
  have N2 : News g' L' (h1.push (sliceO t0)) ((h1.objs.size, sliceO t0) :: (x, accO dx items n) :: rest) := N1.push F1 _
  have l2 : ∀ q ∈ (x, accO dx items n) :: rest, q.1 < h1.objs.size := fun q hq => Heap.lt_size (N1 q hq).1
  (try dsimp only)
  generalize h1.push (sliceO t0) = h2 at *
  refine acc_subslice (X'.keeps F2.keep) (N2 _ (.tail _ (.head _))).1 (N2 _ (.head _)).1 hsz ?_
  have F3 := F2.push ({ cls := .type "list", data := .seq items } : Obj)
  have N3 : News g' L' (h2.push { cls := .type "list", data := .seq items }) ((h2.objs.size, listOf items 0) :: (x, accO dx items n) :: rest) := (show News g' L' h2 ((x, accO dx items n) :: rest) from fun q hq => N2 q (.tail _ hq)).push F2 _
  have l3 : ∀ q ∈ (x, accO dx items n) :: rest, q.1 < h2.objs.size := fun q hq => Heap.lt_size (N2 q (.tail _ hq)).1
  (try dsimp only)
  generalize h2.push { cls := .type "list", data := .seq items } = h3 at *
  generalize h2.objs.size = p at *
  clear F1 N1 F2 N2
  k_steps
  (try dsimp only)
  rename_i h4 e h5 F5 N5 l5
  have F6 := F5.push (sliceO t0)
  have N6 := N5.push F5 (sliceO t0)
  (try dsimp only)
  generalize h5.push (sliceO t0) = h6 at *
  have lp : x < p := l3 _ (.head _)
  have lr : ∀ q ∈ rest, q.1 < p := fun q hq => l3 q (.tail _ hq)
  have N7 : News g' L' h6 ((x, accO dx items n) :: (p, listOf items 0) :: rest) := fun q hq => by
    rcases List.mem_cons.mp hq with rfl | hq
    · exact N6 _ (.tail _ (.tail _ (.tail _ (.head _))))
    · rcases List.mem_cons.mp hq with rfl | hq
      · exact N6 _ (.tail _ (.tail _ (.head _)))
      · exact N6 _ (.tail _ (.tail _ (.tail _ (.tail _ hq))))
  refine acc_setslice (k := 0) X' F6 N7 ?_ (N6 _ (.head _)).1 (N6 _ (.tail _ (.head _))).1 (Nat.ne_of_gt l5.2.1) hsz ?_
  · intro q hq
    rcases List.mem_cons.mp hq with rfl | hq
    · exact Nat.ne_of_gt lp
    · exact hne q hq
  intro h8 n8 F8 N8
  have N9 : News g' L' h8 ((p, listOf items 0) :: (x, accO dx #[] n8) :: rest) := fun q hq => by
    rcases List.mem_cons.mp hq with rfl | hq
    · exact N8 _ (.tail _ (.head _))
    · rcases List.mem_cons.mp hq with rfl | hq
      · exact N8 _ (.head _)
      · exact N8 _ (.tail _ (.tail _ hq))
  clear N5 F5 N6 F6 N7 N8
  (try dsimp only)
  k_steps
  rename_i kF kN _ _
  exact h _ _ _ _ kF kN lp lr
end
end
section
local macro_rules | `(tactic| walk_at "z") => `(tactic| skip)
local macro_rules | `(tactic| walk_at "z") => `(tactic| skip)
theorem flush_U1 : True ∧ True := by w_top off; (try (walk1; fail)); exact ⟨trivial, trivial⟩
end
section
set_option maxRecDepth 100000
local macro_rules | `(tactic| k_all) => `(tactic| assumption)
local macro_rules | `(tactic| walk_at "exec While Name cons nil") => `(tactic| refine halt ?_)
def strOf : Value → Str
  | .str s _ => s
  | _ => ""
def IsStr (v : Value) : Prop := ∃ s t, v = .str s t
def uldP : List Str → List Str → List Str → List Str × List Str
  | [], act, mis => (mis, act)
  | y :: r, act, mis => if y ∈ act then uldP r (act.eraseIdx (act.idxOf y)) mis else uldP r act (mis ++ [y])
theorem nil_or_snoc {α} (l : List α) : l = [] ∨ ∃ i y, l = i ++ [y] := by
  rcases List.eq_nil_or_concat l with h | ⟨i, y, h⟩
  · exact .inl h
  · exact .inr ⟨i, y, by rw [h, List.concat_eq_append]⟩
theorem allNe_of {L : Addr} : ∀ {l : List (Addr × Obj)}, (∀ p ∈ l, p.1 ≠ L) → TLg.AllNe L l
  | [], _ => trivial
  | p :: r, h => ⟨h p (.head _), allNe_of fun q hq => h q (.tail _ hq)⟩
theorem eqStr {x y : Value} (hx : IsStr x) (hy : IsStr y) : MeetsSeq.EqGives y x (strOf y == strOf x) := by
  obtain ⟨s, t, rfl⟩ := hx
  obtain ⟨s', t', rfl⟩ := hy
  have := SeqRoads2.EqGives.str s' s t' t
  have e : (s'.cps.toList == s.cps.toList) = (strOf (.str s' t') == strOf (.str s t)) := by
    show _ = (s' == s)
    by_cases q : s' = s
    · subst q; simp
    · have q2 : s'.cps.toList ≠ s.cps.toList := fun z => q (by cases s'; cases s; congr; exact Array.toList_inj.mp z)
      rw [beq_eq_false_iff_ne.mpr q, beq_eq_false_iff_ne.mpr q2]
  rw [← e]; exact this
section
variable {prog : Program} {w : World} {A : Around} {E : Value → Shared → Prop} {s : Shared} {h₀ : Heap} {L : Addr} {m : Str → Option Value} {news news' : List (Addr × Obj)}
theorem popLU {l : Addr} {init : List Value} {y : Value} {n : Nat} {Q : Value → Shared → Prop} (F : Fr h₀ L s.heap m) (N : News h₀ L s.heap news) (U : Upd l (listOf (init ++ [y]).toArray n) (listOf init.toArray (n + 1)) news news')
    (hz : init.length < 10000) (h : ∀ h', Fr h₀ L h' m → News h₀ L h' news' → Q y { s with heap := h' }) : wpAny (model prog w) A (call (.builtin "list.pop") [.ref l]) Q E s :=
  kl_pop F N (by simpa using kpa_last y init) U (by rw [sizeLine_eq]; simp; omega) h
theorem appendLU {l : Addr} {xs : List Value} {y : Value} {n : Nat} {Q : Value → Shared → Prop} (F : Fr h₀ L s.heap m) (N : News h₀ L s.heap news) (U : Upd l (listOf xs.toArray n) (listOf (xs ++ [y]).toArray (n + 1)) news news')
    (hz : xs.length < 10000) (h : ∀ h', Fr h₀ L h' m → News h₀ L h' news' → Q .none { s with heap := h' }) : wpAny (model prog w) A (call (.builtin "list.append") [.ref l, y]) Q E s :=
  append_K (its := xs.toArray) F N (by simpa using U) h (by rw [sizeLine_eq]; simp; omega)
theorem remHit {l : Addr} {xs : List Value} {y : Value} {n : Nat} {Q : Value → Shared → Prop} (F : Fr h₀ L s.heap m) (N : News h₀ L s.heap news)
    (hy : IsStr y) (hxs : ∀ v ∈ xs, IsStr v) (hin : strOf y ∈ xs.map strOf)
    (U : Upd l (listOf xs.toArray n) (listOf (xs.eraseIdx ((xs.map strOf).idxOf (strOf y))).toArray (n + 1)) news news')
    (hz : xs.length < 10000) (h : ∀ h', Fr h₀ L h' m → News h₀ L h' news' → Q .none { s with heap := h' }) : wpAny (model prog w) A (call (.builtin "list.remove") [.ref l, y]) Q E s := by
  obtain ⟨pre, post, rfl, rfl, a', b'⟩ := U.split
  have z := N (l, listOf xs.toArray n) (List.mem_append.mpr (.inr (.head _)))
  have hj : (xs.map strOf).idxOf (strOf y) < xs.length := by simpa using List.idxOf_lt_length_of_mem hin
  have hit : strOf xs[(xs.map strOf).idxOf (strOf y)] = strOf y := by
    have := List.getElem_idxOf (List.idxOf_lt_length_of_mem hin)
    rw [List.getElem_map] at this; exact this
  refine call_meets PySem.F.slot_list_remove ⟨_, z.1, rfl⟩ PySem.F.entry_list_remove (PySem.F.args_list_remove_2 _ _)
    (MeetsSeq.list_remove l xs.toArray n y (fun v => strOf v == strOf y) (fun v hv => eqStr hy (hxs v (by simpa using hv))) _ (by simpa using hj) (by simpa using hit) (fun i hi hlt => ?_) (by rw [sizeLine_eq]; simp; omega))
    ⟨z.1, h _ (F.change (Heap.SameBut.update ..) z.2.1 z.2.2) (ki_turn _ N a' b' ?_ ?_)⟩
  · have := List.not_of_lt_findIdx (p := (· == strOf y)) (xs := xs.map strOf) hlt
    simpa using this
  · show xs.toArray.eraseIdxIfInBounds _ = _
    apply Array.toList_inj.mp
    simp [Array.toList_eraseIdxIfInBounds]
  · have hq : (xs.eraseIdx ((xs.map strOf).idxOf (strOf y))).length ≠ xs.length := by rw [List.length_eraseIdx]; split <;> omega
    rw [if_neg (by simpa using hq)]
theorem remMiss {l : Addr} {xs : List Value} {y : Value} {n : Nat} {Q : Value → Shared → Prop} (N : News h₀ L s.heap news) (hm : (l, listOf xs.toArray n) ∈ news)
    (hy : IsStr y) (hxs : ∀ v ∈ xs, IsStr v) (hin : strOf y ∉ xs.map strOf) (hh : A.handled = none)
    (h : ∀ h' tk e, Heap.NewExc s.heap h' e "ValueError" → E (.ref e) { s with heap := h', toks := tk }) : wpAny (model prog w) A (call (.builtin "list.remove") [.ref l, y]) Q E s := by
  refine call_meets PySem.F.slot_list_remove ⟨_, (N _ hm).1, rfl⟩ PySem.F.entry_list_remove (PySem.F.args_list_remove_2 _ _)
    (MeetsSeq.list_remove_none l xs.toArray n y (fun v => strOf v == strOf y) (fun v hv => eqStr hy (hxs v (by simpa using hv))) (fun i hi => ?_))
    ⟨(N _ hm).1, hh, fun h' tk e hx => h h' tk e hx⟩
  have : strOf xs.toArray[i] ≠ strOf y := fun q => hin (by rw [← q]; simp; exact ⟨_, List.getElem_mem (by simpa using hi), rfl⟩)
  simpa using this
end
end
theorem reset_S2 : True := by w_top off; trivial
theorem fill2 : Challenge.rw_oy0082_01.name = Challenge.rw_oy0082_01.name ∧ hd.heap_39 = hd.heap_39 := by k_fill; exact ⟨rfl, rfl⟩
section
variable {prog : Program} {w : World} {A : Around} {E : Value → Shared → Prop} {s : Shared} {h₀ : Heap} {L : Addr} {m : Str → Option Value} {news rest : List (Addr × Obj)}
theorem lenL {l : Addr} {vs : List Value} {n : Nat} {Q : Value → Shared → Prop} (N : News h₀ L s.heap news) (hm : (l, listOf vs.toArray n) ∈ news) (hfit : (vs.length : Int) < 2 ^ 63)
    (h : ∀ t tk, Q (.int vs.length t) { s with toks := tk }) : wpAny (model prog w) A (call (.builtin "len") [.ref l]) Q E s :=
  have hl : s.heap.IsList l vs.toArray := PySem.IsL.isList (n := n) (N _ hm).1
  len_list hl (by simpa using hfit) (by simpa using h _ _)
end
local macro_rules | `(tactic| walk_at "call builtin:len") => `(tactic| (k_here; (with_reducible show wpAny _ _ (call (Value.builtin "len") [Value.ref _]) _ _ _); k_dflt (refine' lenL ?k1 ?k2 ?k3 ?_; (case k1 => k_asm); (case k2 => k_mem); (case k3 => omega); k_whole); intro t' tk'))
section
variable {prog : Program} {w : World} {A A₀ : Around} {E : Value → Shared → Prop} {s : Shared} {L : Addr} {h₀ base : Heap} {m mg mb : Str → Option Value} {mean : ExcName → Option Value}
  {loose : List Str} {rest : List (Addr × Obj)} {env : Env} {outer : List Env} {Q : Value → Shared → Prop}

theorem siftup_spec {l : Addr} {vs : List Value} {n : Nat} {key : Value → Int × Int} {pos : Nat} {tp : Tok}
    (B : Below A₀ base outer h₀) (F : Fr h₀ L s.heap m) (X : (hd.heap_39 w.params).In h₀) (N : News h₀ L s.heap ((l, listOf vs.toArray n) :: rest)) (T : Top topProg loose mean mg mb h₀)
    (hA : A.frames = some (env :: outer)) (hf : env.frame = some L) (hke : env.scope.kind = .function) (hroom : A.depth + 10 < recursionLimit) (hunits : A.units + 200 < cLine)
    (hne : ∀ p ∈ rest, p.1 ≠ l) (hk : Keyed rest key vs) (hp : pos < vs.length) (hsz : vs.length < 1000)
    (h : ∀ h' tk, Fr h₀ L h' m → News h₀ L h' ((l, listOf (siftup (ltK key) vs pos).toArray n) :: rest) → Q .none { s with heap := h', toks := tk }) :
    wpAny (model prog w) A (call (.ref 140) [.ref l, .int pos tp]) Q E s := by
  refine wpAny_call ?_
  refine' code_def (binds := [("heap", .ref l), ("pos", .int pos tp)]) B F X N T hA hf hke ?k6 ?k7 (by omega) ?k9 ?kB ?_ ?c2 ?c3 ?c4 ?c5
  case k6 => k_dflt k_is
  case k7 => k_dflt k_is
  case k9 => k_dflt (exact BindsTo.of_eq rfl)
  case c5 => decide
  case kB => exact locs rfl
  case c2 => exact rfl
  case c3 => exact rfl
  case c4 => exact rfl
  k_whole; intro g' L' h' FG' F' N' B' X' T'; (try dsimp only); (try k_fold)
  k_steps
  unfold Halt
  rename_i h₁ F₁ N₁
  refine While_inv2 (fun k m₁ news₁ => ∃ (p : Nat) (vs' : List Value) (t1 t2 t3 t4 : Tok) (c P : Int), k = vs.length - p ∧ p < vs.length ∧ vs'.length = vs.length ∧ (∀ v ∈ vs', v ∈ vs) ∧ news₁ = (l, listOf vs'.toArray n) :: rest ∧
    m₁ "heap" = some (.ref l) ∧ m₁ "endpos" = some (.int vs.length t1) ∧ m₁ "startpos" = some (.int pos t2) ∧ m₁ "pos" = some (.int P t3) ∧ P = p ∧ m₁ "childpos" = some (.int c t4) ∧ c = 2 * p + 1 ∧ m₁ "newitem" = some (vs.getD pos default) ∧
    su (ltK key) vs' p = su (ltK key) vs pos) (n₀ := vs.length - pos) F₁ N₁ ⟨pos, vs, _, _, _, _, _, _, rfl, hp, rfl, fun _ h => h, rfl, rfl, rfl, rfl, rfl, rfl, rfl, rfl, rfl, rfl⟩ ?_
  rintro k m₁ news₁ h₂ tk₂ F₂ N₂ ⟨p, vs', t1, t2, t3, t4, c, P, hk', hp', hl', hmem, rfl, e1, e2, e3, e4, rfl, e5, hc, e6, e7⟩
  clear F₁ N₁ N F
  (try dsimp only); k_fold
  k_steps
  · rename_i hlt _ _ h1 h2 _ _ _ _ _ F3 N3
    have hch : childOf (ltK key) vs' (2 * p + 1) = 2 * p + 1 := by
      unfold childOf
      rw [show c.toNat = 2 * p + 1 by omega, show (c + 1).toNat = 2 * p + 1 + 1 by omega] at h2
      rw [if_neg (by rw [h2]; simp)]
    refine ws_go (.inl rfl) F3 N3 (n' := vs.length - (2 * p + 1)) (by omega) ⟨2 * p + 1, _, t1, t2, _, _, _, _, rfl, by omega, by rw [List.length_set]; exact hl', ?_, rfl, e1, e2, e3, rfl, by omega, rfl, by omega, e6, ?_⟩
    · intro v hv
      rcases mem_set' hv with hv | rfl
      · exact hmem v hv
      · exact hmem _ (getD_mem (by omega))
    · rw [← e7, su.eq_1 (ltK key) vs' p, dif_pos (by omega), hch, Int.toNat_natCast, show c.toNat = 2 * p + 1 by omega]
  · rename_i hlt _ _ h1 h2 _ _ _ _ _ _ _ F3 N3
    have hch : childOf (ltK key) vs' (2 * p + 1) = 2 * p + 1 + 1 := by
      unfold childOf
      rw [show c.toNat = 2 * p + 1 by omega, show (c + 1).toNat = 2 * p + 1 + 1 by omega] at h2
      rw [if_pos ⟨by omega, h2⟩]
    refine ws_go (.inl rfl) F3 N3 (n' := vs.length - (2 * p + 1 + 1)) (by omega) ⟨2 * p + 1 + 1, _, t1, t2, _, _, _, _, rfl, by omega, by rw [List.length_set]; exact hl', ?_, rfl, e1, e2, e3, rfl, by omega, rfl, by omega, e6, ?_⟩
    · intro v hv
      rcases mem_set' hv with hv | rfl
      · exact hmem v hv
      · exact hmem _ (getD_mem (by omega))
    · rw [← e7, su.eq_1 (ltK key) vs' p, dif_pos (by omega), hch, Int.toNat_natCast, show (c + 1).toNat = 2 * p + 1 + 1 by omega]
  · rename_i hlt _ _ h1 _ _ _ _ _ F3 N3
    have hch : childOf (ltK key) vs' (2 * p + 1) = 2 * p + 1 := by
      unfold childOf
      rw [if_neg (by omega)]
    refine ws_go (.inl rfl) F3 N3 (n' := vs.length - (2 * p + 1)) (by omega) ⟨2 * p + 1, _, t1, t2, _, _, _, _, rfl, by omega, by rw [List.length_set]; exact hl', ?_, rfl, e1, e2, e3, rfl, by omega, rfl, by omega, e6, ?_⟩
    · intro v hv
      rcases mem_set' hv with hv | rfl
      · exact hmem v hv
      · exact hmem _ (getD_mem (by omega))
    · rw [← e7, su.eq_1 (ltK key) vs' p, dif_pos (by omega), hch, Int.toNat_natCast, show c.toNat = 2 * p + 1 by omega]
  · rename_i hlt _ F3 N3
    have e8 : su (ltK key) vs pos = (vs', p) := by rw [← e7, su, dif_neg (by omega)]
    rw [Int.toNat_natCast] at N3
    have hx : vs.getD pos default ∈ vs := getD_mem hp
    refine siftdown_spec (key := key) B' F3 X' N3 T' (Around.frames_deeper hA) rfl rfl (by simp only [depth_deeper]; omega) (by simp only [Around.deeper_units]; omega) hne ?_ (by rw [List.length_set]; omega) (by rw [List.length_set]; omega) ?_
    · refine hk.mono (fun v hv => ?_) fun _ h => h
      rcases mem_set' hv with hv | rfl
      · exact hmem v hv
      · exact hx
    intro h4 tk4 F4 N4
    have e9 : sd (ltK key) (vs'.set p (vs.getD pos default)) pos p ((vs'.set p (vs.getD pos default)).getD p default) = siftup (ltK key) vs pos := by
      unfold siftup
      rw [e8]
      have : (vs'.set p (vs.getD pos default)).getD p default = vs.getD pos default := by
        rw [List.getD_eq_getElem?_getD, List.getElem?_set_self (by omega)]; rfl
      rw [this]
    rw [e9] at N4
    (try dsimp only)
    k_steps
    rename_i kF kN _ _
    exact h _ _ kF kN
end

theorem reset_S3 : True := by w_top off; trivial
def hpop {α : Type} [Inhabited α] (lt : α → α → Bool) (init : List α) (y : α) : α × List α :=
  if 0 < init.length then (init.getD 0 default, siftup lt (init.set 0 y) 0) else (y, init)
section
variable {prog : Program} {w : World} {A : Around} {E : Value → Shared → Prop} {s : Shared} {h₀ : Heap} {L : Addr} {m : Str → Option Value} {news rest : List (Addr × Obj)}
theorem popL {l : Addr} {init : List Value} {y : Value} {n : Nat} {Q : Value → Shared → Prop} (F : Fr h₀ L s.heap m) (N : News h₀ L s.heap ((l, listOf (init ++ [y]).toArray n) :: rest)) (hne : ∀ p ∈ rest, p.1 ≠ l)
    (hz : (init ++ [y]).length < 10000)
    (h : ∀ h' n', Fr h₀ L h' m → News h₀ L h' ((l, listOf init.toArray n') :: rest) → Q y { s with heap := h' }) : wpAny (model prog w) A (call (.builtin "list.pop") [.ref l]) Q E s :=
  kl_pop F N (by simpa using kpa_last y init) (Upd.head hne) (by rw [sizeLine_eq]; simpa using (by omega : (init ++ [y]).length ≤ 16777216)) fun h' F' N' => h h' _ F' N'
theorem truthyL {l : Addr} {vs : List Value} {n : Nat} {Q : Bool → Shared → Prop} (N : News h₀ L s.heap news) (hm : (l, listOf vs.toArray n) ∈ news) (hfit : (vs.length : Int) < 2 ^ 63)
    (h : ∀ tk, Q (decide (0 < vs.length)) { s with toks := tk }) : wpAny (model prog w) A (truthy (.ref l)) Q E s :=
  have hl : s.heap.IsList l vs.toArray := PySem.IsL.isList (n := n) (N _ hm).1
  wpAny_truthy_list hl (by simpa using hfit) (by
    have e : (!vs.toArray.isEmpty) = decide (0 < vs.length) := by cases vs <;> simp
    rw [e]; exact h _)
end
local macro_rules | `(tactic| walk_at "call builtin:list.pop") => `(tactic| (k_here; (with_reducible show wpAny _ _ (call (Value.builtin _) [Value.ref _]) _ _ _); k_dflt (refine' popL ?F ?N ?h ?z ?_; (case F => k_asm); (case N => k_asm); (case h => k_asm); (case z => omega); k_whole); intro h' n' F' N'))
local macro_rules | `(tactic| walk_at "truthy ref") => `(tactic| (k_here; (with_reducible show wpAny _ _ (truthy (Value.ref _)) _ _ _); k_dflt (refine' truthyL ?k1 ?k2 ?k3 ?_; (case k1 => k_asm); (case k2 => k_mem); (case k3 => omega); k_whole); intro tk'))
section
variable {prog : Program} {w : World} {A A₀ : Around} {E : Value → Shared → Prop} {s : Shared} {L : Addr} {h₀ base : Heap} {m mg mb : Str → Option Value} {mean : ExcName → Option Value}
  {loose : List Str} {rest : List (Addr × Obj)} {env : Env} {outer : List Env} {Q : Value → Shared → Prop}

theorem heappop_spec {l : Addr} {init : List Value} {y : Value} {n : Nat} {key : Value → Int × Int}
    (B : Below A₀ base outer h₀) (F : Fr h₀ L s.heap m) (X : (hd.heap_39 w.params).In h₀) (N : News h₀ L s.heap ((l, listOf (init ++ [y]).toArray n) :: rest)) (T : Top topProg loose mean mg mb h₀)
    (hA : A.frames = some (env :: outer)) (hf : env.frame = some L) (hke : env.scope.kind = .function) (hroom : A.depth + 20 < recursionLimit) (hunits : A.units + 300 < cLine)
    (hne : ∀ p ∈ rest, p.1 ≠ l) (hk : Keyed rest key (init ++ [y])) (hsz : (init ++ [y]).length < 1000)
    (h : ∀ h' tk n', Fr h₀ L h' m → News h₀ L h' ((l, listOf (hpop (ltK key) init y).2.toArray n') :: rest) → Q (hpop (ltK key) init y).1 { s with heap := h', toks := tk }) :
    wpAny (model prog w) A (call (.ref 112) [.ref l]) Q E s := by
  have hsz' : init.length + 1 < 1000 := by simpa using hsz
  refine wpAny_call ?_
  refine' code_def (binds := [("heap", .ref l)]) B F X N T hA hf hke ?k6 ?k7 (by omega) ?k9 ?kB ?_ ?c2 ?c3 ?c4 ?c5
  case k6 => k_dflt k_is
  case k7 => k_dflt k_is
  case k9 => k_dflt (exact BindsTo.of_eq rfl)
  case c5 => decide
  case kB => exact locs rfl
  case c2 => exact rfl
  case c3 => exact rfl
  case c4 => exact rfl
  k_whole; intro g' L' h' FG' F' N' B' X' T'; (try dsimp only); (try k_fold)
  k_steps
  · rename_i hlt _ _ _ _ F3 N3
    have hy : y ∈ init ++ [y] := by simp
    have hin : ∀ v ∈ init, v ∈ init ++ [y] := fun v hv => by simp [hv]
    refine siftup_spec (key := key) (pos := 0) B' F3 X' N3 T' (Around.frames_deeper hA) rfl rfl (by simp only [depth_deeper]; omega) (by simp only [Around.deeper_units]; omega) hne ?_ (by rw [List.length_set]; omega) (by rw [List.length_set]; omega) ?_
    · refine hk.mono (fun v hv => ?_) fun _ h => h
      rcases mem_set' hv with hv | rfl
      · exact hin v hv
      · exact hy
    intro h4 tk4 F4 N4
    (try dsimp only)
    k_steps
    rename_i kF kN _ _
    have e : hpop (ltK key) init y = (init.getD 0 default, siftup (ltK key) (init.set 0 y) 0) := if_pos hlt
    rw [e] at h
    exact h _ _ _ kF kN
  · rename_i hlt kF kN _ _
    have e : hpop (ltK key) init y = (y, init) := if_neg hlt
    rw [e] at h
    exact h _ _ _ kF kN

theorem heapreplace_spec {l : Addr} {vs : List Value} {x : Value} {n : Nat} {key : Value → Int × Int}
    (B : Below A₀ base outer h₀) (F : Fr h₀ L s.heap m) (X : (hd.heap_39 w.params).In h₀) (N : News h₀ L s.heap ((l, listOf vs.toArray n) :: rest)) (T : Top topProg loose mean mg mb h₀)
    (hA : A.frames = some (env :: outer)) (hf : env.frame = some L) (hke : env.scope.kind = .function) (hroom : A.depth + 20 < recursionLimit) (hunits : A.units + 300 < cLine)
    (hne : ∀ p ∈ rest, p.1 ≠ l) (hk : Keyed rest key (x :: vs)) (h0 : 0 < vs.length) (hsz : vs.length < 1000)
    (h : ∀ h' tk, Fr h₀ L h' m → News h₀ L h' ((l, listOf (siftup (ltK key) (vs.set 0 x) 0).toArray n) :: rest) → Q (vs.getD 0 default) { s with heap := h', toks := tk }) :
    wpAny (model prog w) A (call (.ref 119) [.ref l, x]) Q E s := by
  refine wpAny_call ?_
  refine' code_def (binds := [("heap", .ref l), ("item", x)]) B F X N T hA hf hke ?k6 ?k7 (by omega) ?k9 ?kB ?_ ?c2 ?c3 ?c4 ?c5
  case k6 => k_dflt k_is
  case k7 => k_dflt k_is
  case k9 => k_dflt (exact BindsTo.of_eq rfl)
  case c5 => decide
  case kB => exact locs rfl
  case c2 => exact rfl
  case c3 => exact rfl
  case c4 => exact rfl
  k_whole; intro g' L' h' FG' F' N' B' X' T'; (try dsimp only); (try k_fold)
  k_steps
  rename_i F3 N3
  refine siftup_spec (key := key) (pos := 0) B' F3 X' N3 T' (Around.frames_deeper hA) rfl rfl (by simp only [depth_deeper]; omega) (by simp only [Around.deeper_units]; omega) hne ?_ (by rw [List.length_set]; omega) (by rw [List.length_set]; omega) ?_
  · refine hk.mono (fun v hv => ?_) fun _ h => h
    rcases mem_set' hv with hv | rfl
    · exact .tail _ hv
    · exact .head _
  intro h4 tk4 F4 N4
  (try dsimp only)
  k_steps
  rename_i kF kN _ _
  exact h _ _ kF kN
end

theorem reset_S4 : True := by w_top off; trivial
section
def hturns {α : Type} [Inhabited α] (lt : α → α → Bool) (c : Nat) (vs : List α) : Nat → List α
  | 0 => vs
  | i + 1 => siftup lt (hturns lt c vs i) (c - 1 - i)
theorem hturns_length {α : Type} [Inhabited α] (lt : α → α → Bool) (c : Nat) (vs : List α) : ∀ i, (hturns lt c vs i).length = vs.length
  | 0 => rfl
  | i + 1 => by rw [hturns, siftup_length, hturns_length lt c vs i]
theorem hturns_mem {α : Type} [Inhabited α] (lt : α → α → Bool) (c : Nat) (vs : List α) (hc : c ≤ vs.length / 2) : ∀ i, i ≤ c → ∀ v ∈ hturns lt c vs i, v ∈ vs
  | 0, _ => fun _ h => h
  | i + 1, hi => fun v h => hturns_mem lt c vs hc i (by omega) v (siftup_mem lt _ _ (by rw [hturns_length]; omega) v h)
section
variable {prog : Program} {w : World} {A A₀ : Around} {E : Value → Shared → Prop} {s : Shared} {L : Addr} {h₀ base : Heap} {m mg mb : Str → Option Value} {mean : ExcName → Option Value}
  {loose : List Str} {rest : List (Addr × Obj)} {env : Env} {outer : List Env} {Q : Value → Shared → Prop}

theorem heapify_spec {l : Addr} {vs : List Value} {n : Nat} {key : Value → Int × Int}
    (B : Below A₀ base outer h₀) (F : Fr h₀ L s.heap m) (X : (hd.heap_39 w.params).In h₀) (N : News h₀ L s.heap ((l, listOf vs.toArray n) :: rest)) (T : Top topProg loose mean mg mb h₀)
    (hA : A.frames = some (env :: outer)) (hf : env.frame = some L) (hke : env.scope.kind = .function) (hroom : A.depth + 20 < recursionLimit) (hunits : A.units + 300 < cLine) (hh : A.handled = none)
    (hne : ∀ p ∈ rest, p.1 ≠ l) (hk : Keyed rest key vs) (hsz : vs.length < 1000)
    (h : ∀ h' tk, Fr h₀ L h' m → News h₀ L h' ((l, listOf (hturns (ltK key) (vs.length / 2) vs (vs.length / 2)).toArray n) :: rest) → Q .none { s with heap := h', toks := tk }) :
    wpAny (model prog w) A (call (.ref 126) [.ref l]) Q E s := by
  refine wpAny_call ?_
  refine' code_def (binds := [("x", .ref l)]) B F X N T hA hf hke ?k6 ?k7 (by omega) ?k9 ?kB ?_ ?c2 ?c3 ?c4 ?c5
  case k6 => k_dflt k_is
  case k7 => k_dflt k_is
  case k9 => k_dflt (exact BindsTo.of_eq rfl)
  case c5 => decide
  case kB => exact locs rfl
  case c2 => exact rfl
  case c3 => exact rfl
  case c4 => exact rfl
  k_whole; intro g' L' h' FG' F' N' B' X' T'; (try dsimp only); (try k_fold)
  k_steps
  rename_i t1 _ h₁ F₁ N₁ h₂ _ t2 t3 t4 hr F₂ N₂ _
  have hdiv : ((vs.length : Int)).fdiv 2 = ((vs.length / 2 : Nat) : Int) := by rw [Int.fdiv_eq_ediv_of_nonneg _ (by decide)]; omega
  rw [hdiv] at hr
  refine call_reversed_range hr (by omega) (by omega) ?_
  (try dsimp only)
  have hI : (h₂.push (rangeIt ((vs.length / 2 : Nat) - 1) ((vs.length / 2 : Nat)) (-1))).get? h₂.objs.size = some (rangeIt ((vs.length / 2 : Nat) - 1) ((vs.length / 2 : Nat)) (-1)) := Heap.get?_push_size _ rfl
  refine wpAny_pyIter_rangeiter hI ?_
  refine loop_invN (fun i m₁ nx => nx = (l, listOf (hturns (ltK key) (vs.length / 2) vs i).toArray n) :: rest ∧ m₁ "x" = some (.ref l)) ((Walks.range (by exact hh) h₂.objs.size ((vs.length / 2 : Nat) - 1) (-1) (vs.length / 2)).bound) ?_ ?_ ?_ ?_ ?_ (F₂.push _) (fun p hp => ⟨Heap.get?_push_of_some _ (N₂ p hp).1, (N₂ p hp).2⟩) ⟨rfl, rfl⟩ ?_ ?_
  · intro hm
    exact absurd F₂.ns.lt ((List.mem_singleton.mp hm) ▸ Nat.lt_irrefl _)
  · intro b hb
    rw [List.mem_singleton.mp hb]
    exact next_is_new F₂
  · intro p hp hI
    exact absurd (Heap.lt_size (N₂ p hp).1) ((List.mem_singleton.mp hI) ▸ Nat.lt_irrefl _)
  · intro p hp hI
    exact absurd (Heap.lt_size (N₂ p hp).1) ((List.mem_singleton.mp hI) ▸ Nat.lt_irrefl _)
  · simpa using hI
  · rintro i v m₁ nx h₃ tk own hi ⟨_, t, rfl⟩ hadr hoff ⟨rfl, e1⟩ F₃ N₃
    clear F₁ N₁ F₂ N₂ F N
    have ei : ((vs.length / 2 : Nat) : Int) - 1 + (i : Int) * -1 = ((vs.length / 2 - 1 - i : Nat) : Int) := by omega
    rw [ei] at F₃
    have F₄ : Fr g' L' h₃ _ := F₃
    have N₄ : News g' L' h₃ ((l, listOf (hturns (ltK key) (vs.length / 2) vs i).toArray n) :: (rest ++ own)) := N₃
    clear F₃ N₃
    (try dsimp only); (try k_fold)
    k_steps
    have hne' : ∀ p ∈ rest ++ own, p.1 ≠ l := fun p hp => (List.mem_append.mp hp).elim (hne p) fun hp => hoff.ne (b := l) (by simp) p hp
    refine siftup_spec (key := key) B' F₄ X' N₄ T' (Around.frames_deeper hA) rfl rfl (by simp only [depth_deeper]; omega) (by simp only [Around.deeper_units]; omega) hne' ?_ (by rw [hturns_length]; omega) (by rw [hturns_length]; omega) ?_
    · exact hk.mono (hturns_mem _ _ _ (by omega) i (by omega)) fun _ h => List.mem_append_left _ h
    intro h4 tk4 F4 N4
    (try dsimp only)
    k_steps
    exact ⟨h4, _, _, _, (l, listOf (hturns (ltK key) (vs.length / 2) vs (i + 1)).toArray n) :: rest, rfl, F4, N4, fun p hp => by
      rcases List.mem_cons.mp hp with rfl | hp
      · exact .head _
      · exact .tail _ (List.mem_append_left _ hp), fun p hp => .tail _ (List.mem_append_right _ hp), rfl, rfl, e1⟩
  · rintro m₁ nx h₅ tk ⟨rfl, _⟩ F₃ N₃
    (try dsimp only)
    k_steps
    rename_i kF kN _ _
    exact h _ _ kF kN
end
end
theorem reset_W1 : True := by w_top off; trivial
section
set_option maxRecDepth 100000
open PyProof.Rows.LCg (NsObj lst lst_snoc Off3 ns_obj)
section
variable {prog : Program} {w : World} {A : Around} {E : Value → Shared → Prop} {s : Shared} {h₀ : Heap} {L : Addr} {m : Str → Option Value} {env : Env} {R : Result → Shared → Prop}
theorem compLoop_gen {elt target iter : Expr} {scope : Scope} {pos : Pos} {it acc : Value} {env : Env} (I : Nat → Shared → Prop)
    (turn : ∀ n s (E' : Value → Shared → Prop), I n s → wpAny (model prog w) A (pyNext it) (fun r s₁ => match r with
      | none => R (.ok .next) s₁
      | some v => wpAny (model prog w) A (letOwnedTupleGo target it v) (fun _ s₂ => wpAny (model prog w) A (assign target env v) (fun _ s₃ => wpAny (model prog w) A (eval elt env) (fun x s₄ =>
          wpAny (model prog w) A (call (.builtin "list.append") [acc, x]) (fun _ s₅ => ∃ m, m < n ∧ I m s₅) E' s₄) E' s₃) E' s₂) E' s₁) E' s)
    (n : Nat) (h : I n s) : codeAny (model prog w) A (.compLoop (.ListComp elt [⟨target, iter, [], 0⟩] scope pos) 0 it acc env) R s := by
  refine codeAny_loop rfl I (fun n s hI => ?_) n h
  show wpAny _ A ((compTurn (.ListComp elt [⟨target, iter, [], 0⟩] scope pos) 0 it acc env).onRaise (fun x => do noteFrame x env; theTreesLotGoes x)) _ _ s
  refine wpAny_noted ?_
  rw [compTurn_list1]
  refine wpAny_bind (wpAny_standAt (wpAny_bind (wpAny_mono (turn n s _ hI) (fun r s₁ h₁ => ?_) fun _ _ h' => h')))
  cases r with
  | none => exact wpAny_pure h₁
  | some v =>
    refine wpAny_bind (wpAny_mono h₁ (fun _ s₂ h₂ => wpAny_bind (wpAny_mono h₂ (fun _ s₃ h₃ => ?_) fun _ _ h' => h')) fun _ _ h' => h')
    exact wpAny_bind (wpAny_bind (wpAny_mono h₃ (fun x s₄ h₄ => wpAny_bind (wpAny_mono h₄ (fun _ s₅ h₅ => wpAny_pure (wpAny_pure ⟨rfl, h₅⟩)) fun _ _ h' => h')) fun _ _ h' => h'))
end
theorem off3_of {I C D : Addr} {l : List (Addr × Obj)} (h : ∀ p ∈ l, p.1 ≠ I ∧ p.1 ≠ C ∧ p.1 ≠ D) : Off3 I C D l := Off3.of h
def TurnEnd (h₀ : Heap) (L : Addr) (m : Str → Option Value) (s : Shared) (I : Addr) (oI : Obj) (C D : Addr) (k : Nat) (ys : List Value) (J : List Value → Array GenState → List (Addr × Obj) → Prop) (y : Value) (s' : Shared) : Prop :=
  ∃ h' tk' g' oC' m' news', s' = { s with heap := h', toks := tk', gens := g' } ∧ Fr h₀ L h' m ∧ NsObj oC' m' ∧ News h₀ L h' ((I, oI) :: (C, oC') :: (D, listOf ys.toArray k) :: news') ∧ (∀ p ∈ news', p.1 ≠ I ∧ p.1 ≠ C ∧ p.1 ≠ D) ∧ J (ys ++ [y]) g' news'
section
variable {prog : Program} {w : World} {A : Around} {E : Value → Shared → Prop} {s : Shared} {h₀ : Heap} {L : Addr} {m : Str → Option Value} {env : Env}
theorem comp_block {elt target iter : Expr} {scope : Scope} {cl : List (Str × Addr)} {pos : Pos} {s₂ : Shared} {I : Addr} {fp : List Addr} {n : Nat} {P : Nat → Value → Prop} {St : Nat → Heap → Prop} {news : List (Addr × Obj)}
    {RR : Value → Addr → Result → Shared → Prop} (J : Nat → List Value → Array GenState → List (Addr × Obj) → Prop)
    (W : Walks prog w A I fp [I] n P St) (hsz : n < 10000) (hIo : ∀ i h, St i h → ∃ o, h.get? I = some o)
    (hSt : ∀ i ys g nw h h' o, J i ys g nw → St i h → h.get? I = some o → h'.get? I = some o → (∀ b o, h₀.get? b = some o → h'.get? b = some o) → News h₀ L h' nw → St i h')
    (hcell : ∀ y ∈ scope.names, y.2 ≠ .cell) (hkind : scope.kind = .function) (hst : St 0 s₂.heap) (hfp : ∀ b ∈ fp, b < s₂.heap.objs.size)
    (F : Fr h₀ L s₂.heap m) (N : News h₀ L s₂.heap news) (hIL : L ≠ I) (hI₀ : h₀.get? I = none) (off : ∀ p ∈ news, p.1 ≠ I) (hJ : J 0 [] s₂.gens news)
    (turn : ∀ i ys v g news' C oC D oI m₂ h tk k (E' : Value → Shared → Prop), i < n → ys.length = i → P i v → J i ys g news' → NsObj oC m₂ → Fr h₀ L h m → News h₀ L h ((I, oI) :: (C, oC) :: (D, listOf ys.toArray k) :: news') →
      (∀ p ∈ news', p.1 ≠ I ∧ p.1 ≠ C ∧ p.1 ≠ D) → (I ≠ C ∧ I ≠ D ∧ C ≠ D) → St (i + 1) h →
      wpAny (model prog w) A (letOwnedTupleGo target (.ref I) v) (fun _ s₁ => wpAny (model prog w) A (assign target (compEnvC scope cl C env) v) (fun _ s₃ => wpAny (model prog w) A (eval elt (compEnvC scope cl C env))
        (TurnEnd h₀ L m s₂ I oI C D k ys (J (i + 1))) E' s₃) E' s₁) E' { s₂ with heap := h, toks := tk, gens := g })
    (hRR : ∀ D C h tk g m' ys news' k, ys.length = n → J n ys g news' → Fr h₀ L h m → News h₀ L h ((D, listOf ys.toArray k) :: news') → (∀ p ∈ news', p.1 ≠ C ∧ p.1 ≠ D) → h.Ns C m' → h₀.get? C = none → C ≠ L → C ≠ D → RR (.ref D) C (.ok .next) { s₂ with heap := h, toks := tk, gens := g }) :
    wpAny (model prog w) A (newList []) (fun acc s₃ => wpAny (model prog w) A (newFunctionEnv scope env.globals cl [] env.qual none .none (some env)) (fun cenv s₄ =>
      codeAny (model prog w) A (.compStart (.ListComp elt [⟨target, iter, [], 0⟩] scope pos) 0 (.ref I) acc { cenv with scope := relabel scope env }) (RR acc cenv.locals) s₄) E s₃) E s₂ := by
  refine wpAny_newObj_type (wpAny_newFunctionEnv hcell (by intro y hy; simp at hy) (fun h₁ hns₁ hsb₁ => ?_) hkind)
  dsimp only at hns₁ hsb₁ ⊢
  generalize hH2 : s₂.heap.push { cls := .type "list", dict := none, data := .seq ([] : List Value).toArray } = H2 at hns₁ hsb₁ ⊢
  have up2 : ∀ b o, s₂.heap.get? b = some o → H2.get? b = some o := fun b o e => by rw [← hH2]; exact Heap.get?_push_of_some _ e
  have sz2 : H2.objs.size = s₂.heap.objs.size + 1 := by rw [← hH2, Heap.size_push]
  generalize hD : s₂.heap.objs.size = D at *
  generalize hC : H2.objs.size = C at *
  have lt0 : ∀ b o, s₂.heap.get? b = some o → b < D := fun b o e => hD ▸ Heap.lt_size e
  have ltC : ∀ b, b < D → b ≠ C ∧ b ≠ D := fun b hb => ⟨Nat.ne_of_lt (by rw [sz2]; exact Nat.lt_succ_of_lt hb), Nat.ne_of_lt hb⟩
  have hCD : C ≠ D := by rw [sz2]; exact Nat.ne_of_gt (Nat.lt_succ_self _)
  have up : ∀ b o, s₂.heap.get? b = some o → h₁.get? b = some o := fun b o e => hsb₁.extBut b o (ltC b (lt0 b o e)).1 (Heap.get?_push_of_some _ (up2 b o e))
  have aD : h₁.get? D = some (listOf [].toArray 0) := hsb₁.extBut _ _ hCD.symm (Heap.get?_push_of_some _ (by rw [← hH2, ← hD]; exact Heap.get?_push_size _ rfl))
  have new0 : ∀ b, D ≤ b → h₀.get? b = none := fun b hb => by
    cases e : h₀.get? b with
    | none => rfl
    | some o => exact absurd (lt0 b o (F.keep b o e)) (Nat.not_lt.mpr hb)
  have D0 : h₀.get? D = none := new0 D (Nat.le_refl _)
  have C0 : h₀.get? C = none := new0 C (by rw [sz2]; exact Nat.le_succ _)
  have hL : L < D := hD ▸ F.ns.lt
  have hCL : C ≠ L := fun q => (ltC L hL).1 q.symm
  have hDL : D ≠ L := fun q => (ltC L hL).2 q.symm
  have hI : I < D := hfp I (W.sub I (List.mem_singleton.mpr rfl))
  have hIC : I ≠ C := (ltC I hI).1
  have hID : I ≠ D := (ltC I hI).2
  obtain ⟨oC0, eC0, nC0⟩ := ns_obj hns₁
  have loop : codeAny (model prog w) A (.compLoop (.ListComp elt [⟨target, iter, [], 0⟩] scope pos) 0 (.ref I) (.ref D) (compEnvC scope cl C env)) (RR (.ref D) C) { s₂ with heap := h₁, toks := s₂.toks + ([] : List (Str × Value)).length } := by
    refine compLoop_gen
      (fun c s' => ∃ h' tk g i k ys oC m' news', s' = { s₂ with heap := h', toks := tk, gens := g } ∧ i ≤ n ∧ c = n + 1 - i ∧ ys.length = i ∧ St i h' ∧ Fr h₀ L h' m ∧ NsObj oC m' ∧ News h₀ L h' ((C, oC) :: (D, listOf ys.toArray k) :: news') ∧
        (∀ p ∈ news', p.1 ≠ I ∧ p.1 ≠ C ∧ p.1 ≠ D) ∧ J i ys g news') ?_ (n + 1)
      ⟨h₁, _, _, 0, 0, [], oC0, _, news, rfl, Nat.zero_le _, rfl, rfl, W.frame _ _ _ hst fun b _ o e => up b o e, F.keeps up, nC0, fun p hp => ?_, fun p hp => ⟨off p hp, ltC _ (lt0 _ _ (N p hp).1)⟩, hJ⟩
    · rintro c s' E' ⟨h', tk, g, i, k, ys, oC, m', news', rfl, hi, rfl, hyl, hst', F', nC, N', off', hJ'⟩
      have keepN : ∀ h₂ : Heap, (∀ b o, b ∉ [I] → h'.get? b = some o → h₂.get? b = some o) → Fr h₀ L h₂ m ∧ News h₀ L h₂ ((C, oC) :: (D, listOf ys.toArray k) :: news') := fun h₂ hk => by
        have hk' : ∀ b o, b ≠ I → h'.get? b = some o → h₂.get? b = some o := fun b o hb e => hk b o (by simpa using hb) e
        refine ⟨⟨F'.ns.at' fun o e => hk' L o hIL e, fun b o e => hk' b o (fun q => by rw [q, hI₀] at e; cases e) (F'.keep b o e), F'.above⟩, fun p hp => ⟨hk' _ _ ?_ (N' p hp).1, (N' p hp).2⟩⟩
        rcases List.mem_cons.mp hp with rfl | hp
        · exact hIC.symm
        rcases List.mem_cons.mp hp with rfl | hp
        · exact hID.symm
        · exact (off' p hp).1
      by_cases hlt : i < n
      · refine W.item i _ _ _ hlt hst' fun v h₂ tk₂ hPv hst₂ hk₂ => ?_
        obtain ⟨F₂, N₂⟩ := keepN h₂ hk₂
        obtain ⟨oI, eI⟩ := hIo _ _ hst₂
        have N₃ : News h₀ L h₂ ((I, oI) :: (C, oC) :: (D, listOf ys.toArray k) :: news') := fun p hp => by
          rcases List.mem_cons.mp hp with rfl | hp
          · exact ⟨eI, hIL.symm, hI₀⟩
          · exact N₂ p hp
        refine wpAny_mono (turn i ys v g news' C oC D oI m' h₂ tk₂ k _ hlt hyl hPv hJ' nC F₂ N₃ off' ⟨hIC, hID, hCD⟩ hst₂) (fun _ s₄ h₄ => wpAny_mono h₄ (fun _ s₅ h₅ => wpAny_mono h₅ (fun y s₆ h₆ => ?_) fun _ _ e => e) fun _ _ e => e) fun _ _ e => e
        obtain ⟨h₆, tk₆, g₆, oC₆, m₆, news₆, rfl, F₆, nC₆, N₆, off₆, hJ₆⟩ := h₆
        refine appendLU F₆ N₆ (.tail hID (.tail hCD (.head fun p hp => (off₆ p hp).2.2))) (by omega) fun h₇ F₇ N₇ => ?_
        exact ⟨n + 1 - (i + 1), by omega, h₇, tk₆, g₆, i + 1, k + 1, ys ++ [y], oC₆, m₆, news₆, rfl, hlt, rfl, by rw [List.length_append, List.length_singleton, hyl],
          hSt _ _ _ _ _ _ _ hJ₆ hst₂ eI (N₇ _ (.head _)).1 F₇.keep fun p hp => N₇ p (.tail _ (.tail _ (.tail _ hp))), F₇, nC₆, fun p hp => N₇ p (.tail _ hp), off₆, hJ₆⟩
      · obtain rfl : i = n := Nat.le_antisymm hi (Nat.not_lt.mp hlt)
        refine W.done _ _ _ hst' fun h₂ tk₂ hk₂ => ?_
        obtain ⟨F₂, N₂⟩ := keepN h₂ hk₂
        exact hRR D C h₂ tk₂ g m' ys news' k hyl hJ' F₂ (fun p hp => N₂ p (.tail _ hp)) (fun p hp => (off' p hp).2) (nC.ns (N₂ _ (.head _)).1) C0 hCL hCD
    · rcases List.mem_cons.mp hp with rfl | hp
      · exact ⟨eC0, hCL, C0⟩
      rcases List.mem_cons.mp hp with rfl | hp
      · exact ⟨aD, hDL, D0⟩
      · exact ⟨up _ _ (N p hp).1, (N p hp).2⟩
  exact codeAny_compStart_list loop (W.self 0 _ _ _ (W.frame _ _ _ hst fun b _ o e => up b o e) loop)
end
end
theorem reset_W2 : True := by w_top off; trivial
section
set_option maxRecDepth 100000
open PyProof.Rows.LCg (NsObj ns_obj)
def CompGo (prog : Program) (w : World) (A : Around) (E : Value → Shared → Prop) (env : Env) (elt target iter : Expr) (scope : Scope) (cl : List (Str × Addr)) (pos : Pos) (use : Option (Value → Sem Unit)) (Q : Value → Shared → Prop) (it : Value) (s₂ : Shared) : Prop :=
  wpAny (model prog w) A (newList []) (fun acc s₃ => wpAny (model prog w) A (newFunctionEnv scope env.globals cl [] env.qual none .none (some env)) (fun cenv s₄ =>
      codeAny (model prog w) A (.compStart (.ListComp elt [⟨target, iter, [], 0⟩] scope pos) 0 it acc { cenv with scope := relabel scope env }) (compPost (model prog w) A E use Q acc cenv.locals) s₄) E s₃) E s₂
section
variable {prog : Program} {w : World} {A : Around} {E : Value → Shared → Prop} {s : Shared} {h₀ : Heap} {L : Addr} {m : Str → Option Value} {env : Env}
theorem ListComp_G {elt target iter : Expr} {scope : Scope} {cl : List (Str × Addr)} {pos : Pos} {Q : Value → Shared → Prop}
    (hclos : closureFor scope env = pure cl) (hkind : scope.kind = .function) (hnames : ∀ y ∈ scope.names, y.2 = .local → scope.names.lookup y.1 = some .local)
    (h : wpAny (model prog w) A (eval iter env) (fun xv s₁ => wpAny (model prog w) A (pyIter xv) (CompGo prog w A E env elt target iter scope cl pos none Q) E s₁) E s)
    (hs : ∀ x, foldedSetIterable iter env x = pure x := by intro _; rfl) :
    wpAny (model prog w) A (eval (.ListComp elt [⟨target, iter, [], 0⟩] scope pos) env) Q E s := by
  rw [eval_ListComp]
  exact wpAny_comprehension_free (use := none) rfl hs hclos hkind hnames h
theorem Assign_ListComp_G {elt target iter : Expr} {y : Str} {py : Pos} {scope : Scope} {cl : List (Str × Addr)} {pos spos : Pos} {Q : Flow → Shared → Prop}
    (hsw : swapsWith (.ListComp elt [⟨target, iter, [], 0⟩] scope pos) (some (.Name y py)) spos.line env = pure true)
    (hclos : closureFor scope env = pure cl) (hkind : scope.kind = .function) (hnames : ∀ y ∈ scope.names, y.2 = .local → scope.names.lookup y.1 = some .local)
    (h : wpAny (model prog w) A (eval iter env) (fun xv s₁ => wpAny (model prog w) A (pyIter xv) (CompGo prog w A E env elt target iter scope cl pos (some (assign (.Name y py) env)) (fun _ s' => Q .next s')) E s₁) E s)
    (hs : ∀ x, foldedSetIterable iter env x = pure x := by intro _; rfl) :
    wpAny (model prog w) A (exec (.Assign [.Name y py] (.ListComp elt [⟨target, iter, [], 0⟩] scope pos) spos) env) Q E s := by
  rw [exec_Assign_Name_used _ _ _ _ hsw]
  refine wpAny_bind (wpAny_standAt (wpAny_bind ?_))
  show wpAny _ A (do let _ ← comprehension (.ListComp elt [⟨target, iter, [], 0⟩] scope pos) scope env _ (newList []) false (eval iter env) (some (assign (.Name y py) env))) _ _ s
  exact wpAny_bind (wpAny_mono (wpAny_comprehension_free (use := some (assign (.Name y py) env)) (Q := fun _ s' => Q .next s') rfl hs hclos hkind hnames h) (fun _ s' hq => wpAny_pure (wpAny_pure hq)) fun _ _ e => e)
theorem post_E {Q : Value → Shared → Prop} {D C : Addr} {k : Nat} {h : Heap} {tk : Nat} {g : Array GenState} {m' : Str → Option Value} {ys : List Value} {news' : List (Addr × Obj)} {s₂ : Shared}
    (F : Fr h₀ L h m) (N : News h₀ L h ((D, listOf ys.toArray k) :: news')) (off : ∀ p ∈ news', p.1 ≠ C ∧ p.1 ≠ D) (hn : h.Ns C m') (C0 : h₀.get? C = none) (hCL : C ≠ L) (hCD : C ≠ D)
    (fin : ∀ h', Fr h₀ L h' m → News h₀ L h' ((D, listOf ys.toArray k) :: news') → Q (.ref D) { s₂ with heap := h', toks := tk, gens := g }) :
    compPost (model prog w) A E none Q (.ref D) C (.ok .next) { s₂ with heap := h, toks := tk, gens := g } := by
  refine ⟨m', hn, fun h'' hs'' => fin h'' (F.change hs'' hCL C0) fun p hp => ⟨hs''.extBut _ _ ?_ (N p hp).1, (N p hp).2⟩⟩
  rcases List.mem_cons.mp hp with rfl | hp
  · exact hCD.symm
  · exact (off p hp).1
theorem post_A {Q : Flow → Shared → Prop} {D C : Addr} {k : Nat} {h : Heap} {tk : Nat} {g : Array GenState} {m' : Str → Option Value} {ys : List Value} {news' : List (Addr × Obj)} {s₂ : Shared} {y : Str} {py : Pos}
    (hLe : env.locals = L) (hy : env.kindOf y = some .local) (hp : (env.scope.kind == .class || (env.scope.kind == .module && env.locals != env.globals)) = false)
    (F : Fr h₀ L h m) (N : News h₀ L h ((D, listOf ys.toArray k) :: news')) (off : ∀ p ∈ news', p.1 ≠ C ∧ p.1 ≠ D) (hn : h.Ns C m') (C0 : h₀.get? C = none) (hCL : C ≠ L) (hCD : C ≠ D)
    (fin : ∀ h' tk', Fr h₀ L h' (fun z => if z = y then some (.ref D) else m z) → News h₀ L h' ((D, listOf ys.toArray k) :: news') → Q .next { s₂ with heap := h', toks := tk', gens := g }) :
    compPost (model prog w) A E (some (assign (.Name y py) env)) (fun _ s' => Q .next s') (.ref D) C (.ok .next) { s₂ with heap := h, toks := tk, gens := g } := by
  subst hLe
  show wpAny _ A (assign (.Name y py) env (.ref D)) _ _ _
  refine wpAny_assign_Name (wpAny_storeName_local hy F.ns (fun h₂ hn₂ hs₂ => ?_) hp)
  have L0 : h₀.get? env.locals = none := Heap.get?_none_of_le F.above
  have F₂ : Fr h₀ env.locals h₂ (fun z => if z = y then some (.ref D) else m z) := ⟨hn₂, fun b o e => hs₂.extBut b o (fun q => by rw [q, L0] at e; cases e) (F.keep b o e), F.above⟩
  refine ⟨m', hn.sameBut hs₂ hCL, fun h'' hs'' => fin h'' _ (F₂.change hs'' hCL C0) fun p hp => ?_⟩
  refine ⟨hs''.extBut _ _ ?_ (hs₂.extBut _ _ (N p hp).2.1 (N p hp).1), (N p hp).2⟩
  rcases List.mem_cons.mp hp with rfl | hp
  · exact hCD.symm
  · exact (off p hp).1
theorem iter_list {l : Addr} {its : Array Value} {k : Nat} {news : List (Addr × Obj)} {E' : Value → Shared → Prop} {Q : Value → Shared → Prop} (N : News h₀ L s.heap news) (hl : (l, listOf its k) ∈ news)
    (h : Q (.ref s.heap.objs.size) { s with heap := s.heap.push { cls := .type "list_iterator", data := .fields #[.ref l, .int 0 0] } }) : wpAny (model prog w) A (pyIter (.ref l)) Q E' s :=
  wpAny_pyIter_list ⟨_, (N _ hl).1, rfl, k, rfl⟩ h
theorem comp_list {elt target iter : Expr} {scope : Scope} {cl : List (Str × Addr)} {pos : Pos} {use : Option (Value → Sem Unit)} {Q : Value → Shared → Prop} {l : Addr} {its : Array Value} {news : List (Addr × Obj)}
    (J : Nat → List Value → Array GenState → List (Addr × Obj) → Prop) (hh : A.handled = none) (F : Fr h₀ L s.heap m) (N : News h₀ L s.heap news) (hJ : J 0 [] s.gens news) (hsz : its.size < 10000)
    (hsrc : ∀ i ys g nw, J i ys g nw → ∃ k, (l, listOf its k) ∈ nw)
    (hcell : ∀ y ∈ scope.names, y.2 ≠ .cell) (hkind : scope.kind = .function)
    (turn : ∀ I i ys v g news' C oC D oI m₂ h tk k (E' : Value → Shared → Prop), i < its.size → ys.length = i → its[i]? = some v → J i ys g news' → NsObj oC m₂ → Fr h₀ L h m → News h₀ L h ((I, oI) :: (C, oC) :: (D, listOf ys.toArray k) :: news') →
      (∀ p ∈ news', p.1 ≠ I ∧ p.1 ≠ C ∧ p.1 ≠ D) → (I ≠ C ∧ I ≠ D ∧ C ≠ D) → (∃ l j, h.IsListIter I l j) →
      wpAny (model prog w) A (letOwnedTupleGo target (.ref I) v) (fun _ s₁ => wpAny (model prog w) A (assign target (compEnvC scope cl C env) v) (fun _ s₃ => wpAny (model prog w) A (eval elt (compEnvC scope cl C env))
        (TurnEnd h₀ L m s I oI C D k ys (J (i + 1))) E' s₃) E' s₁) E' { s with heap := h, toks := tk, gens := g })
    (hRR : ∀ D C h tk g m' ys news' k, ys.length = its.size → J its.size ys g news' → Fr h₀ L h m → News h₀ L h ((D, listOf ys.toArray k) :: news') → (∀ p ∈ news', p.1 ≠ C ∧ p.1 ≠ D) → h.Ns C m' → h₀.get? C = none → C ≠ L → C ≠ D →
      compPost (model prog w) A E use Q (.ref D) C (.ok .next) { s with heap := h, toks := tk, gens := g }) :
    wpAny (model prog w) A (pyIter (.ref l)) (CompGo prog w A E env elt target iter scope cl pos use Q) E s := by
  obtain ⟨k0, hl⟩ := hsrc _ _ _ _ hJ
  have up : ∀ b o, s.heap.get? b = some o → (s.heap.push { cls := .type "list_iterator", data := .fields #[.ref l, .int 0 0] }).get? b = some o := fun b o e => Heap.get?_push_of_some _ e
  have isl : s.heap.IsList l its := ⟨_, (N _ hl).1, rfl, k0, rfl⟩
  have hlt : l < s.heap.objs.size := Heap.lt_size (N _ hl).1
  refine iter_list N hl ?_
  have W := (Walks.list (prog := prog) (w := w) hh s.heap.objs.size l (Nat.ne_of_lt hlt) its)
  have turn' := turn s.heap.objs.size
  refine comp_block J W hsz (fun i h st => by obtain ⟨o, e, _⟩ := st.1; exact ⟨o, e⟩) (fun i ys g nw h h' o hJ' st e e' keep N' => ?_) hcell hkind ⟨⟨_, Heap.get?_push_size _ rfl, rfl, rfl⟩, isl.push _⟩ (fun b hb => ?_)
      (F.keeps up) (fun p hp => ⟨up _ _ (N p hp).1, (N p hp).2⟩) (Nat.ne_of_lt F.ns.lt) (next_is_new F) (fun p hp => Nat.ne_of_lt (Heap.lt_size (N p hp).1)) hJ ?_ ?_
  · obtain ⟨k', hl'⟩ := hsrc _ _ _ _ hJ'
    exact ⟨by obtain ⟨o', q, r⟩ := st.1; rw [e] at q; cases q; exact ⟨o, e', r⟩, ⟨_, (N' _ hl').1, rfl, k', rfl⟩⟩
  · show b < (s.heap.push _).objs.size
    rw [Heap.size_push]
    rcases List.mem_cons.mp hb with rfl | hb
    · exact Nat.lt_succ_self _
    · rw [List.mem_singleton.mp hb]; exact Nat.lt_succ_of_lt hlt
  · intro i ys v g news' C oC D oI m₂ h tk k E' hi hyl hP hJ' nC F' N' off' ne' st'
    exact turn' i ys v g news' C oC D oI m₂ h tk k E' hi hyl hP hJ' nC F' N' off' ne' ⟨_, _, st'.1⟩
  · intro D C h tk g m' ys news' k hyl hJ' F' N' off hn C0 hCL hCD
    exact hRR D C h tk g m' ys news' k hyl hJ' F' N' off hn C0 hCL hCD
end
end
theorem reset_W3 : True := by w_top off; trivial
section
set_option maxRecDepth 100000
def ForEnd (h₀ : Heap) (L : Addr) (s : Shared) (I : Addr) (oI : Obj) (J : (Str → Option Value) → Array GenState → List (Addr × Obj) → Prop) (f : Flow) (s' : Shared) : Prop :=
  (f = .next ∨ f = .cont) ∧ ∃ h' tk' g' m' news', s' = { s with heap := h', toks := tk', gens := g' } ∧ Fr h₀ L h' m' ∧ News h₀ L h' ((I, oI) :: news') ∧ (∀ p ∈ news', p.1 ≠ I) ∧ J m' g' news'
section
variable {prog : Program} {w : World} {A : Around} {E : Value → Shared → Prop} {s : Shared} {h₀ : Heap} {L : Addr} {m : Str → Option Value} {env : Env}
theorem for_list {target : Expr} {body : List Stmt} {Q : Flow → Shared → Prop} {l : Addr} {its : Array Value} {news : List (Addr × Obj)}
    (J : Nat → (Str → Option Value) → Array GenState → List (Addr × Obj) → Prop) (hh : A.handled = none) (F : Fr h₀ L s.heap m) (N : News h₀ L s.heap news) (hJ : J 0 m s.gens news)
    (hsrc : ∀ i m₁ g nw, J i m₁ g nw → ∃ k, (l, listOf its k) ∈ nw)
    (turn : ∀ I oI i v m₁ g news₁ h tk (E' : Value → Shared → Prop), i < its.size → its[i]? = some v → J i m₁ g news₁ → Fr h₀ L h m₁ → News h₀ L h ((I, oI) :: news₁) → (∀ p ∈ news₁, p.1 ≠ I) →
      wpAny (model prog w) A (assign target env v) (fun _ s₂ => wpAny (model prog w) A (execs body env) (ForEnd h₀ L s I oI (J (i + 1))) E' s₂) E' { s with heap := h, toks := tk, gens := g })
    (done : ∀ m₁ g news₁ h tk, J its.size m₁ g news₁ → Fr h₀ L h m₁ → News h₀ L h news₁ → Q .next { s with heap := h, toks := tk, gens := g })
    (ht : ∀ it v, letOwnedTupleGo target it v = pure () := by intro _ _; rfl) :
    wpAny (model prog w) A (pyIter (.ref l)) (fun it s₂ => codeAny (model prog w) A (.forLoop target it body [] env) (fun r s' => match r with | .ok f => Q f s' | .error e => cameBackBy (model prog w) A env E e s') s₂) E s := by
  obtain ⟨k0, hl⟩ := hsrc _ _ _ _ hJ
  have up : ∀ b o, s.heap.get? b = some o → (s.heap.push { cls := .type "list_iterator", data := .fields #[.ref l, .int 0 0] }).get? b = some o := fun b o e => Heap.get?_push_of_some _ e
  have isl : s.heap.IsList l its := ⟨_, (N _ hl).1, rfl, k0, rfl⟩
  have hlt : l < s.heap.objs.size := Heap.lt_size (N _ hl).1
  have hIL : L ≠ s.heap.objs.size := Nat.ne_of_lt F.ns.lt
  have hI0 : h₀.get? s.heap.objs.size = none := next_is_new F
  refine wpAny_pyIter_list isl ?_
  generalize hI : s.heap.objs.size = I at *
  have W := (Walks.list (prog := prog) (w := w) hh I l (Nat.ne_of_lt hlt) its)
  refine codeAny_forLoop (fun c s' => ∃ h' tk g i m' news', s' = { s with heap := h', toks := tk, gens := g } ∧ i ≤ its.size ∧ c = its.size + 1 - i ∧ h'.IsListIter I l i ∧ Fr h₀ L h' m' ∧ News h₀ L h' news' ∧ (∀ p ∈ news', p.1 ≠ I) ∧ J i m' g news') ?_ (its.size + 1)
    ⟨_, _, _, 0, m, news, rfl, Nat.zero_le _, rfl, ⟨_, by rw [← hI]; exact Heap.get?_push_size _ rfl, rfl, rfl⟩, F.keeps up, fun p hp => ⟨up _ _ (N p hp).1, (N p hp).2⟩, fun p hp => Nat.ne_of_lt (hI ▸ Heap.lt_size (N p hp).1), hJ⟩ (ht _)
  rintro c s' ⟨h', tk, g, i, m', news', rfl, hi, rfl, it', F', N', off', hJ'⟩
  obtain ⟨k', hl'⟩ := hsrc _ _ _ _ hJ'
  have keep : ∀ h₂ : Heap, (∀ b o, b ∉ [I] → h'.get? b = some o → h₂.get? b = some o) → Fr h₀ L h₂ m' ∧ News h₀ L h₂ news' := fun h₂ hk => by
    have hk' : ∀ b o, b ≠ I → h'.get? b = some o → h₂.get? b = some o := fun b o hb e => hk b o (by simpa using hb) e
    exact ⟨⟨F'.ns.at' fun o e => hk' L o hIL e, fun b o e => hk' b o (fun q => by rw [q, hI0] at e; cases e) (F'.keep b o e), F'.above⟩, fun p hp => ⟨hk' _ _ (off' p hp) (N' p hp).1, (N' p hp).2⟩⟩
  have st' : h'.IsListIter I l i ∧ h'.IsList l its := ⟨it', ⟨_, (N' _ hl').1, rfl, k', rfl⟩⟩
  by_cases hlt' : i < its.size
  · refine W.item i _ _ _ hlt' st' fun v h₂ tk₂ hPv hst₂ hk₂ => ?_
    obtain ⟨F₂, N₂⟩ := keep h₂ hk₂
    obtain ⟨oI, eI, rI⟩ := hst₂.1
    refine wpAny_mono (turn I oI i v m' g news' h₂ tk₂ _ hlt' hPv hJ' F₂ (fun p hp => ?_) off') (fun _ s₄ h₄ => wpAny_mono h₄ (fun f s₅ h₅ => ?_) fun _ _ e => e) fun _ _ e => e
    · rcases List.mem_cons.mp hp with rfl | hp
      · exact ⟨eI, hIL.symm, hI0⟩
      · exact N₂ p hp
    · obtain ⟨hf, h₅, tk₅, g₅, m₅, news₅, rfl, F₅, N₅, off₅, hJ₅⟩ := h₅
      rcases hf with rfl | rfl <;>
      exact ⟨its.size + 1 - (i + 1), by omega, h₅, tk₅, g₅, i + 1, m₅, news₅, rfl, hlt', rfl, ⟨oI, (N₅ _ (.head _)).1, rI⟩, F₅, fun p hp => N₅ p (.tail _ hp), off₅, hJ₅⟩
  · obtain rfl : i = its.size := Nat.le_antisymm hi (Nat.not_lt.mp hlt')
    refine W.done _ _ _ st' fun h₂ tk₂ hk₂ => ?_
    obtain ⟨F₂, N₂⟩ := keep h₂ hk₂
    exact wpAny_execs_nil (done m' g news' h₂ tk₂ hJ' F₂ N₂)
theorem while_any {test : Expr} {body : List Stmt} {pos : Pos} {Q : Flow → Shared → Prop} (J : Nat → Shared → Prop) (n : Nat) (hJ : J n s)
    (turn : ∀ n s' (E' : Value → Shared → Prop), J n s' → wpAny (model prog w) A (isTrue test env (eval test env)) (fun b s₁ => if b then wpAny (model prog w) A (execs body env) (fun f s₂ => match f with
          | .next | .cont => ∃ k, k < n ∧ J k s₂
          | .brk => Q .next s₂
          | .ret v => Q (.ret v) s₂) E' s₁ else Q .next s₁) E' s') :
    wpAny (model prog w) A (exec (.While test body [] pos) env) Q E s := by
  refine wpAny_While (codeAny_whileLoop J (fun n s' h' => wpAny_mono (turn n s' _ h') (fun b s₁ h₁ => ?_) fun _ _ e => e) n hJ)
  cases b with
  | false =>
    simp only [Bool.false_eq_true, if_false] at h₁ ⊢
    exact wpAny_execs_nil h₁
  | true =>
    simp only [if_true] at h₁ ⊢
    refine wpAny_mono h₁ (fun f s₂ h₂ => ?_) fun _ _ e => e
    cases f <;> exact h₂
end
end
theorem reset_W4 : True := by w_top off; trivial
section
set_option maxRecDepth 100000
open PyProof.Rows.LCg (NsObj ns_obj)
section
variable {prog : Program} {w : World} {A : Around} {E : Value → Shared → Prop} {s : Shared} {h₀ : Heap} {L : Addr} {m : Str → Option Value} {env : Env}
theorem comp_store {x : Str} {px : Pos} {scope : Scope} {cl : List (Str × Addr)} {I C D : Addr} {oI oC : Obj} {m₂ : Str → Option Value} {h : Heap} {tk : Nat} {g : Array GenState} {k : Nat} {ys : List Value} {v : Value} {news' : List (Addr × Obj)} {Q : Unit → Shared → Prop} {E' : Value → Shared → Prop}
    (hx : scope.names.lookup x = some .local) (hkind : scope.kind = .function) (nC : NsObj oC m₂) (F' : Fr h₀ L h m) (N' : News h₀ L h ((I, oI) :: (C, oC) :: (D, listOf ys.toArray k) :: news'))
    (off : ∀ p ∈ news', p.1 ≠ I ∧ p.1 ≠ C ∧ p.1 ≠ D) (ne : I ≠ C ∧ I ≠ D ∧ C ≠ D)
    (hq : ∀ h₃ tk₃ oC', NsObj oC' (fun y => if y = x then some v else m₂ y) → Fr h₀ L h₃ m → News h₀ L h₃ ((I, oI) :: (C, oC') :: (D, listOf ys.toArray k) :: news') → Q () { s with heap := h₃, toks := tk₃, gens := g }) :
    wpAny (model prog w) A (assign (.Name x px) (compEnvC scope cl C env) v) Q E' { s with heap := h, toks := tk, gens := g } := by
  have zC := N' (C, oC) (.tail _ (.head _))
  refine wpAny_assign_Name (wpAny_storeName_local (lookup_relabel_local hx) (nC.ns zC.1) (fun h₃ hn₃ hs₃ => ?_) (by simp [compEnvC, relabel, hkind]))
  obtain ⟨oC', eC', nC'⟩ := ns_obj hn₃
  refine hq h₃ _ oC' nC' (F'.change hs₃ zC.2.1 zC.2.2) fun p hp => ?_
  rcases List.mem_cons.mp hp with rfl | hp
  · exact ⟨hs₃.extBut _ _ ne.1 (N' _ (.head _)).1, (N' _ (.head _)).2⟩
  rcases List.mem_cons.mp hp with rfl | hp
  · exact ⟨eC', zC.2⟩
  rcases List.mem_cons.mp hp with rfl | hp
  · exact ⟨hs₃.extBut _ _ ne.2.2.symm (N' _ (.tail _ (.tail _ (.head _)))).1, (N' _ (.tail _ (.tail _ (.head _)))).2⟩
  · have z := N' p (.tail _ (.tail _ (.tail _ hp)))
    exact ⟨hs₃.extBut _ _ (off p hp).2.1 z.1, z.2⟩
theorem comp_name {elt iter : Expr} {x : Str} {px : Pos} {scope : Scope} {cl : List (Str × Addr)} {pos : Pos} {use : Option (Value → Sem Unit)} {Q : Value → Shared → Prop} {l : Addr} {its : Array Value} {news : List (Addr × Obj)}
    (J : Nat → List Value → Array GenState → List (Addr × Obj) → Prop) (hh : A.handled = none) (F : Fr h₀ L s.heap m) (N : News h₀ L s.heap news) (hJ : J 0 [] s.gens news) (hsz : its.size < 10000)
    (hsrc : ∀ i ys g nw, J i ys g nw → ∃ k, (l, listOf its k) ∈ nw)
    (hcell : ∀ y ∈ scope.names, y.2 ≠ .cell) (hkind : scope.kind = .function) (hx : scope.names.lookup x = some .local)
    (turn : ∀ I i ys v g news' C oC D oI m₂ h tk k (E' : Value → Shared → Prop), i < its.size → ys.length = i → its[i]? = some v → J i ys g news' → NsObj oC m₂ → m₂ x = some v → Fr h₀ L h m → News h₀ L h ((I, oI) :: (C, oC) :: (D, listOf ys.toArray k) :: news') →
      (∀ p ∈ news', p.1 ≠ I ∧ p.1 ≠ C ∧ p.1 ≠ D) → (I ≠ C ∧ I ≠ D ∧ C ≠ D) →
      wpAny (model prog w) A (eval elt (compEnvC scope cl C env)) (TurnEnd h₀ L m s I oI C D k ys (J (i + 1))) E' { s with heap := h, toks := tk, gens := g })
    (hRR : ∀ D C h tk g m' ys news' k, ys.length = its.size → J its.size ys g news' → Fr h₀ L h m → News h₀ L h ((D, listOf ys.toArray k) :: news') → (∀ p ∈ news', p.1 ≠ C ∧ p.1 ≠ D) → h.Ns C m' → h₀.get? C = none → C ≠ L → C ≠ D →
      compPost (model prog w) A E use Q (.ref D) C (.ok .next) { s with heap := h, toks := tk, gens := g }) :
    wpAny (model prog w) A (pyIter (.ref l)) (CompGo prog w A E env elt (.Name x px) iter scope cl pos use Q) E s := by
  refine comp_list J hh F N hJ hsz hsrc hcell hkind (fun I i ys v g news' C oC D oI m₂ h tk k E' hi hyl hv hJ' nC F' N' off ne it => ?_) hRR
  refine wpAny_pure (comp_store hx hkind nC F' N' off ne fun h₃ tk₃ oC' nC' F₃ N₃ => ?_)
  exact turn I i ys v g news' C oC' D oI _ h₃ tk₃ k E' hi hyl hv hJ' nC' (if_pos rfl) F₃ N₃ off ne
theorem comp_ints {elt iter : Expr} {x : Str} {px : Pos} {scope : Scope} {cl : List (Str × Addr)} {pos : Pos} {use : Option (Value → Sem Unit)} {Q : Value → Shared → Prop} {l : Addr} {its : Array Value} {n : Nat} {news : List (Addr × Obj)} (ms : List Int)
    (hh : A.handled = none) (F : Fr h₀ L s.heap m) (N : News h₀ L s.heap news) (hl : (l, listOf its n) ∈ news) (hms : ms.length = its.size) (hsz : its.size < 10000)
    (hcell : ∀ y ∈ scope.names, y.2 ≠ .cell) (hkind : scope.kind = .function) (hx : scope.names.lookup x = some .local)
    (turn : ∀ I i ys v C oC D oI m₂ h tk k (E' : Value → Shared → Prop), i < its.size → its[i]? = some v → NsObj oC m₂ → m₂ x = some v → Fr h₀ L h m → News h₀ L h ((I, oI) :: (C, oC) :: (D, listOf ys k) :: news) →
      wpAny (model prog w) A (eval elt (compEnvC scope cl C env)) (fun y s' => ∃ h' tk' t r, y = .int r t ∧ ms[i]? = some r ∧ s' = { s with heap := h', toks := tk' } ∧ Fr h₀ L h' m ∧ News h₀ L h' ((I, oI) :: (C, oC) :: (D, listOf ys k) :: news)) E' { s with heap := h, toks := tk })
    (hRR : ∀ D C h tk m' ys k, IntsAre ys ms → Fr h₀ L h m → News h₀ L h ((D, listOf ys.toArray k) :: news) → (∀ p ∈ news, p.1 ≠ C ∧ p.1 ≠ D) → h.Ns C m' → h₀.get? C = none → C ≠ L → C ≠ D →
      compPost (model prog w) A E use Q (.ref D) C (.ok .next) { s with heap := h, toks := tk }) :
    wpAny (model prog w) A (pyIter (.ref l)) (CompGo prog w A E env elt (.Name x px) iter scope cl pos use Q) E s := by
  refine comp_name (J := fun i ys g nw => g = s.gens ∧ nw = news ∧ IntsAre ys (ms.take i)) hh F N ⟨rfl, rfl, by rw [List.take_zero]; exact .nil⟩ hsz (fun i ys g nw hj => ⟨n, hj.2.1 ▸ hl⟩) hcell hkind hx ?_ ?_
  · rintro I i ys v g news' C oC D oI m₂ h tk k E' hi hyl hv ⟨rfl, rfl, hys⟩ nC hxv F' N' off ne
    refine wpAny_mono (turn I i ys.toArray v C oC D oI m₂ h tk k E' hi hv nC hxv F' N') (fun y s' hy => ?_) fun _ _ e => e
    obtain ⟨h', tk', t, r, rfl, hr, rfl, F₂, N₂⟩ := hy
    refine ⟨h', tk', _, oC, m₂, _, rfl, F₂, nC, N₂, off, rfl, rfl, ?_⟩
    rw [List.take_add_one, hr]
    exact IntsAre.append hys (.cons r t .nil)
  · rintro D C h tk g m' ys news' k hyl ⟨rfl, rfl, hys⟩ F' N' off hn C0 hCL hCD
    rw [List.take_of_length_le (by omega)] at hys
    exact hRR D C h tk m' ys k hys F' N' off hn C0 hCL hCD
end
end
section
local macro_rules | `(tactic| walk_at "z") => `(tactic| skip)
local macro_rules | `(tactic| walk_at "z") => `(tactic| skip)
local macro_rules | `(tactic| walk_at "z") => `(tactic| skip)
local macro_rules | `(tactic| walk_at "z") => `(tactic| skip)
local macro_rules | `(tactic| walk_at "z") => `(tactic| skip)
local macro_rules | `(tactic| walk_at "z") => `(tactic| skip)
theorem flush_U2 : True ∧ True := by w_top off; (try (walk1; fail)); exact ⟨trivial, trivial⟩
end
section
set_option maxRecDepth 100000
local macro_rules | `(tactic| k_all) => `(tactic| assumption)
local macro_rules | `(tactic| walk_at "exec While Name cons nil") => `(tactic| refine halt ?_)
local macro_rules | `(tactic| walk_at "call builtin:list.remove") => `(tactic| refine halt ?_)
local macro_rules | `(tactic| walk_at "LeaveI") => `(tactic| refine halt ?_)
local macro_rules | `(tactic| walk_at "call builtin:list.pop") => `(tactic| (k_here; (with_reducible show wpAny _ _ (call (Value.builtin _) [Value.ref _]) _ _ _); k_dflt (refine' popLU ?F ?N ?U ?z ?_; (case F => k_asm); (case N => k_asm); (case U => k_upd); (case z => omega); k_whole); intro h' F' N'; (try k_sweep)))
local macro_rules | `(tactic| walk_at "call builtin:list.append") => `(tactic| (k_here; (with_reducible show wpAny _ _ (call (Value.builtin _) [Value.ref _, _]) _ _ _); k_dflt (refine' appendLU ?F ?N ?U ?z ?_; (case F => k_asm); (case N => k_asm); (case U => k_upd); (case z => omega); k_whole); intro h' F' N'; (try k_sweep)))
theorem map_eraseIdx {α β} (f : α → β) : ∀ (l : List α) (i : Nat), (l.eraseIdx i).map f = (l.map f).eraseIdx i
  | [], _ => by simp
  | _ :: _, 0 => by simp
  | _ :: r, i + 1 => by simp [map_eraseIdx f r i]
section
variable {prog : Program} {w : World} {A₀ : Around} {E : Value → Shared → Prop} {s' : Shared} {h₀ h : Heap} {L a e : Addr} {m : Str → Option Value} {name : Str} {scope : Scope} {cd : Value} {news : List (Addr × Obj)}
  {b₀ : Stmt} {suite : List Stmt} {pos np : Pos} {rest : List ExceptHandler} {Q : Flow → Shared → Prop} {p : Program} {loose : List Str} {mean : ExcName → Option Value} {mg mb : Str → Option Value} {K : Frag}
theorem clause_hitK {fl : Value} (H : TT.HeldNA h₀ L s'.heap m e "ValueError" news fl) (X₀ : K.In h₀) (T : Top p loose mean mg mb h₀)
    (k : ∀ h', Fr h₀ L h' m → News h₀ L h' news → wpAny (model prog w) ((A₀.deeper (envOf name scope L a cd)).mark (some (.ref e))) (execs (b₀ :: suite) (envOf name scope L a cd)) Q E { s' with heap := h' })
    (ex : nsIn K mainGlobals "ValueError" = some none) (hn : ("ValueError" : Str) ≠ "__name__")
    (hE : PassesOwnAt (model prog w) ((A₀.deeper (envOf name scope L a cd)).mark (some (.ref e))) (A₀.deeper (envOf name scope L a cd)) (envOf name scope L a cd) E)
    (hk : scope.kind = .function := by rfl) (hxk : (envOf name scope L a cd).kindOf "ValueError" = some .globalImplicit := by rfl) (hdb : (("ValueError" : Str) == ("__debug__" : Str)) = false := by decide) :
    wpAny (model prog w) (A₀.deeper (envOf name scope L a cd)) (handleBy (.ref e) (envOf name scope L a cd) (.ExceptHandler (some (.Name "ValueError" np)) none (b₀ :: suite) pos :: rest)) Q E s' := by
  refine wpAny_handleBy_builtin (X := "ValueError") (T := "ValueError") (b := true) (isSubtype_of_subB (by decide +kernel)) (isSubtype_of_subB (by decide +kernel)) (isSubtype_of_subB (by decide +kernel)) (wpAny_passesOwnAt hE (name_B H.held.fr X₀ (topRead_of T) ex PyProof.Rows.Boot.«ValueError» hn ⟨rfl, H.isA, ?_⟩ hk hxk hdb))
  rw [if_pos rfl]
  exact H.lands fun h' F' N' => wpAny_passesOwnAt hE (k h' F' N')
end
section
variable {prog : Program} {w : World} {A A₀ : Around} {E : Value → Shared → Prop} {s : Shared} {L : Addr} {h₀ base : Heap} {m mg mb : Str → Option Value} {mean : ExcName → Option Value}
  {loose : List Str} {news rest : List (Addr × Obj)} {Q : Value → Shared → Prop} {cn : Str} {cs : Scope} {a : Addr} {ccd : Value}
theorem uld_spec {l1 l2 : Addr} {xs ys : List Value} {n1 n2 : Nat}
    (FF : Fr h₀ L s.heap m) (X : (hd.heap_39 w.params).In h₀) (N : News h₀ L s.heap ((l1, listOf xs.toArray n1) :: (l2, listOf ys.toArray n2) :: rest)) (T : Top topProg loose mean mg mb h₀)
    (hA : A.frames = some [envOf cn cs L a ccd]) (hck : cs.kind = .function) (hroom : A.depth + 20 < recursionLimit) (hunits : A.units + 200 < cLine) (hh : A.handled = none)
    (hne1 : ∀ p ∈ rest, p.1 ≠ l1) (hne2 : ∀ p ∈ rest, p.1 ≠ l2) (h12 : l1 ≠ l2) (hsz : xs.length < 1000) (hsz2 : ys.length < 1000) (hsx : ∀ v ∈ xs, IsStr v) (hsy : ∀ v ∈ ys, IsStr v)
    (h : ∀ (p l3 : Addr) (h' : Heap) (tk k1 k2 k3 : Nat) (ms' ys' : List Value), (∀ v ∈ ms', IsStr v) → (∀ v ∈ ys', IsStr v) → (ms'.map strOf, ys'.map strOf) = uldP (xs.map strOf).reverse (ys.map strOf) [] →
      Fr h₀ L h' m → News h₀ L h' ((p, { cls := .type "tuple", dict := none, data := .seq #[.ref l3, .ref l2] 0, slots := #[] }) :: (l3, listOf ms'.toArray k3) :: (l1, listOf #[] k1) :: (l2, listOf ys'.toArray k2) :: rest) → Q (.ref p) { s with heap := h', toks := tk }) :
    wpAny (model prog w) A (call (.ref 147) [.ref l1, .ref l2]) Q E s := by
  refine wpAny_call ?_
  refine' TLgL.code_def (binds := [("expected", .ref l1), ("actual", .ref l2)]) FF X N T hA ?k6 ?k7 (by omega) ?k9 ?kB ?_ hck ?c2 ?c3 ?c4 ?c5
  case k6 => k_dflt k_is
  case k7 => k_dflt k_is
  case k9 => k_dflt (exact BindsTo.of_eq rfl)
  case c5 => decide
  case kB => exact locs rfl
  case c2 => exact rfl
  case c3 => exact rfl
  case c4 => exact rfl
  k_whole; intro oL h1 tiC tiF tiE F1 N1; (try dsimp only); (try k_fold)
  have N1 := N1; simp only [List.cons_append] at N1

  k_steps
  unfold Halt
  rename_i l3 h1 lt1 h2 F1 N1
  have dL1 : l1 ≠ L := tiE _ (.head _)
  have dL2 : l2 ≠ L := tiE _ (.tail _ (.head _))
  have dLr : ∀ p ∈ rest, p.1 ≠ L := fun p hp => tiE _ (.tail _ (.tail _ hp))
  have lt1 : ∀ p ∈ (l1, listOf xs.toArray n1) :: (l2, listOf ys.toArray n2) :: (rest ++ [(L, oL)]), p.1 < l3 := allLt_mem lt1
  have LT : l1 < l3 ∧ l2 < l3 ∧ L < l3 ∧ ∀ p ∈ rest, p.1 < l3 := ⟨lt1 _ (.head _), lt1 _ (.tail _ (.head _)), lt1 _ (.tail _ (.tail _ (List.mem_append.mpr (.inr (.head _))))), fun p hp => lt1 _ (.tail _ (.tail _ (List.mem_append.mpr (.inl hp))))⟩
  refine While_inv2 (fun k m₁ news₁ => ∃ (xs' ys' ms' : List Value) (k1 k2 k3 : Nat) (sl : Array (Option Value)), k = xs'.length ∧ news₁ = (l3, listOf ms'.toArray k3) :: (l1, listOf xs'.toArray k1) :: (l2, listOf ys'.toArray k2) :: (rest ++ [(L, { oL with slots := sl })]) ∧
    (ys'.length < 1000 ∧ ms'.length + xs'.length < 1000 ∧ (∀ v ∈ xs', IsStr v) ∧ (∀ v ∈ ys', IsStr v) ∧ (∀ v ∈ ms', IsStr v)) ∧ uldP (xs'.map strOf).reverse (ys'.map strOf) (ms'.map strOf) = uldP (xs.map strOf).reverse (ys.map strOf) [] ∧
    m₁ "expected" = some (.ref l1) ∧ m₁ "actual" = some (.ref l2) ∧ m₁ "missing" = some (.ref l3)) (n₀ := xs.length) F1 N1 ⟨xs, ys, [], _, _, _, oL.slots, rfl, rfl, ⟨hsz2, by simpa using hsz, hsx, hsy, fun _ h => nomatch h⟩, rfl, rfl, rfl, rfl⟩ ?_
  rintro k m₁ news₁ h₂ tk₂ F₂ N₂ ⟨xs', ys', ms', k1, k2, k3, sl, rfl, rfl, ⟨z2, z3, sx, sy, sm⟩, eP, e1, e2, e3⟩
  clear F1 N1 lt1
  obtain ⟨q1, q2, q3, q4⟩ := LT
  have n12 : ¬ l2 = l1 := fun e => h12 e.symm
  have n13 : l3 ≠ l1 := Nat.ne_of_gt q1
  have n23 : l3 ≠ l2 := Nat.ne_of_gt q2
  have m1 : ∀ p ∈ rest ++ [(L, ({ oL with slots := sl } : Obj))], p.1 ≠ l1 := fun p hp => by
    rcases List.mem_append.mp hp with hp | hp
    · exact hne1 p hp
    · rw [List.mem_singleton.mp hp]; exact dL1.symm
  have m2 : ∀ p ∈ rest ++ [(L, ({ oL with slots := sl } : Obj))], p.1 ≠ l2 := fun p hp => by
    rcases List.mem_append.mp hp with hp | hp
    · exact hne2 p hp
    · rw [List.mem_singleton.mp hp]; exact dL2.symm
  have m3 : ∀ p ∈ rest ++ [(L, ({ oL with slots := sl } : Obj))], p.1 ≠ l3 := fun p hp => by
    rcases List.mem_append.mp hp with hp | hp
    · exact Nat.ne_of_lt (q4 p hp)
    · rw [List.mem_singleton.mp hp]; exact Nat.ne_of_lt q3
  rcases nil_or_snoc xs' with rfl | ⟨init, y, rfl⟩
  · (try dsimp only); (try k_fold)
    k_steps
    rename_i tk3 p h3 F3 N3 lt3
    dsimp only [qk]
    refine TLg.leave_back (new := (p, { cls := .type "tuple", dict := none, data := .seq #[.ref l3, .ref l2] 0, slots := #[] }) :: (l3, listOf ms'.toArray k3) :: (l1, listOf [].toArray k1) :: (l2, listOf ys'.toArray k2) :: rest) (sl := sl) (s' := { s with heap := h3, toks := tk3 }) tiC F3 N3 (allNe_of ?_) ?_
    · have q5 : L < p := allLt_mem (lt3.2.2.2) (L, { oL with slots := sl }) (List.mem_append.mpr (.inr (.head _)))
      intro q hq
      simp only [List.mem_cons] at hq
      rcases hq with rfl | rfl | rfl | rfl | hq
      · exact Nat.ne_of_gt q5
      · exact Nat.ne_of_gt q3
      · exact dL1
      · exact dL2
      · exact dLr q hq
    · intro F' N'
      exact h p l3 _ _ k1 k2 k3 _ _ sm sy eP F' N'
  · have z3' : ms'.length + (init.length + 1) < 1000 := by simpa using z3
    have zz : 0 < (init ++ [y]).length := by simp
    have sy1 : IsStr y := sx y (by simp)
    have sx1 : ∀ v ∈ init, IsStr v := fun v hv => sx v (by simp [hv])
    rw [List.map_append, List.reverse_append] at eP
    simp only [List.map_cons, List.map_nil, List.reverse_cons, List.reverse_nil, List.nil_append, List.cons_append, uldP] at eP
    (try dsimp only); (try k_fold)
    k_steps
    unfold Halt
    rename_i tk3 h3 h4 F4 N4
    by_cases hin : strOf y ∈ ys'.map strOf
    · rw [if_pos hin] at eP
      refine remHit F4 N4 sy1 sy hin (.tail n23 (.tail h12 (.head m2))) (by omega) fun h5 F5 N5 => ?_
      (try dsimp only); (try k_fold)
      k_steps
      refine ws_go (.inl rfl) F5 N5 (n' := init.length) (by simp) ⟨init, _, ms', _, _, _, sl, rfl, rfl, ⟨by rw [List.length_eraseIdx]; split <;> omega, by omega, sx1, fun v hv => sy v (List.mem_of_mem_eraseIdx hv), sm⟩, ?_, e1, e2, e3⟩
      rw [← eP, map_eraseIdx]
    · rw [if_neg hin] at eP
      refine remMiss N4 (by k_mem) sy1 sy hin hh fun h5 tk5 e hx => ?_
      (try dsimp only); (try k_fold)
      refine TLg.noted_new1 (new := (l3, listOf ms'.toArray k3) :: (l1, listOf init.toArray (k1 + 1)) :: (l2, listOf ys'.toArray k2) :: rest) (oL := { oL with slots := sl }) hA ⟨tiF.1, tiF.2.1, tiF.2.2.1, trivial⟩ hx F4 N4 (allNe_of ?_) ?_
      · intro q hq
        simp only [List.mem_cons] at hq
        rcases hq with rfl | rfl | rfl | hq
        · exact Nat.ne_of_gt q3
        · exact dL1
        · exact dL2
        · exact dLr q hq
      intro h6 sl6 _ H6
      dsimp only
      refine TT.HeldNA.land H6 fun h7 H7 => ?_
      dsimp only
      refine clause_hitK H7 X T ?_ (by k_dflt k_is) (by decide) (by passes_own)
      intro h8 F8 N8
      dsimp only [List.cons_append] at N8
      have m3 : ∀ p ∈ rest ++ [(L, ({ oL with slots := sl6 } : Obj))], p.1 ≠ l3 := fun p hp => by
        rcases List.mem_append.mp hp with hp | hp
        · exact Nat.ne_of_lt (q4 p hp)
        · rw [List.mem_singleton.mp hp]; exact Nat.ne_of_lt q3
      (try dsimp only); (try k_fold)
      k_steps
      rename_i h9 F9 N9
      refine ws_go (.inl rfl) F9 N9 (n' := init.length) (by simp) ⟨init, ys', ms' ++ [y], _, _, _, sl6, rfl, rfl, ⟨z2, by simp; omega, sx1, sy, fun v hv => ?_⟩, ?_, e1, e2, e3⟩
      · rcases List.mem_append.mp hv with hv | hv
        · exact sm v hv
        · rw [List.mem_singleton.mp hv]; exact sy1
      · rw [← eP]; simp
end
end
theorem reset_V1 : True := by w_top off; trivial
section
set_option maxRecDepth 100000
local macro_rules | `(tactic| k_all) => `(tactic| assumption)
def cmp3 (a b : Int) : Int := b2i (decide (b < a)) - b2i (decide (a < b))
section
variable {prog : Program} {w : World} {A A₀ : Around} {E : Value → Shared → Prop} {s : Shared} {L : Addr} {h₀ base : Heap} {m mg mb : Str → Option Value} {mean : ExcName → Option Value}
  {loose : List Str} {news rest : List (Addr × Obj)} {env : Env} {outer : List Env} {Q : Value → Shared → Prop}
theorem twc_spec {a b : Int} {ta tb : Tok}
    (B : Below A₀ base outer h₀) (FF : Fr h₀ L s.heap m) (X : (hd.heap_39 w.params).In h₀) (N : News h₀ L s.heap rest) (T : Top topProg loose mean mg mb h₀)
    (hA : A.frames = some (env :: outer)) (hf : env.frame = some L) (hke : env.scope.kind = .function) (hroom : A.depth + 20 < recursionLimit) (hunits : A.units + 200 < cLine)
    (h : ∀ h' t tk, Fr h₀ L h' m → News h₀ L h' rest → Q (.int (cmp3 a b) t) { s with heap := h', toks := tk }) :
    wpAny (model prog w) A (call (.ref 154) [.int a ta, .int b tb]) Q E s := by
  refine wpAny_call ?_
  refine' code_def (binds := [("x", .int a ta), ("y", .int b tb)]) B FF X N T hA hf hke ?k6 ?k7 (by omega) ?k9 ?kB ?_ ?c2 ?c3 ?c4 ?c5
  case k6 => k_dflt k_is
  case k7 => k_dflt k_is
  case k9 => k_dflt (exact BindsTo.of_eq rfl)
  case c5 => decide
  case kB => exact locs rfl
  case c2 => exact rfl
  case c3 => exact rfl
  case c4 => exact rfl
  k_whole; intro g' L' h1 FG' F1 N1 B' X' T'; (try dsimp only); (try k_fold)
  k_steps
  rename_i kF kN Tc kX
  exact h _ _ _ kF kN
end
end
section
local macro_rules | `(tactic| walk_at "z") => `(tactic| skip)
local macro_rules | `(tactic| walk_at "z") => `(tactic| skip)
local macro_rules | `(tactic| walk_at "z") => `(tactic| skip)
local macro_rules | `(tactic| walk_at "z") => `(tactic| skip)
local macro_rules | `(tactic| walk_at "z") => `(tactic| skip)
local macro_rules | `(tactic| walk_at "z") => `(tactic| skip)
local macro_rules | `(tactic| walk_at "z") => `(tactic| skip)
local macro_rules | `(tactic| walk_at "z") => `(tactic| skip)
local macro_rules | `(tactic| walk_at "z") => `(tactic| skip)
local macro_rules | `(tactic| walk_at "z") => `(tactic| skip)
local macro_rules | `(tactic| walk_at "z") => `(tactic| skip)
local macro_rules | `(tactic| walk_at "z") => `(tactic| skip)
local macro_rules | `(tactic| walk_at "z") => `(tactic| skip)
theorem flush_V2 : True ∧ True := by w_top off; (try (walk1; fail)); exact ⟨trivial, trivial⟩
end
section
set_option maxRecDepth 100000
local macro_rules | `(tactic| k_all) => `(tactic| assumption)
local macro_rules | `(tactic| walk_at "call ref") => `(tactic| refine halt ?_)
local macro_rules | `(tactic| walk_at "eval ListComp") => `(tactic| refine halt ?_)
local macro_rules | `(tactic| walk_at "exec Assign cons ListComp") => `(tactic| refine halt ?_)
local macro_rules | `(tactic| walk_at "subscriptTail") => `(tactic| refine halt ?_)
local macro_rules | `(tactic| walk_at "unpackItems ref") => `(tactic| (k_here; k_dflt (refine' unpackItemsN_ ?k1 ?k2 ?k3 ?k4 ?k5 ?_; (case k1 => k_asm); (case k2 => k_asm); (case k3 => exact News.isTup (by k_asm) (by k_mem)); (case k4 => assumption); (case k5 => exact rfl); k_whole); intro h' F' N'; (try k_sweep); (try dsimp only)))
local macro_rules | `(tactic| walk_at "getMethod ref") => `(tactic| refine halt ?_)
set_option maxRecDepth 100000
local macro_rules | `(tactic| k_all) => `(tactic| assumption)
local macro_rules | `(tactic| walk_at "call builtin:sum") => `(tactic| refine halt ?_)
local macro_rules | `(tactic| walk_at "exec For Name Name cons nil") => `(tactic| refine halt ?_)
local macro_rules | `(tactic| walk_at "assign Tuple") => `(tactic| (k_here; (with_reducible show wpAny _ _ (assign (Expr.Tuple _ _ _) _ (Value.ref _)) _ _ _); k_dflt (refine' unpackN_ ?k1 ?k2 ?k3 ?k4 ?k5 ?k6 ?_; (case k1 => k_asm); (case k2 => k_asm); (case k3 => exact News.isTup (by k_asm) (by k_mem)); (case k4 => assumption); (case k5 => exact rfl); (case k6 => exact rfl); k_whole); intro h' F' N'; (try k_sweep)))
local macro_rules | `(tactic| walk_at "eval ListComp") => `(tactic| refine halt ?_)
theorem ldC {M : Model} {A : Around} {E : Value → Shared → Prop} {s : Shared} {h₀ : Heap} {L a : Addr} {m : Str → Option Value} {cn : Str} {cs : Scope} {ccd v : Value} {x : Str} {pos : Pos} {Q : Value → Shared → Prop}
    (F : Fr h₀ L s.heap m) (hv : m x = some v) (h : Q v s) (hk : cs.kind = .function) (hx : (envOfC cn cs L a ccd).kindOf x = some .local) (hd : (x == ("__debug__" : Str)) = false) :
    wpAny M A (eval (.Name x pos) (envOfC cn cs L a ccd)) Q E s := nameX_L F hv h hk hx hd
local macro_rules | `(tactic| walk_at "eval Name") => `(tactic| (k_here; (with_reducible show wpAny _ _ (eval (Expr.Name _ _) (envOfC _ _ _ _ _)) _ _ _); k_dflt (refine' ldC ?k1 ?k2 ?_ ?a ?b ?c; (case k1 => k_asm); (case k2 => assumption); (case a => rfl); (case b => rfl); (case c => decide); k_whole); (try dsimp only)))
def sumsP (ns : List Int) : List Int := ns.foldl (fun acc z => acc ++ acc.map (· + z)) [0]
theorem sumsP_snoc (ns : List Int) (z : Int) : sumsP (ns ++ [z]) = sumsP ns ++ (sumsP ns).map (· + z) := by
  unfold sumsP; rw [List.foldl_append]; rfl
theorem snoc_ind {α : Type} {P : List α → Prop} (h0 : P []) (h1 : ∀ l a, P l → P (l ++ [a])) (l : List α) : P l := by
  have : ∀ l : List α, P l.reverse := fun l => by
    induction l with
    | nil => exact h0
    | cons a r ih => rw [List.reverse_cons]; exact h1 _ _ ih
  rw [← List.reverse_reverse l]; exact this _
theorem sumsP_length (ns : List Int) : (sumsP ns).length = 2 ^ ns.length := by
  induction ns using snoc_ind with
  | h0 => rfl
  | h1 r z ih => rw [sumsP_snoc, List.length_append, List.length_map, ih, List.length_append, List.length_singleton, Nat.pow_succ]; omega
theorem sumsP_small (ns : List Int) (h : ns.length ≤ 10) : (sumsP ns).length ≤ 1024 := by
  rw [sumsP_length]
  exact Nat.le_trans (Nat.pow_le_pow_right (by decide) h) (by decide)
theorem newsSub {h₀ h : Heap} {L : Addr} {all l : List (Addr × Obj)} (N : News h₀ L h all) (s : ∀ p ∈ l, p ∈ all) : News h₀ L h l := fun p hp => N p (s p hp)
theorem newsLst {h₀ h : Heap} {L a : Addr} {its : Array Value} {n : Nat} {all : List (Addr × Obj)} (N : News h₀ L h all) (s : (a, listOf its n) ∈ all) : h.IsList a its := ⟨_, (N _ s).1, rfl, n, rfl⟩
local macro_rules | `(tactic| walk_at "my sub") => `(tactic| first | exact List.forall_mem_nil _ | (refine List.forall_mem_cons.mpr ⟨by k_mem, ?_⟩; walk_at "my sub") | (intro p hp; repeat (first | exact hp | refine List.Mem.tail _ ?_)))
section
variable {prog : Program} {w : World} {A A₀ : Around} {E : Value → Shared → Prop} {s : Shared} {L : Addr} {h₀ base : Heap} {m mg mb : Str → Option Value} {mean : ExcName → Option Value}
  {loose : List Str} {news rest : List (Addr × Obj)} {env : Env} {outer : List Env} {Q : Value → Shared → Prop}
set_option maxHeartbeats 4000000 in
theorem even_spec {l : Addr} {vs : List Value} {ns : List Int} {n : Nat}
    (B : Below A₀ base outer h₀) (FF : Fr h₀ L s.heap m) (X : (hd.heap_39 w.params).In h₀) (N : News h₀ L s.heap rest) (T : Top topProg loose mean mg mb h₀)
    (hA : A.frames = some (env :: outer)) (hf : env.frame = some L) (hke : env.scope.kind = .function) (hroom : A.depth + 20 < recursionLimit) (hunits : A.units + 200 < cLine) (hh : A.handled = none)
    (hl : (l, listOf vs.toArray n) ∈ rest) (hi : IntsAre vs ns) (hlen : ns.length ≤ 10)
    (h : ∀ h' t tk M, Fr h₀ L h' m → News h₀ L h' rest → M ∈ (sumsP ns).map (fun o => max o (ns.sum - o)) → (∀ a ∈ (sumsP ns).map (fun o => max o (ns.sum - o)), M ≤ a) → Q (.int M t) { s with heap := h', toks := tk }) :
    wpAny (model prog w) A (call (.ref 164) [.ref l]) Q E s := by
  refine wpAny_call ?_
  refine' code_defC (binds := [("sizes", .ref l)]) B FF X N T hA hf hke ?k6 ?k7 (by omega) ?k9 ?kB ?kD ?_ ?c2 ?c3 ?c4
  case k6 => k_dflt k_is
  case k7 => k_dflt k_is
  case k9 => k_dflt (exact BindsTo.of_eq rfl)
  case kB => exact rfl
  case kD => decide +kernel
  case c2 => exact rfl
  case c3 => exact rfl
  case c4 => exact rfl
  k_whole; intro g' L' h1 tk1 cells' FG' F1 N1 Y1 B' X' T' l1; k_cells Y1; (try simp only [List.cons_append, List.nil_append] at N1); (try dsimp only); (try k_fold)
  k_steps
  unfold Halt
  rename_i oS oW dS dW ls h2 F2 N2 lt2
  refine sumK (by exact hh) F2 N2 ⟨_, (N2 _ (.tail _ (.tail _ (.tail _ hl)))).1, rfl, n, rfl⟩ hi fun h3 tk3 t3 F3 N3 => ?_
  have hL1 : L' + 1 ≠ L' + 1 + 1 := Nat.ne_of_lt (Nat.lt_succ_self _)
  have hr1 : ∀ p ∈ rest, p.1 ≠ L' + 1 := fun p hp => Nat.ne_of_lt (Nat.lt_succ_of_lt (l1 p hp))
  have hr2 : ∀ p ∈ rest, p.1 ≠ L' + 1 + 1 := fun p hp => Nat.ne_of_lt (Nat.lt_succ_of_lt (Nat.lt_succ_of_lt (l1 p hp)))
  (try dsimp only); (try k_fold)
  k_steps
  unfold Halt
  rename_i D3 h4 lt3 h5 h6 h7 oW2 F4 N4 dW2
  refine wpAny_For (nameX_L F4 rfl ?_)
  refine for_list (its := vs.toArray) (fun i m₁ gg nw => gg = s.gens ∧ m₁ "sizes" = some (.ref l) ∧ ∃ ls us k oS c, nw = (ls, listOf us.toArray k) :: (L' + 1 + 1, oS) :: (L' + 1, oW2) :: rest ∧ oS.data = .cell c ∧ m₁ "sums" = some (.ref ls) ∧ IntsAre us (sumsP (ns.take i)) ∧ L' + 1 + 1 < ls) hh F4 (fun p hp => N4 p (.tail _ hp)) ⟨rfl, rfl, ls, _, 0, oS, _, rfl, dS, rfl, .cons _ _ .nil, lt2.1⟩ ?_ ?_ ?_
  · rintro i m₁ gg nw ⟨rfl, e1, ls, us, k, oS, c, rfl, dS, e2, e3, e4⟩
    exact ⟨n, .tail _ (.tail _ (.tail _ hl))⟩
  · rintro I oI i v m₁ gg nw h8 tk8 E8 hi8 hv8 ⟨rfl, e1, ls, us, k, oS, c, rfl, dS, e2, e3, e4⟩ F8 N8 off8
    clear F4 N4
    obtain ⟨z, tz, rfl, hz⟩ := hi.at i v (by simpa using hv8)
    have q1 : I ≠ L' + 1 + 1 := fun e => off8 _ (.tail _ (.head _)) e.symm
    have q2 : ls ≠ L' + 1 + 1 := Nat.ne_of_gt e4
    have q3 : L' + 1 ≠ L' + 1 + 1 := hL1
    refine wpAny_assign_Name (storeX_C (cl := cellsFrom (L' + 1) _ []) F8 N8 (c := L' + 1 + 1) rfl (.tail q1 (.tail q2 (.head fun p hp => ?_))) dS fun h9 o9 F9 N9 d9 => ?_)
    · rcases List.mem_cons.mp hp with rfl | hp
      · exact q3
      · exact hr2 p hp
    dsimp only
    k_steps
    unfold Halt
    refine ListComp_G (cl := [("size", L' + 1 + 1)]) (by with_unfolding_all rfl) (by rfl) (by decide) ?_ (by with_unfolding_all exact fun _ => rfl)
    refine nameX_L F9 e2 ?_ rfl rfl
    have hlu := e3.length
    have hi9 : i < ns.length := by have := hi.length; simp at hi8; omega
    have hsm := sumsP_small (ns.take i) (by rw [List.length_take]; omega)
    refine comp_ints (l := ls) (its := us.toArray) ((sumsP (ns.take i)).map (· + z)) hh F9 N9 (.tail _ (.head _)) (by simpa using hlu.symm) (by simp; omega) (by decide) rfl (by decide) ?_ ?_
    · rintro I' j ys v' C oC D oI' m₂ h10 tk10 k10 E10 hj hv' nC hxv F10 N10
      obtain ⟨r, tr, rfl, hr⟩ := e3.at j v' (by simpa using hv')
      (try dsimp only); (try k_fold)
      k_steps
      · rw [List.getElem?_map, hr]; rfl
      · exact F10
      · exact N10
    · rintro D C h10 tk10 m' ys k10 hys F10 N10 off10 hn10 C0 hCL hCD
      refine post_E F10 N10 off10 hn10 C0 hCL hCD fun h11 F11 N11 => ?_
      clear F9 N9 F8 N8 F10 N10
      have hly := hys.length
      rw [List.length_map] at hly
      refine add_lists F11 N11 (newsLst N11 (.tail _ (.tail _ (.head _)))) (newsLst N11 (.head _)) (fun h12 F12 N12 => ?_) (by rw [sizeLine_eq]; omega)
      have l12 : L' + 1 + 1 < h11.objs.size := Heap.lt_size (N11 (L' + 1 + 1, o9) (.tail _ (.tail _ (.tail _ (.head _))))).1
      have I12 : I < h11.objs.size := Heap.lt_size (N11 (I, oI) (.tail _ (.head _))).1
      generalize h11.objs.size = ls' at *
      refine storeX_L F12 N12 (fun h13 F13 N13 => ?_) rfl rfl
      refine wpAny_execs_nil ⟨.inl rfl, h13, _, _, _, (ls', listOf (us ++ ys).toArray 0) :: (L' + 1 + 1, o9) :: (L' + 1, oW2) :: rest, rfl, F13, newsSub N13 (by walk_at "my sub"), ?_, rfl, ?_, ls', us ++ ys, 0, o9, _, rfl, d9, ?_, ?_, l12⟩
      · intro p hp
        rcases List.mem_cons.mp hp with rfl | hp
        · exact Nat.ne_of_gt I12
        rcases List.mem_cons.mp hp with rfl | hp
        · exact q1.symm
        · exact off8 p (.tail _ (.tail _ hp))
      · exact e1
      · rfl
      · rw [List.take_add_one, hz]
        show IntsAre _ (sumsP (ns.take i ++ [z]))
        rw [sumsP_snoc]
        exact e3.append hys
  · rintro m₁ gg nw h8 tk8 ⟨rfl, e1, ls, us, k, oS, c, rfl, dS, e2, e3, e4⟩ F8 N8
    clear F4 N4
    k_steps
    unfold Halt
    refine ListComp_G (cl := [("whole", L' + 1)]) (by with_unfolding_all rfl) (by rfl) (by decide) ?_ (by with_unfolding_all exact fun _ => rfl)
    refine nameX_L F8 e2 ?_ rfl rfl
    have hin := hi.length
    rw [List.take_of_length_le (by simp; omega)] at e3
    have hlu := e3.length
    have hsm := sumsP_small ns hlen
    have hpos : 0 < (sumsP ns).length := by rw [sumsP_length]; exact Nat.pos_of_ne_zero (by simp)
    refine comp_ints (l := ls) (its := us.toArray) ((sumsP ns).map fun o => max o (ns.sum - o)) hh F8 N8 (.head _) (by simpa using hlu.symm) (by simp; omega) (by decide) rfl (by decide) ?_ ?_
    · rintro I' j ys v' C oC D oI' m₂ h10 tk10 k10 E10 hj hv' nC hxv F10 N10
      obtain ⟨r, tr, rfl, hr⟩ := e3.at j v' (by simpa using hv')
      (try dsimp only); (try k_fold)
      k_steps
      refine max_two_N hh F10 N10 fun h11 tk11 F11 N11 => ?_
      refine ⟨h11, _, _, _, rfl, ?_, rfl, F11, N11⟩
      rw [List.getElem?_map, hr]
      show some (max r (ns.sum - r)) = some _
      congr 1
      split <;> omega
    · rintro D C h10 tk10 m' ys k10 hys F10 N10 off10 hn10 C0 hCL hCD
      refine post_E F10 N10 off10 hn10 C0 hCL hCD fun h11 F11 N11 => ?_
      clear F8 N8 F10 N10
      k_steps
      refine min_list_N hh F11 N11 (newsLst N11 (.head _)) hys (by rw [List.length_map]; exact hpos) fun h12 M t tk12 F12 N12 hM hMin => ?_
      have N13 : News g' L' h12 rest := newsSub N12 (by walk_at "my sub")
      clear N11 F11 N12
      k_steps
      rename_i kF kN _ _
      exact h _ _ _ _ kF kN hM hMin
end
end
theorem reset_W5 : True := by w_top off; trivial
section
set_option maxRecDepth 100000
open PyProof.Rows.LCg (NsObj ns_obj)
section
variable {prog : Program} {w : World} {A : Around} {E : Value → Shared → Prop} {s : Shared} {h₀ : Heap} {L : Addr} {m : Str → Option Value} {env : Env}
theorem range_small (a b : Int) (h0 : 0 ≤ a) (h1 : a < 1000) (h2 : 0 ≤ b) (h3 : b < 1000) : Builtin.Range.small a b 1 = true := by
  have : 0 ≤ Builtin.Range.rangeSize a b 1 ∧ Builtin.Range.rangeSize a b 1 < 2000 := by
    unfold Builtin.Range.rangeSize
    simp
    split <;> omega
  unfold Builtin.Range.small Builtin.Range.rangeFitsLong
  simp only [Bool.and_eq_true, Bool.or_eq_true, decide_eq_true_eq]
  rw [if_pos (by decide)]
  simp only [Bool.and_eq_true, decide_eq_true_eq]
  refine ⟨⟨⟨⟨?_, ?_⟩, ?_⟩, ?_⟩, .inr ?_⟩ <;> omega
theorem range_size (a b : Int) (h : a ≤ b) : Builtin.Range.rangeSize a b 1 = b - a := by
  unfold Builtin.Range.rangeSize
  simp
  omega
theorem comp_range {elt iter : Expr} {x : Str} {px : Pos} {scope : Scope} {cl : List (Str × Addr)} {pos : Pos} {use : Option (Value → Sem Unit)} {Q : Value → Shared → Prop} {r : Addr} {a b : Int} {t u v : Tok} {news : List (Addr × Obj)} (cnt : Nat)
    (J : Nat → List Value → Array GenState → List (Addr × Obj) → Prop) (hh : A.handled = none) (F : Fr h₀ L s.heap m) (N : News h₀ L s.heap news) (hJ : J 0 [] s.gens news) (hr : IsRange s.heap r a b 1 t u v)
    (ha : 0 ≤ a ∧ a < 1000) (hb : 0 ≤ b ∧ b < 1000) (hab : b = a + cnt) (hsz : cnt < 10000)
    (hcell : ∀ y ∈ scope.names, y.2 ≠ .cell) (hkind : scope.kind = .function) (hx : scope.names.lookup x = some .local)
    (turn : ∀ I i ys tv g news' C oC D oI m₂ h tk k (E' : Value → Shared → Prop), i < cnt → ys.length = i → J i ys g news' → NsObj oC m₂ → m₂ x = some (.int (a + (i : Nat)) tv) → Fr h₀ L h m → News h₀ L h ((I, oI) :: (C, oC) :: (D, listOf ys.toArray k) :: news') →
      (∀ p ∈ news', p.1 ≠ I ∧ p.1 ≠ C ∧ p.1 ≠ D) → (I ≠ C ∧ I ≠ D ∧ C ≠ D) →
      wpAny (model prog w) A (eval elt (compEnvC scope cl C env)) (TurnEnd h₀ L m s I oI C D k ys (J (i + 1))) E' { s with heap := h, toks := tk, gens := g })
    (hRR : ∀ D C h tk g m' ys news' k, ys.length = cnt → J cnt ys g news' → Fr h₀ L h m → News h₀ L h ((D, listOf ys.toArray k) :: news') → (∀ p ∈ news', p.1 ≠ C ∧ p.1 ≠ D) → h.Ns C m' → h₀.get? C = none → C ≠ L → C ≠ D →
      compPost (model prog w) A E use Q (.ref D) C (.ok .next) { s with heap := h, toks := tk, gens := g }) :
    wpAny (model prog w) A (pyIter (.ref r)) (CompGo prog w A E env elt (.Name x px) iter scope cl pos use Q) E s := by
  refine wpAny_pyIter_range hr (range_small a b ha.1 ha.2 hb.1 hb.2) ?_
  have up : ∀ o' b o, s.heap.get? b = some o → (s.heap.push o').get? b = some o := fun o' b o e => Heap.get?_push_of_some _ e
  rw [range_size a b (by omega), show b - a = (cnt : Int) by omega]
  have hI : (s.heap.push { cls := .type "range_iterator", data := .fields #[rawInt a, rawInt cnt, rawInt 1] }).get? s.heap.objs.size = some { cls := .type "range_iterator", dict := none, data := .fields #[rawInt a, rawInt cnt, rawInt 1], slots := #[] } := Heap.get?_push_size _ rfl
  have W := Walks.range (prog := prog) (w := w) hh s.heap.objs.size a 1 cnt
  refine comp_block J W hsz (fun i h st => ⟨_, st⟩) (fun i ys g nw h h' o hJ' st e e' keep N' => ?_) hcell hkind (by simpa using hI) (fun b hb => ?_)
      (F.keeps (up _)) (fun p hp => ⟨up _ _ _ (N p hp).1, (N p hp).2⟩) (Nat.ne_of_lt F.ns.lt) (next_is_new F) (fun p hp => Nat.ne_of_lt (Heap.lt_size (N p hp).1)) hJ ?_ ?_
  · have : h.get? s.heap.objs.size = some _ := st
    rw [e] at this
    cases this
    exact e'
  · rw [List.mem_singleton.mp hb, Heap.size_push]; exact Nat.lt_succ_self _
  · rintro i ys v' g news' C oC D oI m₂ h tk k E' hi hyl ⟨tv, rfl⟩ hJ' nC F' N' off' ne' st'
    refine wpAny_pure (comp_store hx hkind nC F' N' off' ne' fun h₃ tk₃ oC' nC' F₃ N₃ => ?_)
    exact turn _ i ys tv g news' C oC' D oI _ h₃ tk₃ k E' hi hyl hJ' nC' (by rw [if_pos rfl, Int.mul_one]) F₃ N₃ off' ne'
  · intro D C h tk g m' ys news' k hyl hJ' F' N' off hn C0 hCL hCD
    exact hRR D C h tk g m' ys news' k hyl hJ' F' N' off hn C0 hCL hCD
end
section
variable {prog : Program} {w : World} {A : Around} {E : Value → Shared → Prop} {s : Shared} {h₀ : Heap} {L : Addr} {m : Str → Option Value} {env : Env}
theorem post_A2 {Q : Value → Shared → Prop} {D C : Addr} {k : Nat} {h : Heap} {tk : Nat} {g : Array GenState} {m' : Str → Option Value} {ys : List Value} {news' : List (Addr × Obj)} {s₂ : Shared} {y : Str} {py : Pos}
    (F : Fr h₀ L h m) (N : News h₀ L h ((D, listOf ys.toArray k) :: news')) (off : ∀ p ∈ news', p.1 ≠ C ∧ p.1 ≠ D) (hn : h.Ns C m') (C0 : h₀.get? C = none) (hCL : C ≠ L) (hCD : C ≠ D)
    (fin : ∀ h' tk', Fr h₀ L h' (fun z => if z = y then some (.ref D) else m z) → News h₀ L h' ((D, listOf ys.toArray k) :: news') → Q .none { s₂ with heap := h', toks := tk', gens := g })
    (hLe : env.locals = L) (hy : env.kindOf y = some .local) (hp : (env.scope.kind == .class || (env.scope.kind == .module && env.locals != env.globals)) = false) :
    compPost (model prog w) A E (some (assign (.Name y py) env)) Q (.ref D) C (.ok .next) { s₂ with heap := h, toks := tk, gens := g } :=
  post_A (Q := fun f s' => Q .none s') hLe hy hp F N off hn C0 hCL hCD fin
theorem turnEnd_new {I C D : Addr} {oI oC : Obj} {m₂ : Str → Option Value} {k : Nat} {ys : List Value} {J : List Value → Array GenState → List (Addr × Obj) → Prop} {y : Value} {h' : Heap} {tk : Nat} {g : Array GenState} {news' extra all : List (Addr × Obj)}
    (F : Fr h₀ L h' m) (nC : PyProof.Rows.LCg.NsObj oC m₂) (N : News h₀ L h' all) (sub : ∀ p ∈ (I, oI) :: (C, oC) :: (D, listOf ys.toArray k) :: (extra ++ news'), p ∈ all) (off : ∀ p ∈ news', p.1 ≠ I ∧ p.1 ≠ C ∧ p.1 ≠ D)
    (hx : ∀ p ∈ extra, p.1 ≠ I ∧ p.1 ≠ C ∧ p.1 ≠ D) (hJ : J (ys ++ [y]) g (extra ++ news')) : TurnEnd h₀ L m s I oI C D k ys J y { s with heap := h', toks := tk, gens := g } :=
  ⟨h', tk, g, oC, m₂, extra ++ news', rfl, F, nC, fun p hp => N p (sub p hp), fun p hp => (List.mem_append.mp hp).elim (hx p) (off p), hJ⟩
end
end
theorem reset_W6 : True := by w_top off; trivial
section
set_option maxRecDepth 100000
theorem memOf {α : Type} {a : α} {l : List α} (h : a ∈ l) : List.Mem a l := h
theorem frOf {h₀ h : Heap} {L : Addr} {m m' : Str → Option Value} (F : Fr h₀ L h m) (e : ∀ y, m y = m' y) : Fr h₀ L h m' := (funext e : m = m') ▸ F
def keyH (h : Heap) (v : Value) : Int × Int := match v with
  | .ref a => (match h.get? a with
    | some o => (match o.data with
      | .seq xs _ => (match xs.toList with
        | [.int x _, .int y _] => (x, y)
        | _ => (0, 0))
      | _ => (0, 0))
    | none => (0, 0))
  | _ => (0, 0)
theorem keyH_two {h : Heap} {a : Addr} {x y : Int} {t u : Tok} {n : Nat} (e : h.get? a = some (two x y t u n)) : keyH h (.ref a) = (x, y) := by
  unfold keyH; dsimp only; rw [e]
section
variable {prog : Program} {w : World} {A : Around} {E : Value → Shared → Prop} {s : Shared} {h₀ : Heap} {L : Addr} {m : Str → Option Value} {news : List (Addr × Obj)}
theorem subV {value slice : PySem.Expr} {l : Addr} {its : Array Value} {n : Nat} {k : Int} {u : Tok} {v : Value} {Q : Value → Shared → Prop} (N : News h₀ L s.heap news) (hm : (l, listOf its n) ∈ news)
    (h0 : 0 ≤ k) (hfit : k < 2 ^ 63) (hx : its[k.toNat]? = some v) (h : Q v s)
    (hs : subscripted slice false (.ref l) (.int k u) = operate [.ref l, .int k u] (getItem (.ref l) (.int k u)) := by with_unfolding_all rfl) :
    wpAny (model prog w) A (subscriptTail value slice (.ref l) (.int k u)) Q E s :=
  have hl : s.heap.IsList l its := newsLst N hm
  tail_any hl.typeIs slot_list_getitem.lookup (wpAny_getItem_list hl h0 hfit hx h) hs
theorem ne_nil {l e : Addr} {vs : List Value} {n k : Nat} {Q : Value → Shared → Prop} (N : News h₀ L s.heap news) (hl : (l, listOf vs.toArray n) ∈ news) (he : (e, listOf #[] k) ∈ news) (hu : A.units < cLine)
    (h : Q (.bool (decide (vs ≠ []))) s) : wpAny (model prog w) A (compareOp .NotEq (.ref l) (.ref e)) Q E s := by
  refine cmp_ofNotEq ?_
  cases vs with
  | nil => exact PySem.SeqAt.RcNeAt.lists (newsLst N hl) (newsLst N he) (by simp) hu (e := fun _ => true) (fun j h1 => absurd h1 (by simp)) prog w E Q (by simpa using h)
  | cons v r => exact PySem.SeqAt.RcNeAt.lists_lengths (newsLst N hl) (newsLst N he) (by simp) hu prog w E Q (by simpa using h)
end
section
variable {α : Type} [Inhabited α] (lt : α → α → Bool)
theorem siftup_two (x y : α) : siftup lt [x, y] 0 = if lt x y then [x, y] else [y, x] := by
  have hc : ∀ a b : α, childOf lt [a, b] 1 = 1 := fun a b => by unfold childOf; rw [if_neg (by simp)]
  have e : su lt [x, y] 0 = ([y, y], 1) := by
    rw [su, dif_pos (by simp)]
    show su lt (List.set [x, y] 0 ((childOf lt [x, y] 1) |> fun c => [x, y].getD c default)) (childOf lt [x, y] 1) = _
    rw [hc]
    rw [su, dif_neg (by simp)]
    rfl
  unfold siftup
  rw [e]
  show sd lt [y, x] 0 1 x = _
  rw [sd, dif_pos (by simp)]
  show (if lt x y = true then sd lt [y, y] 0 0 x else [y, x]) = _
  split
  · rw [sd, dif_neg (by simp)]; rfl
  · rfl
end
def PairsAt (ws : List Str) (ys : List Value) (own : List (Addr × Obj)) : Prop := ∀ j, j < ys.length → ∃ a t u, ys[j]? = some (.ref a) ∧ (a, two (-((ws.getD j "").length : Int)) (j : Int) t u 0) ∈ own
end
theorem reset_P1 : True := by w_top off; trivial
section
section perm
variable {α : Type}
theorem cons_erase_perm : ∀ (l : List α) (i : Nat) (h : i < l.length), l.Perm (l[i] :: l.eraseIdx i)
  | a :: r, 0, _ => by simp
  | a :: r, i + 1, h => by
    have := cons_erase_perm r i (by simpa using h)
    simp only [List.getElem_cons_succ, List.eraseIdx_cons_succ]
    exact (List.Perm.cons a this).trans (List.Perm.swap _ _ _)
theorem set_erase_perm : ∀ (l : List α) (i : Nat) (x : α) (h : i < l.length), (l.set i x).Perm (x :: l.eraseIdx i)
  | a :: r, 0, x, _ => by simp
  | a :: r, i + 1, x, h => by
    have := set_erase_perm r i x (by simpa using h)
    simp only [List.set_cons_succ, List.eraseIdx_cons_succ]
    exact (List.Perm.cons a this).trans (List.Perm.swap _ _ _)
theorem set_set_perm [Inhabited α] (l : List α) (i j : Nat) (x : α) (hi : i < l.length) (hj : j < l.length) (hij : i ≠ j) : ((l.set i (l.getD j default)).set j x).Perm (l.set i x) := by
  have e : l.getD j default = l[j] := by rw [List.getD_eq_getElem?_getD, List.getElem?_eq_getElem hj]; rfl
  have h1 := set_erase_perm (l.set i (l.getD j default)) j x (by simpa using hj)
  have h2 := cons_erase_perm (l.set i (l.getD j default)) j (by simpa using hj)
  have h3 := set_erase_perm l i (l.getD j default) hi
  have e2 : (l.set i (l.getD j default))[j]'(by simpa using hj) = l.getD j default := by rw [List.getElem_set_ne hij]; exact e.symm
  rw [e2] at h2
  have h4 := (List.perm_cons _).mp (h2.symm.trans h3)
  exact h1.trans ((List.Perm.cons x h4).trans (set_erase_perm l i x hi).symm)
theorem getD_set_ [Inhabited α] (l : List α) (i j : Nat) (x : α) : (l.set i x).getD j default = if i = j ∧ i < l.length then x else l.getD j default := by
  rw [List.getD_eq_getElem?_getD, List.getElem?_set, List.getD_eq_getElem?_getD]
  by_cases h : i = j
  · subst h
    by_cases h2 : i < l.length
    · simp [h2]
    · simp [h2]
  · simp [h]
end perm

section heap
variable {α : Type} [Inhabited α] (lt : α → α → Bool)
abbrev g (vs : List α) (i : Nat) : α := vs.getD i default
def Le (x y : α) : Prop := lt y x = false
structure Ord : Prop where
  asym : ∀ x y, lt x y = true → lt y x = false
  trans : ∀ x y z, Le lt x y → Le lt y z → Le lt x z
def Hp (s : Nat) (vs : List α) : Prop := ∀ c, 1 ≤ c → c < vs.length → s ≤ (c - 1) / 2 → Le lt (g vs ((c - 1) / 2)) (g vs c)
inductive Desc (s : Nat) : Nat → Prop
  | refl : Desc s s
  | step {p c : Nat} : Desc s p → c = 2 * p + 1 ∨ c = 2 * p + 2 → Desc s c
theorem Desc.le {s q : Nat} (d : Desc s q) : s ≤ q := by
  induction d with
  | refl => exact Nat.le_refl _
  | step _ h ih => omega
theorem Desc.up {s q : Nat} (d : Desc s q) : q = s ∨ Desc s ((q - 1) / 2) := by
  cases d with
  | refl => exact .inl rfl
  | step d h => right; rename_i p; rw [show (q - 1) / 2 = p by omega]; exact d
def HS (s p : Nat) (vs : List α) : Prop :=
  (∀ c, 1 ≤ c → c < vs.length → s ≤ (c - 1) / 2 → (c - 1) / 2 ≠ p → c ≠ p → Le lt (g vs ((c - 1) / 2)) (g vs c)) ∧
  (1 ≤ p → s ≤ (p - 1) / 2 → ∀ c, 1 ≤ c → c < vs.length → (c - 1) / 2 = p → Le lt (g vs ((p - 1) / 2)) (g vs c))
def gx (vs : List α) (q : Nat) (x : α) (i : Nat) : α := if i = q then x else g vs i
def SD (s q : Nat) (x : α) (vs : List α) : Prop :=
  (∀ c, 1 ≤ c → c < vs.length → s ≤ (c - 1) / 2 → c ≠ q → Le lt (gx vs q x ((c - 1) / 2)) (gx vs q x c)) ∧
  (1 ≤ q → s ≤ (q - 1) / 2 → ∀ c, 1 ≤ c → c < vs.length → (c - 1) / 2 = q → Le lt (g vs ((q - 1) / 2)) (g vs c))
variable {lt}
theorem child_best (O : Ord lt) (vs : List α) (c d : Nat) (hc : c < vs.length) (hd : d < vs.length) (h : d = c ∨ d = c + 1) : Le lt (g vs (childOf lt vs c)) (g vs d) := by
  have refl : ∀ x, Le lt x x := fun x => by
    unfold Le
    cases e : lt x x with
    | false => rfl
    | true => have := O.asym _ _ e; rw [e] at this; cases this
  unfold childOf
  split
  · rename_i h2
    rcases h with rfl | rfl
    · exact h2.2
    · exact refl _
  · rename_i h2
    rcases h with rfl | rfl
    · exact refl _
    · have : lt (g vs c) (g vs (c + 1)) = true := by
        cases e : lt (g vs c) (g vs (c + 1)) with
        | true => rfl
        | false => exact absurd ⟨hd, e⟩ h2
      exact O.asym _ _ this
theorem su_inv (O : Ord lt) (s : Nat) (vs : List α) (p : Nat) (hp : p < vs.length) (hs : Desc s p) (H : HS lt s p vs) :
    HS lt s (su lt vs p).2 (su lt vs p).1 ∧ vs.length ≤ 2 * (su lt vs p).2 + 1 ∧ Desc s (su lt vs p).2 := by
  induction vs, p using su.induct (lt := lt) with
  | case1 vs p h ih =>
    rw [su, dif_pos h]
    have hge := childOf_ge lt vs (2 * p + 1)
    have hle := childOf_le lt vs (2 * p + 1)
    have hlt := childOf_lt lt vs (2 * p + 1) h
    have best := fun d => child_best O vs (2 * p + 1) d h
    generalize childOf lt vs (2 * p + 1) = c at *
    have hsle := hs.le
    have R := ih (by simpa using hlt) (hs.step (by omega)) ?_
    · simpa using R
    · have gs : ∀ i, g (vs.set p (vs.getD c default)) i = if p = i then g vs c else g vs i := fun i => by
        show (vs.set p (vs.getD c default)).getD i default = _
        rw [getD_set_]
        by_cases q : p = i <;> simp [q]
        intro h7; exact absurd (q ▸ hp) (by omega)
      refine ⟨fun d h1 h2 h3 h4 h5 => ?_, fun h1 h2 d h3 h4 h5 => ?_⟩
      · simp only [List.length_set] at h2
        rw [gs, gs]
        by_cases q : p = d
        · subst q
          rw [if_neg (by omega), if_pos rfl]
          exact H.2 h1 h3 c (by omega) hlt (by omega)
        · rw [if_neg q]
          by_cases q2 : p = (d - 1) / 2
          · rw [if_pos q2]
            exact best d h2 (by omega)
          · rw [if_neg q2]
            exact H.1 d h1 h2 h3 (fun e => q2 e.symm) (fun e => q e.symm)
      · simp only [List.length_set] at h4
        rw [gs, gs, if_pos (by omega), if_neg (by omega)]
        have := H.1 d h3 h4 (by omega) (by omega) (by omega)
        rw [h5] at this
        exact this
  | case2 vs p h =>
    rw [su, dif_neg h]
    exact ⟨H, by omega, hs⟩
theorem sd_inv (O : Ord lt) (s : Nat) (vs : List α) (q : Nat) (x : α) (hq : q < vs.length) (hs : Desc s q) (H : SD lt s q x vs) : Hp lt s (sd lt vs s q x) := by
  induction vs, q using sd.induct (lt := lt) (start := s) (x := x) with
  | case1 vs q h h' ih =>
    rw [sd, dif_pos h, if_pos h']
    have hp : Desc s ((q - 1) / 2) := by
      rcases hs.up with e | e
      · omega
      · exact e
    have hle := hp.le
    have hx : Le lt x (g vs ((q - 1) / 2)) := O.asym _ _ h'
    refine ih (by rw [List.length_set]; omega) hp ?_
    have gs : ∀ i, g (vs.set q (vs.getD ((q - 1) / 2) default)) i = if q = i then g vs ((q - 1) / 2) else g vs i := fun i => by
      show (vs.set q (vs.getD ((q - 1) / 2) default)).getD i default = _
      rw [getD_set_]
      by_cases e : q = i <;> simp [e]
      intro h7; exact absurd (e ▸ hq) (by omega)
    have old : ∀ d, 1 ≤ d → d < vs.length → s ≤ (d - 1) / 2 → d ≠ q → (d - 1) / 2 ≠ q → Le lt (g vs ((d - 1) / 2)) (g vs d) := fun d h1 h2 h3 h4 h5 => by
      have := H.1 d h1 h2 h3 h4
      unfold gx at this
      rw [if_neg h5, if_neg h4] at this
      exact this
    refine ⟨fun d h1 h2 h3 h4 => ?_, fun h1 h2 d h3 h4 h5 => ?_⟩
    · simp only [List.length_set] at h2
      unfold gx
      rw [if_neg h4, gs]
      by_cases e : (d - 1) / 2 = (q - 1) / 2
      · rw [if_pos e, gs]
        by_cases e2 : q = d
        · rw [if_pos e2]; exact hx
        · rw [if_neg e2]
          refine O.trans _ _ _ hx ?_
          rw [← e]
          exact old d h1 h2 h3 (fun z => e2 z.symm) (by omega)
      · rw [if_neg e, gs]
        by_cases e2 : q = d
        · exact absurd (by rw [e2]) e
        · rw [if_neg e2]
          by_cases e3 : q = (d - 1) / 2
          · rw [if_pos e3]
            exact H.2 (by omega) hle d h1 h2 e3.symm
          · rw [if_neg e3]
            exact old d h1 h2 h3 (fun z => e2 z.symm) (fun z => e3 z.symm)
    · simp only [List.length_set] at h4
      rw [gs, gs, if_neg (by omega)]
      have o1 := old ((q - 1) / 2) h1 (by omega) h2 (by omega) (by omega)
      by_cases e : q = d
      · rw [if_pos e]; exact o1
      · rw [if_neg e]
        refine O.trans _ _ _ o1 ?_
        have := old d h3 h4 (by omega) (fun z => e z.symm) (by omega)
        rw [h5] at this
        exact this
  | case2 vs q h h' =>
    rw [sd, dif_pos h, if_neg h']
    have hp : Desc s ((q - 1) / 2) := by
      rcases hs.up with e | e
      · omega
      · exact e
    intro d h1 h2 h3
    simp only [List.length_set] at h2
    have gs : ∀ i, g (vs.set q x) i = gx vs q x i := fun i => by
      show (vs.set q x).getD i default = _
      rw [getD_set_]
      unfold gx
      by_cases e : q = i <;> simp [e]
      · intro h7; exact absurd (e ▸ hq) (by omega)
      · intro e2; exact absurd e2.symm e
    rw [gs, gs]
    by_cases e : d = q
    · subst e
      unfold gx
      rw [if_neg (by omega), if_pos rfl]
      show lt x (g vs ((d - 1) / 2)) = false
      cases z : lt x (g vs ((d - 1) / 2)) with
      | false => rfl
      | true => exact absurd z h'
    · exact H.1 d h1 h2 h3 e
  | case3 vs q h =>
    rw [sd, dif_neg h]
    have hle := hs.le
    intro d h1 h2 h3
    simp only [List.length_set] at h2
    have gs : ∀ i, g (vs.set q x) i = gx vs q x i := fun i => by
      show (vs.set q x).getD i default = _
      rw [getD_set_]
      unfold gx
      by_cases e : q = i <;> simp [e]
      · intro h7; exact absurd (e ▸ hq) (by omega)
      · intro e2; exact absurd e2.symm e
    rw [gs, gs]
    by_cases e : d = q
    · omega
    · exact H.1 d h1 h2 h3 e
theorem siftup_heap (O : Ord lt) (s : Nat) (vs : List α) (hs : s < vs.length) (H : Hp lt (s + 1) vs) : Hp lt s (siftup lt vs s) := by
  have S := su_inv O s vs s hs .refl ⟨fun c h1 h2 h3 h4 h5 => H c h1 h2 (by omega), fun h1 h2 => by omega⟩
  have hpos := su_pos lt vs s hs
  have hlen := su_length lt vs s
  unfold siftup
  obtain ⟨S1, S2, S3⟩ := S
  generalize su lt vs s = r at *
  obtain ⟨ws, q⟩ := r
  simp only at *
  refine sd_inv O s _ q _ (by rw [List.length_set]; omega) S3 ⟨fun d h1 h2 h3 h4 => ?_, fun h1 h2 d h3 h4 h5 => ?_⟩
  · simp only [List.length_set] at h2
    unfold gx
    rw [if_neg (by omega), if_neg h4]
    have gs : ∀ i, i ≠ q → g (ws.set q (vs.getD s default)) i = g ws i := fun i hi => by
      show (ws.set q (vs.getD s default)).getD i default = _
      rw [getD_set_, if_neg (fun z => hi z.1.symm)]
    rw [gs _ (by omega), gs _ h4]
    exact S1.1 d h1 h2 h3 (by omega) h4
  · simp only [List.length_set] at h4
    omega
theorem hp_init (vs : List α) : Hp lt (vs.length / 2) vs := fun c h1 h2 h3 => by omega
theorem hturns_heap (O : Ord lt) (vs : List α) : ∀ i, i ≤ vs.length / 2 → Hp lt (vs.length / 2 - i) (hturns lt (vs.length / 2) vs i)
  | 0, _ => hp_init vs
  | i + 1, h => by
    rw [hturns]
    have := hturns_heap O vs i (by omega)
    rw [show vs.length / 2 - (i + 1) = vs.length / 2 - 1 - i by omega]
    refine siftup_heap O _ _ (by rw [hturns_length]; omega) ?_
    rw [show vs.length / 2 - 1 - i + 1 = vs.length / 2 - i by omega]
    exact this
theorem root_le (O : Ord lt) (vs : List α) (H : Hp lt 0 vs) : ∀ i, i < vs.length → Le lt (g vs 0) (g vs i) := by
  intro i
  induction i using Nat.strongRecOn with
  | ind i ih =>
    intro hi
    by_cases h0 : i = 0
    · subst h0
      unfold Le
      cases e : lt (g vs 0) (g vs 0) with
      | false => rfl
      | true => have := O.asym _ _ e; rw [e] at this; cases this
    · exact O.trans _ _ _ (ih ((i - 1) / 2) (by omega) (by omega)) (H i (by omega) hi (Nat.zero_le _))
theorem set0_heap (init : List α) (y : α) (H : Hp lt 0 (init ++ [y])) : Hp lt 1 (init.set 0 y) := fun c h1 h2 h3 => by
  simp only [List.length_set] at h2
  have e : ∀ i, 1 ≤ i → i < init.length → g (init.set 0 y) i = g (init ++ [y]) i := fun i h0 hi => by
    show (init.set 0 y).getD i default = (init ++ [y]).getD i default
    rw [getD_set_, if_neg (by omega), List.getD_eq_getElem?_getD, List.getD_eq_getElem?_getD, List.getElem?_append_left hi]
  rw [e _ h3 (by omega), e _ h1 h2]
  exact H c h1 (by simp; omega) (Nat.zero_le _)
-- permutations
theorem su_perm (vs : List α) (p : Nat) (x : α) (hp : p < vs.length) : ((su lt vs p).1.set (su lt vs p).2 x).Perm (vs.set p x) := by
  induction vs, p using su.induct (lt := lt) with
  | case1 vs p h ih =>
    rw [su, dif_pos h]
    have hge := childOf_ge lt vs (2 * p + 1)
    have hlt := childOf_lt lt vs (2 * p + 1) h
    exact (ih (by simpa using hlt)).trans (set_set_perm vs p _ x hp hlt (by omega))
  | case2 vs p h => rw [su, dif_neg h]
theorem sd_perm (vs : List α) (s q : Nat) (x : α) (hq : q < vs.length) : (sd lt vs s q x).Perm (vs.set q x) := by
  induction vs, q using sd.induct (lt := lt) (start := s) (x := x) with
  | case1 vs q h h' ih =>
    rw [sd, dif_pos h, if_pos h']
    exact (ih (by rw [List.length_set]; omega)).trans (set_set_perm vs q _ x hq (by omega) (by omega))
  | case2 vs q h h' => rw [sd, dif_pos h, if_neg h']
  | case3 vs q h => rw [sd, dif_neg h]
theorem set_self' (vs : List α) (p : Nat) : vs.set p (vs.getD p default) = vs := by
  apply List.ext_getElem?
  intro i
  rw [List.getElem?_set]
  by_cases h : p = i
  · subst h
    by_cases h2 : p < vs.length
    · simp [h2]
    · simp [h2]
  · simp [h]
theorem siftup_perm (vs : List α) (p : Nat) (hp : p < vs.length) : (siftup lt vs p).Perm vs := by
  have hpos := su_pos lt vs p hp
  have hlen := su_length lt vs p
  have h2 := su_perm (lt := lt) vs p (vs.getD p default) hp
  rw [set_self'] at h2
  unfold siftup
  refine (sd_perm _ _ _ _ (by rw [List.length_set]; omega)).trans ?_
  simp only [List.set_set]
  exact h2
theorem hturns_perm (vs : List α) (c : Nat) (hc : c ≤ vs.length / 2) : ∀ i, i ≤ c → (hturns lt c vs i).Perm vs
  | 0, _ => by rw [hturns]
  | i + 1, h => by
    rw [hturns]
    exact (siftup_perm _ _ (by rw [hturns_length]; omega)).trans (hturns_perm vs c hc i (by omega))
theorem hpop_spec (O : Ord lt) (init : List α) (y : α) (H : Hp lt 0 (init ++ [y])) :
    ((hpop lt init y).1 :: (hpop lt init y).2).Perm (init ++ [y]) ∧ Hp lt 0 (hpop lt init y).2 ∧ ∀ v ∈ (hpop lt init y).2, Le lt (hpop lt init y).1 v := by
  unfold hpop
  have hroot := root_le O _ H
  split
  · rename_i h
    have e0 : init.getD 0 default = (init ++ [y]).getD 0 default := by
      rw [List.getD_eq_getElem?_getD, List.getD_eq_getElem?_getD, List.getElem?_append_left h]
    have hperm : ((init.getD 0 default) :: siftup lt (init.set 0 y) 0).Perm (init ++ [y]) := by
      refine (List.Perm.cons _ (siftup_perm _ _ (by simpa using h))).trans ?_
      refine (List.Perm.cons _ (set_erase_perm init 0 y h)).trans ((List.Perm.swap _ _ _).trans ?_)
      have h3 := cons_erase_perm init 0 h
      have e1 : init.getD 0 default = init[0] := by rw [List.getD_eq_getElem?_getD, List.getElem?_eq_getElem h]; rfl
      rw [e1]
      refine (List.Perm.cons y h3.symm).trans ?_
      simpa using (List.perm_append_comm (l₁ := [y]) (l₂ := init))
    refine ⟨hperm, siftup_heap O 0 _ (by simpa using h) (set0_heap init y H), fun v hv => ?_⟩
    have hv2 := hperm.subset (List.mem_cons_of_mem _ hv)
    obtain ⟨i, hi, rfl⟩ := List.getElem_of_mem hv2
    have := hroot i hi
    simp only at this ⊢
    rw [e0]
    show Le lt _ _
    have e2 : g (init ++ [y]) i = (init ++ [y])[i] := by
      show (init ++ [y]).getD i default = _
      rw [List.getD_eq_getElem?_getD, List.getElem?_eq_getElem hi]; rfl
    rw [← e2]; exact this
  · rename_i h
    have : init = [] := List.eq_nil_of_length_eq_zero (by omega)
    subst this
    exact ⟨.refl _, fun c h1 h2 => by simp at h2, fun v hv => nomatch hv⟩
end heap
end
theorem reset_W7 : True := by w_top off; trivial
section
set_option maxRecDepth 100000
def load (r : List Str) : Nat := (r.map fun w => w.length + 1).sum
def dealStep (st : List Str × List Str) (w : Str) : List Str × List Str := if load st.1 ≤ load st.2 then (st.1 ++ [w], st.2) else (st.1, st.2 ++ [w])
def deal (D : List Str) : List Str × List Str := D.foldl dealStep ([], [])
theorem deal_snoc (D : List Str) (w : Str) : deal (D ++ [w]) = dealStep (deal D) w := by unfold deal; rw [List.foldl_append]; rfl
theorem load_snoc (r : List Str) (w : Str) : load (r ++ [w]) = load r + (w.length + 1) := by unfold load; simp
theorem deal_perm (D : List Str) : ((deal D).1 ++ (deal D).2).Perm D := by
  induction D using snoc_ind with
  | h0 => exact .refl _
  | h1 D w ih =>
    rw [deal_snoc]
    unfold dealStep
    split
    · refine (List.Perm.trans ?_ (ih.append_right [w]))
      simp only [List.append_assoc]
      exact List.Perm.append_left _ List.perm_append_comm
    · rw [← List.append_assoc]
      exact ih.append_right [w]
theorem deal_sorted (D : List Str) (h : D.Pairwise fun a b => b.length ≤ a.length) :
    ((deal D).1.Pairwise fun a b => b.length ≤ a.length) ∧ ((deal D).2.Pairwise fun a b => b.length ≤ a.length) := by
  induction D using snoc_ind with
  | h0 => exact ⟨.nil, .nil⟩
  | h1 D w ih =>
    rw [List.pairwise_append] at h
    obtain ⟨i1, i2⟩ := ih h.1
    have sub := (deal_perm D).subset
    have q : ∀ a ∈ D, w.length ≤ a.length := fun a ha => h.2.2 a ha w (by simp)
    rw [deal_snoc]
    unfold dealStep
    split
    · exact ⟨List.pairwise_append.mpr ⟨i1, by simp, fun a ha b hb => by rw [List.mem_singleton.mp hb]; exact q a (sub (List.mem_append_left _ ha))⟩, i2⟩
    · exact ⟨i1, List.pairwise_append.mpr ⟨i2, by simp, fun a ha b hb => by rw [List.mem_singleton.mp hb]; exact q a (sub (List.mem_append_right _ ha))⟩⟩
def wordOf (ws : List Str) (key : Value → Int × Int) (v : Value) : Str := ws.getD (key v).2.toNat ""
theorem lexLt_iff (p q : Int × Int) : lexLt p q = true ↔ p.1 < q.1 ∨ (p.1 = q.1 ∧ p.2 < q.2) := by unfold lexLt; simp
theorem lexLt_not (p q : Int × Int) : lexLt p q = false ↔ ¬ (p.1 < q.1 ∨ (p.1 = q.1 ∧ p.2 < q.2)) := by rw [← lexLt_iff]; simp
theorem ord_ltK (key : Value → Int × Int) : Ord (ltK key) where
  asym := fun x y h => by
    unfold ltK at *
    rw [lexLt_iff] at h
    rw [lexLt_not]
    omega
  trans := fun x y z h1 h2 => by
    unfold Le ltK at *
    rw [lexLt_not] at *
    omega
structure HP (ws : List Str) (key : Value → Int × Int) (hs : List Value) (D : List Str) : Prop where
  perm : (hs.map (wordOf ws key) ++ D).Perm ws
  keys : ∀ v ∈ hs, ∃ j, j < ws.length ∧ key v = (-((ws.getD j "").length : Int), (j : Int))
  below : ∀ v ∈ hs, ∀ u ∈ D, (wordOf ws key v).length ≤ u.length
  sorted : D.Pairwise fun a b => b.length ≤ a.length
  heap : Hp (ltK key) 0 hs
theorem HP.pop {ws : List Str} {key : Value → Int × Int} {init : List Value} {y : Value} {D : List Str} (H : HP ws key (init ++ [y]) D) :
    HP ws key (hpop (ltK key) init y).2 (D ++ [wordOf ws key (hpop (ltK key) init y).1]) ∧ (hpop (ltK key) init y).1 ∈ init ++ [y] ∧ (hpop (ltK key) init y).2.length = init.length ∧ ∀ v ∈ (hpop (ltK key) init y).2, v ∈ init ++ [y] := by
  obtain ⟨p1, p2, p3⟩ := hpop_spec (ord_ltK key) init y H.heap
  generalize hpop (ltK key) init y = r at *
  obtain ⟨x, hs⟩ := r
  simp only at *
  have mem : ∀ v, v ∈ x :: hs → v ∈ init ++ [y] := fun v hv => p1.subset hv
  have hx := mem x (.head _)
  have lenOf : ∀ v ∈ init ++ [y], (key v).1 = -((wordOf ws key v).length : Int) := fun v hv => by
    obtain ⟨j, _, e⟩ := H.keys v hv
    unfold wordOf; rw [e]; simp
  refine ⟨⟨?_, fun v hv => H.keys v (mem v (.tail _ hv)), ?_, ?_, p2⟩, hx, ?_, fun v hv => mem v (.tail _ hv)⟩
  · refine List.Perm.trans ?_ H.perm
    have e : (hs.map (wordOf ws key) ++ (D ++ [wordOf ws key x])).Perm (wordOf ws key x :: (hs.map (wordOf ws key) ++ D)) := by
      rw [← List.append_assoc]; exact List.perm_append_comm
    exact e.trans ((p1.map (wordOf ws key)).append_right D)
  · intro v hv u hu
    rcases List.mem_append.mp hu with hu | hu
    · exact H.below v (mem v (.tail _ hv)) u hu
    · rw [List.mem_singleton.mp hu]
      have h1 := p3 v hv
      unfold Le ltK at h1
      rw [lexLt_not] at h1
      have h2 := lenOf v (mem v (.tail _ hv))
      have h3 := lenOf x hx
      omega
  · refine List.pairwise_append.mpr ⟨H.sorted, by simp, fun a ha b hb => ?_⟩
    rw [List.mem_singleton.mp hb]
    exact H.below x hx a ha
  · have := p1.length_eq
    simp at this
    exact this
theorem range_getD (ws : List Str) : (List.range ws.length).map (fun j => ws.getD j "") = ws := by
  apply List.ext_getElem
  · simp
  · intro i h1 h2
    simp [h2]
theorem HP.start {ws : List Str} {ys : List Value} {own : List (Addr × Obj)} {h : Heap} (hn : ys.length = ws.length) (hp : PairsAt ws ys own) (hN : ∀ p ∈ own, h.get? p.1 = some p.2) (hs : List Value) (hperm : hs.Perm ys) (hheap : Hp (ltK (keyH h)) 0 hs) : HP ws (keyH h) hs [] := by
  have kk : ∀ j, j < ys.length → ∃ v, ys[j]? = some v ∧ keyH h v = (-((ws.getD j "").length : Int), (j : Int)) := fun j hj => by
    obtain ⟨a, t, u, e1, e2⟩ := hp j hj
    exact ⟨_, e1, keyH_two (hN _ e2)⟩
  refine ⟨?_, ?_, (fun v _ u hu => by cases hu), .nil, hheap⟩
  · rw [List.append_nil]
    refine (hperm.map _).trans ?_
    have : ys.map (wordOf ws (keyH h)) = ws := by
      apply List.ext_getElem
      · simp [hn]
      · intro i h1 h2
        have hi : i < ys.length := by simpa using h1
        obtain ⟨v, e1, e2⟩ := kk i hi
        rw [List.getElem?_eq_getElem hi] at e1
        rw [List.getElem_map, Option.some.inj e1]
        unfold wordOf
        rw [e2]
        simp [h2]
    rw [this]
  · intro v hv
    obtain ⟨i, hi, rfl⟩ := List.getElem_of_mem (hperm.subset hv)
    obtain ⟨v, e1, e2⟩ := kk i hi
    rw [List.getElem?_eq_getElem hi] at e1
    rw [Option.some.inj e1]
    exact ⟨i, by omega, e2⟩
abbrev tupO (w : Str) (t u : Tok) (k : Nat) : Obj := { cls := .type "tuple", data := .seq #[.str " " t, .str w u] k }
def RowIs (own : List (Addr × Obj)) (items : Array Value) (r : List Str) : Prop :=
  items.size = r.length ∧ ∀ j, j < r.length → ∃ T t u k, items[j]? = some (.ref T) ∧ (T, tupO (r.getD j "") t u k) ∈ own
theorem RowIs.mono {own own' : List (Addr × Obj)} {items : Array Value} {r : List Str} (R : RowIs own items r) (h : ∀ p ∈ own, p ∈ own') : RowIs own' items r :=
  ⟨R.1, fun j hj => let ⟨T, t, u, k, e1, e2⟩ := R.2 j hj; ⟨T, t, u, k, e1, h _ e2⟩⟩
theorem RowIs.nil {own : List (Addr × Obj)} : RowIs own #[] [] := ⟨rfl, fun j hj => absurd hj (by simp)⟩
theorem RowIs.push {own : List (Addr × Obj)} {items : Array Value} {r : List Str} {w : Str} {T : Addr} {t u : Tok} {k : Nat} (R : RowIs own items r) (hT : (T, tupO w t u k) ∈ own) : RowIs own (items.push (.ref T)) (r ++ [w]) := by
  refine ⟨by simp [R.1], fun j hj => ?_⟩
  rw [List.length_append, List.length_singleton] at hj
  by_cases h : j = r.length
  · subst h
    exact ⟨T, t, u, k, by rw [← R.1]; simp, by simpa using hT⟩
  · obtain ⟨T', t', u', k', e1, e2⟩ := R.2 j (by omega)
    have hj' : j < items.size := by rw [R.1]; omega
    refine ⟨T', t', u', k', ?_, ?_⟩
    · rw [Array.getElem?_push_lt hj']
      rw [Array.getElem?_eq_getElem hj'] at e1
      exact e1
    · have : (r ++ [w]).getD j "" = r.getD j "" := by
        rw [List.getD_eq_getElem?_getD, List.getD_eq_getElem?_getD, List.getElem?_append_left (by omega)]
      rw [this]; exact e2
theorem RowIs.fns {own : List (Addr × Obj)} {items : Array Value} {r : List Str} (R : RowIs own items r) : ∃ (Ts : Nat → Addr) (ta tb : Nat → Tok), ∀ j, j < items.size → items[j]? = some (.ref (Ts j)) ∧ ∃ k, (Ts j, tupO (r.getD j "") (ta j) (tb j) k) ∈ own := by
  have h : ∀ j, ∃ q : Addr × Tok × Tok, j < items.size → items[j]? = some (.ref q.1) ∧ ∃ k, (q.1, tupO (r.getD j "") q.2.1 q.2.2 k) ∈ own := fun j => by
    by_cases hj : j < items.size
    · obtain ⟨T, t, u, k, e1, e2⟩ := R.2 j (by rw [← R.1]; exact hj)
      exact ⟨(T, t, u), fun _ => ⟨e1, k, e2⟩⟩
    · exact ⟨default, fun h => absurd h hj⟩
  exact ⟨fun j => (Classical.choose (h j)).1, fun j => (Classical.choose (h j)).2.1, fun j => (Classical.choose (h j)).2.2, fun j hj => Classical.choose_spec (h j) hj⟩
theorem blank_len : (" " : Str).length = 1 := by decide +kernel
theorem preSum_load (r : List Str) : preSum (fun i => ((" " : Str).length : Int) + ((r.getD i "").length : Int)) r.length = (load r : Int) := by
  have gen : ∀ k, k ≤ r.length → preSum (fun i => ((" " : Str).length : Int) + ((r.getD i "").length : Int)) k = (load (r.take k) : Int) := by
    intro k
    induction k with
    | zero => intro _; rfl
    | succ k ih =>
      intro hk
      rw [preSum, ih (by omega), List.take_add_one, List.getElem?_eq_getElem (by omega : k < r.length)]
      show _ = ((load (r.take k ++ [r[k]]) : Nat) : Int)
      rw [load_snoc, blank_len]
      have : r.getD k "" = r[k]'(by omega) := by rw [List.getD_eq_getElem?_getD, List.getElem?_eq_getElem (by omega)]; rfl
      rw [this]
      omega
  have := gen r.length (Nat.le_refl _)
  rw [List.take_length] at this
  exact this
def ShortIs (own : List (Addr × Obj)) (va vb : Value) (l0 l1 : Nat) : Prop :=
  ∃ a b t1 t2 t3 t4 n1 n2 la ra lb rb, va = .ref a ∧ vb = .ref b ∧ (a, two la ra t1 t2 n1) ∈ own ∧ (b, two lb rb t3 t4 n2) ∈ own ∧
    ((ra = 0 ∧ rb = 1 ∧ la = l0 ∧ lb = l1 ∧ l0 ≤ l1) ∨ (ra = 1 ∧ rb = 0 ∧ la = l1 ∧ lb = l0 ∧ l1 < l0))
def DealtJ (g' : Heap) (L' : Addr) (s0 : Shared) (ws : List Str) (key : Value → Int × Int) (x0 d0 x1 d1 R D SL : Addr) (cst : List (Addr × Obj)) (c : Nat) (s' : Shared) : Prop :=
  ∃ h' tk g m' ps' hs kH va vb kS i0 n0 i1 n1 own Dn, s' = { s0 with heap := h', toks := tk, gens := g } ∧ c = hs.length ∧
    (Fr g' L' h' m' ∧ News g' L' h' ((D, listOf hs.toArray kH) :: (SL, listOf #[va, vb] kS) :: (x0, accO d0 i0 n0) :: (x1, accO d1 i1 n1) :: (63, tabO ps') :: own)) ∧
    (TabOk ⟨26, 19, 26, 63⟩ ps' ∧ AllBare g ∧ m' "rows" = some (.ref R) ∧ m' "shorter" = some (.ref SL) ∧ m' "heap" = some (.ref D)) ∧
    ((∀ p ∈ cst, p ∈ own) ∧ ∀ p ∈ own, p.1 ≠ D ∧ p.1 ≠ SL ∧ p.1 ≠ x0 ∧ p.1 ≠ x1 ∧ p.1 ≠ 63) ∧
    Keyed own key hs ∧ HP ws key hs Dn ∧ RowIs own i0 (deal Dn).1 ∧ RowIs own i1 (deal Dn).2 ∧ ShortIs own va vb (load (deal Dn).1) (load (deal Dn).2)
end
theorem reset_W8 : True := by w_top off; trivial
section
set_option maxRecDepth 100000
open PyProof.Rows.LCg (NsObj ns_obj)
section
variable {prog : Program} {w : World} {A : Around} {E : Value → Shared → Prop} {s : Shared} {h₀ : Heap} {L : Addr} {m : Str → Option Value} {env : Env}
theorem comp_pair_store {a b : Str} {pa pb tp : Pos} {kk : Nat} {scope : Scope} {cl : List (Str × Addr)} {I C D T : Addr} {oI oC : Obj} {m₂ : Str → Option Value} {h : Heap} {tk : Nat} {g : Array GenState} {k : Nat} {ys : List Value} {x y : Value} {news' : List (Addr × Obj)} {Q : Unit → Shared → Prop} {E' : Value → Shared → Prop}
    (hh : A.handled = none) (ha : scope.names.lookup a = some .local) (hb : scope.names.lookup b = some .local) (hkind : scope.kind = .function) (nC : NsObj oC m₂) (F' : Fr h₀ L h m) (N' : News h₀ L h ((I, oI) :: (C, oC) :: (D, listOf ys.toArray k) :: news'))
    (off : ∀ p ∈ news', p.1 ≠ I ∧ p.1 ≠ C ∧ p.1 ≠ D) (ne : I ≠ C ∧ I ≠ D ∧ C ≠ D) (hT : (∃ n, (T, ({ cls := .type "tuple", data := .seq #[x, y] n } : Obj)) ∈ news') ∨ ∃ n, (T, listOf #[x, y] n) ∈ news')
    (hq : ∀ h₃ tk₃ oC', NsObj oC' (fun z => if z = b then some y else if z = a then some x else m₂ z) → Fr h₀ L h₃ m → News h₀ L h₃ ((I, oI) :: (C, oC') :: (D, listOf ys.toArray k) :: news') → Q () { s with heap := h₃, toks := tk₃, gens := g }) :
    wpAny (model prog w) A (assign (.Tuple [.Name a pa, .Name b pb] kk tp) (compEnvC scope cl C env) (.ref T)) Q E' { s with heap := h, toks := tk, gens := g } := by
  have zC := N' (C, oC) (.tail _ (.head _))
  have hp : ((compEnvC scope cl C env).scope.kind == .class || ((compEnvC scope cl C env).scope.kind == .module && (compEnvC scope cl C env).locals != (compEnvC scope cl C env).globals)) = false := by simp [compEnvC, relabel, hkind]
  rcases hT with ⟨n, hT⟩ | ⟨n, hT⟩
  · have hT2 : h.IsTuple T #[x, y] := ⟨_, (N' _ (.tail _ (.tail _ (.tail _ hT)))).1, rfl, n, rfl⟩
    refine kcp_assign (s := { s with heap := h, toks := tk, gens := g }) (env := compEnvC scope cl C env) hh hT2 (lookup_relabel_local ha) (lookup_relabel_local hb) hp (nC.ns zC.1) fun h₄ tk₄ hn₄ hs₄ => ?_
    obtain ⟨oC', eC', nC'⟩ := ns_obj hn₄
    refine hq h₄ tk₄ oC' nC' ⟨F'.ns.at' fun o e => hs₄ L o (fun q => zC.2.1 q.symm) e, fun b o e => hs₄ b o (fun q => by have q : b = C := q; rw [q, zC.2.2] at e; cases e) (F'.keep b o e), F'.above⟩ fun p hp => ?_
    rcases List.mem_cons.mp hp with rfl | hp
    · exact ⟨hs₄ _ _ ne.1 (N' _ (.head _)).1, (N' _ (.head _)).2⟩
    rcases List.mem_cons.mp hp with rfl | hp
    · exact ⟨eC', zC.2⟩
    rcases List.mem_cons.mp hp with rfl | hp
    · exact ⟨hs₄ _ _ ne.2.2.symm (N' _ (.tail _ (.tail _ (.head _)))).1, (N' _ (.tail _ (.tail _ (.head _)))).2⟩
    · have z := N' p (.tail _ (.tail _ (.tail _ hp)))
      exact ⟨hs₄ _ _ (off p hp).2.1 z.1, z.2⟩
  · refine kun_list (s := { s with heap := h, toks := tk, gens := g }) F' N' (newsLst N' (.tail _ (.tail _ (.tail _ hT)))) hh rfl rfl fun h₁ F₁ N₁ => ?_
    show wpAny _ _ (assignInOrder [assign (.Name a pa) (compEnvC scope cl C env), assign (.Name b pb) (compEnvC scope cl C env)] [x, y]) _ _ _
    refine assignInOrder_cons ?_
    refine comp_store ha hkind nC F₁ N₁ off ne fun h₂ tk₂ oC₂ nC₂ F₂ N₂ => ?_
    refine assignInOrder_cons ?_
    refine comp_store hb hkind nC₂ F₂ N₂ off ne fun h₃ tk₃ oC₃ nC₃ F₃ N₃ => ?_
    exact assignInOrder_nil (hq h₃ tk₃ oC₃ nC₃ F₃ N₃)
theorem comp_pair {elt iter : Expr} {a b : Str} {pa pb tp : Pos} {kk : Nat} {scope : Scope} {cl : List (Str × Addr)} {pos : Pos} {use : Option (Value → Sem Unit)} {Q : Value → Shared → Prop} {l : Addr} {its : Array Value} {news : List (Addr × Obj)}
    (J : Nat → List Value → Array GenState → List (Addr × Obj) → Prop) (xa xb : Nat → Value) (hh : A.handled = none) (F : Fr h₀ L s.heap m) (N : News h₀ L s.heap news) (hJ : J 0 [] s.gens news) (hsz : its.size < 10000)
    (hsrc : ∀ i ys g nw, J i ys g nw → ∃ k, (l, listOf its k) ∈ nw)
    (hcell : ∀ y ∈ scope.names, y.2 ≠ .cell) (hkind : scope.kind = .function) (ha : scope.names.lookup a = some .local) (hb : scope.names.lookup b = some .local) (hab : a ≠ b)
    (hitem : ∀ i ys g nw v, i < its.size → its[i]? = some v → J i ys g nw → ∃ T, v = .ref T ∧ ((∃ n, (T, ({ cls := .type "tuple", data := .seq #[xa i, xb i] n } : Obj)) ∈ nw) ∨ ∃ n, (T, listOf #[xa i, xb i] n) ∈ nw))
    (turn : ∀ I i ys g news' C oC D oI m₂ h tk k (E' : Value → Shared → Prop), i < its.size → ys.length = i → J i ys g news' → NsObj oC m₂ → m₂ a = some (xa i) → m₂ b = some (xb i) → Fr h₀ L h m → News h₀ L h ((I, oI) :: (C, oC) :: (D, listOf ys.toArray k) :: news') →
      (∀ p ∈ news', p.1 ≠ I ∧ p.1 ≠ C ∧ p.1 ≠ D) → (I ≠ C ∧ I ≠ D ∧ C ≠ D) →
      wpAny (model prog w) A (eval elt (compEnvC scope cl C env)) (TurnEnd h₀ L m s I oI C D k ys (J (i + 1))) E' { s with heap := h, toks := tk, gens := g })
    (hRR : ∀ D C h tk g m' ys news' k, ys.length = its.size → J its.size ys g news' → Fr h₀ L h m → News h₀ L h ((D, listOf ys.toArray k) :: news') → (∀ p ∈ news', p.1 ≠ C ∧ p.1 ≠ D) → h.Ns C m' → h₀.get? C = none → C ≠ L → C ≠ D →
      compPost (model prog w) A E use Q (.ref D) C (.ok .next) { s with heap := h, toks := tk, gens := g }) :
    wpAny (model prog w) A (pyIter (.ref l)) (CompGo prog w A E env elt (.Tuple [.Name a pa, .Name b pb] kk tp) iter scope cl pos use Q) E s := by
  refine comp_list J hh F N hJ hsz hsrc hcell hkind (fun I i ys v g news' C oC D oI m₂ h tk k E' hi hyl hv hJ' nC F' N' off ne it => ?_) hRR
  obtain ⟨T, rfl, hT⟩ := hitem i ys g news' v hi hv hJ'
  obtain ⟨l', j', hit⟩ := it
  refine wpAny_letOwnedTupleGo_listiter (s := { s with heap := h, toks := tk, gens := g }) hit ?_
  refine comp_pair_store hh ha hb hkind nC F' N' off ne hT fun h₃ tk₃ oC' nC' F₃ N₃ => ?_
  exact turn I i ys g news' C oC' D oI _ h₃ tk₃ k E' hi hyl hJ' nC' (by rw [if_neg hab, if_pos rfl]) (if_pos rfl) F₃ N₃ off ne
end
end
theorem reset_W9 : True := by w_top off; trivial
section
set_option maxRecDepth 100000
open PyProof.Rows.LCg (NsObj ns_obj)
def srcOf (fp : List Addr) (h : Heap) : List (Addr × Obj) := fp.filterMap fun b => (h.get? b).map fun o => (b, o)
theorem srcOf_mem {fp : List Addr} {h : Heap} {p : Addr × Obj} : p ∈ srcOf fp h ↔ p.1 ∈ fp ∧ h.get? p.1 = some p.2 := by
  unfold srcOf
  rw [List.mem_filterMap]
  constructor
  · rintro ⟨b, hb, e⟩
    cases q : h.get? b with
    | none => rw [q] at e; cases e
    | some o => rw [q] at e; cases e; exact ⟨hb, q⟩
  · rintro ⟨hb, e⟩
    exact ⟨p.1, hb, by rw [e]; rfl⟩
section
variable {prog : Program} {w : World} {A : Around} {E : Value → Shared → Prop} {s : Shared} {h₀ : Heap} {L : Addr} {m : Str → Option Value} {env : Env}
theorem comp_blockU {elt iter : Expr} {a b : Str} {pa pb tp : Pos} {kk : Nat} {scope : Scope} {cl : List (Str × Addr)} {pos : Pos} {s₂ : Shared} {I : Addr} {fp wr : List Addr} {n : Nat} {Pt : Nat → Array Value → Prop} {St : Nat → Heap → Prop} {Mid : Nat → Addr → Heap → Prop} {news : List (Addr × Obj)}
    {RR : Value → Addr → Result → Shared → Prop} (J : Nat → List Value → Array GenState → List (Addr × Obj) → Prop) (hh : A.handled = none)
    (W : WalksU prog w A I fp wr n Pt St Mid) (hsz : n < 10000) (hPt : ∀ i vals, Pt i vals → ∃ x y, vals = #[x, y])
    (hcell : ∀ y ∈ scope.names, y.2 ≠ .cell) (hkind : scope.kind = .function) (ha : scope.names.lookup a = some .local) (hb : scope.names.lookup b = some .local) (hab : a ≠ b) (hst : St 0 s₂.heap) (hfp : ∀ b ∈ fp, b < s₂.heap.objs.size)
    (F : Fr h₀ L s₂.heap m) (N : News h₀ L s₂.heap news) (hIL : L ∉ fp) (hI₀ : ∀ b ∈ fp, h₀.get? b = none) (off : ∀ p ∈ news, p.1 ∉ wr) (hJ : J 0 [] s₂.gens news)
    (turn : ∀ i ys x y g news' C oC D src m₂ h tk k (E' : Value → Shared → Prop), i < n → ys.length = i → Pt i #[x, y] → J i ys g news' → NsObj oC m₂ → m₂ a = some x → m₂ b = some y → Fr h₀ L h m → News h₀ L h ((C, oC) :: (D, listOf ys.toArray k) :: (src ++ news')) →
      (∀ p ∈ news', p.1 ∉ wr ∧ p.1 ≠ C ∧ p.1 ≠ D) → (C ≠ D ∧ ∀ b ∈ fp, b < D) → (∀ p ∈ src, p.1 ∈ fp) →
      wpAny (model prog w) A (eval elt (compEnvC scope cl C env)) (fun v s' => ∃ h' tk' g' oC' m' news2, s' = { s₂ with heap := h', toks := tk', gens := g' } ∧ Fr h₀ L h' m ∧ NsObj oC' m' ∧ News h₀ L h' ((C, oC') :: (D, listOf ys.toArray k) :: (src ++ news2)) ∧ (∀ p ∈ news2, p.1 ∉ wr ∧ p.1 ≠ C ∧ p.1 ≠ D) ∧ J (i + 1) (ys ++ [v]) g' news2) E' { s₂ with heap := h, toks := tk, gens := g })
    (hRR : ∀ D C h tk g m' ys news' k, ys.length = n → J n ys g news' → Fr h₀ L h m → News h₀ L h ((D, listOf ys.toArray k) :: news') → (∀ p ∈ news', p.1 ≠ C ∧ p.1 ≠ D) → h.Ns C m' → h₀.get? C = none → C ≠ L → C ≠ D → RR (.ref D) C (.ok .next) { s₂ with heap := h, toks := tk, gens := g }) :
    wpAny (model prog w) A (newList []) (fun acc s₃ => wpAny (model prog w) A (newFunctionEnv scope env.globals cl [] env.qual none .none (some env)) (fun cenv s₄ =>
      codeAny (model prog w) A (.compStart (.ListComp elt [⟨.Tuple [.Name a pa, .Name b pb] kk tp, iter, [], 0⟩] scope pos) 0 (.ref I) acc { cenv with scope := relabel scope env }) (RR acc cenv.locals) s₄) E s₃) E s₂ := by
  refine wpAny_newObj_type (wpAny_newFunctionEnv hcell (by intro y hy; simp at hy) (fun h₁ hns₁ hsb₁ => ?_) hkind)
  dsimp only at hns₁ hsb₁ ⊢
  generalize hH2 : s₂.heap.push { cls := .type "list", dict := none, data := .seq ([] : List Value).toArray } = H2 at hns₁ hsb₁ ⊢
  have up2 : ∀ b o, s₂.heap.get? b = some o → H2.get? b = some o := fun b o e => by rw [← hH2]; exact Heap.get?_push_of_some _ e
  have sz2 : H2.objs.size = s₂.heap.objs.size + 1 := by rw [← hH2, Heap.size_push]
  generalize hD : s₂.heap.objs.size = D at *
  generalize hC : H2.objs.size = C at *
  have lt0 : ∀ b o, s₂.heap.get? b = some o → b < D := fun b o e => hD ▸ Heap.lt_size e
  have ltC : ∀ b, b < D → b ≠ C ∧ b ≠ D := fun b hb => ⟨Nat.ne_of_lt (by rw [sz2]; exact Nat.lt_succ_of_lt hb), Nat.ne_of_lt hb⟩
  have hCD : C ≠ D := by rw [sz2]; exact Nat.ne_of_gt (Nat.lt_succ_self _)
  have up : ∀ b o, s₂.heap.get? b = some o → h₁.get? b = some o := fun b o e => hsb₁.extBut b o (ltC b (lt0 b o e)).1 (Heap.get?_push_of_some _ (up2 b o e))
  have aD : h₁.get? D = some (listOf [].toArray 0) := hsb₁.extBut _ _ hCD.symm (Heap.get?_push_of_some _ (by rw [← hH2, ← hD]; exact Heap.get?_push_size _ rfl))
  have new0 : ∀ b, D ≤ b → h₀.get? b = none := fun b hb => by
    cases e : h₀.get? b with
    | none => rfl
    | some o => exact absurd (lt0 b o (F.keep b o e)) (Nat.not_lt.mpr hb)
  have D0 : h₀.get? D = none := new0 D (Nat.le_refl _)
  have C0 : h₀.get? C = none := new0 C (by rw [sz2]; exact Nat.le_succ _)
  have hL : L < D := hD ▸ F.ns.lt
  have hCL : C ≠ L := fun q => (ltC L hL).1 q.symm
  have hDL : D ≠ L := fun q => (ltC L hL).2 q.symm
  have hCf : C ∉ fp := fun hm => (ltC C (hfp C hm)).1 rfl
  have hDf : D ∉ fp := fun hm => (ltC D (hfp D hm)).2 rfl
  have hwf : ∀ b ∈ wr, b ∈ fp := W.sub
  obtain ⟨oC0, eC0, nC0⟩ := ns_obj hns₁
  have loop : codeAny (model prog w) A (.compLoop (.ListComp elt [⟨.Tuple [.Name a pa, .Name b pb] kk tp, iter, [], 0⟩] scope pos) 0 (.ref I) (.ref D) (compEnvC scope cl C env)) (RR (.ref D) C) { s₂ with heap := h₁, toks := s₂.toks + ([] : List (Str × Value)).length } := by
    refine compLoop_gen
      (fun c s' => ∃ h' tk g i k ys oC m' news', s' = { s₂ with heap := h', toks := tk, gens := g } ∧ i ≤ n ∧ c = n + 1 - i ∧ ys.length = i ∧ St i h' ∧ Fr h₀ L h' m ∧ NsObj oC m' ∧ News h₀ L h' ((C, oC) :: (D, listOf ys.toArray k) :: news') ∧
        (∀ p ∈ news', p.1 ∉ wr ∧ p.1 ≠ C ∧ p.1 ≠ D) ∧ J i ys g news') ?_ (n + 1)
      ⟨h₁, _, _, 0, 0, [], oC0, _, news, rfl, Nat.zero_le _, rfl, rfl, W.frame _ _ _ hst fun b _ o e => up b o e, F.keeps up, nC0, fun p hp => ?_, fun p hp => ⟨off p hp, ltC _ (lt0 _ _ (N p hp).1)⟩, hJ⟩
    · rintro c s' E' ⟨h', tk, g, i, k, ys, oC, m', news', rfl, hi, rfl, hyl, hst', F', nC, N', off', hJ'⟩
      have offA : ∀ p ∈ (C, oC) :: (D, listOf ys.toArray k) :: news', p.1 ∉ wr := fun p hp => by
        rcases List.mem_cons.mp hp with rfl | hp
        · exact fun hm => hCf (hwf _ hm)
        rcases List.mem_cons.mp hp with rfl | hp
        · exact fun hm => hDf (hwf _ hm)
        · exact (off' p hp).1
      have keepN : ∀ {h' h₂ : Heap}, (∀ b o, b ∉ wr → h'.get? b = some o → h₂.get? b = some o) → Fr h₀ L h' m → News h₀ L h' ((C, oC) :: (D, listOf ys.toArray k) :: news') → Fr h₀ L h₂ m ∧ News h₀ L h₂ ((C, oC) :: (D, listOf ys.toArray k) :: news') := fun hk F' N' =>
        ⟨⟨F'.ns.at' fun o e => hk L o (fun hm => hIL (hwf _ hm)) e, fun b o e => hk b o (fun hm => by rw [hI₀ b (hwf _ hm)] at e; cases e) (F'.keep b o e), F'.above⟩, fun p hp => ⟨hk _ _ (offA p hp) (N' p hp).1, (N' p hp).2⟩⟩
      by_cases hlt : i < n
      · refine W.item i _ _ _ hlt hst' fun T vals h₂ tk₂ hPv hT₂ hmid hk₂ => ?_
        obtain ⟨x, y, rfl⟩ := hPt i vals hPv
        obtain ⟨F₂, N₂⟩ := keepN hk₂ F' N'
        have hTw := W.apart i T _ hmid
        refine W.go _ _ _ i T _ _ _ hmid fun h₃ hst₃ hk₃ => ?_
        obtain ⟨F₃, N₃⟩ := keepN hk₃ F₂ N₂
        have hT₃ : h₃.IsTuple T #[x, y] := hT₂.at fun o e => hk₃ T o hTw e
        have zC := N₃ (C, oC) (.head _)
        have hp : ((compEnvC scope cl C env).scope.kind == .class || ((compEnvC scope cl C env).scope.kind == .module && (compEnvC scope cl C env).locals != (compEnvC scope cl C env).globals)) = false := by simp [compEnvC, relabel, hkind]
        refine kcp_assign (s := { s₂ with heap := h₃, toks := tk₂, gens := g }) (env := compEnvC scope cl C env) hh hT₃ (lookup_relabel_local ha) (lookup_relabel_local hb) hp (nC.ns zC.1) fun h₄ tk₄ hn₄ hs₄ => ?_
        obtain ⟨oC4, eC4, nC4⟩ := ns_obj hn₄
        have F₄ : Fr h₀ L h₄ m := ⟨F₃.ns.at' fun o e => hs₄ L o (fun q => hCL q.symm) e, fun b o e => hs₄ b o (fun q => by have q : b = C := q; rw [q, C0] at e; cases e) (F₃.keep b o e), F₃.above⟩
        have hst₄ : St (i + 1) h₄ := W.frame _ _ _ hst₃ fun b hb o e => hs₄ b o (fun q => hCf (by have q : b = C := q; rw [← q]; exact hb)) e
        have N₄ : News h₀ L h₄ ((C, oC4) :: (D, listOf ys.toArray k) :: (srcOf fp h₄ ++ news')) := fun p hp => by
          rcases List.mem_cons.mp hp with rfl | hp
          · exact ⟨eC4, zC.2⟩
          rcases List.mem_cons.mp hp with rfl | hp
          · exact ⟨hs₄ _ _ hCD.symm (N₃ _ (.tail _ (.head _))).1, (N₃ _ (.tail _ (.head _))).2⟩
          rcases List.mem_append.mp hp with hp | hp
          · obtain ⟨q1, q2⟩ := srcOf_mem.mp hp
            exact ⟨q2, fun q => hIL (q ▸ q1), hI₀ _ q1⟩
          · have z := N₃ p (.tail _ (.tail _ hp))
            exact ⟨hs₄ _ _ (off' p hp).2.1 z.1, z.2⟩
        refine wpAny_mono (turn i ys x y g news' C oC4 D (srcOf fp h₄) _ h₄ tk₄ k _ hlt hyl hPv hJ' nC4 (by rw [if_neg hab, if_pos rfl]) (if_pos rfl) F₄ N₄ off' ⟨hCD, hfp⟩ fun p hp => (srcOf_mem.mp hp).1) (fun v s₆ h₆ => ?_) fun _ _ e => e
        obtain ⟨h₆, tk₆, g₆, oC₆, m₆, news₆, rfl, F₆, nC₆, N₆, off₆, hJ₆⟩ := h₆
        have N₆' : News h₀ L h₆ ((D, listOf ys.toArray k) :: (C, oC₆) :: (srcOf fp h₄ ++ news₆)) := fun p hp => N₆ p (by
          rcases List.mem_cons.mp hp with rfl | hp
          · exact .tail _ (.head _)
          rcases List.mem_cons.mp hp with rfl | hp
          · exact .head _
          · exact .tail _ (.tail _ hp))
        refine appendLU F₆ N₆' (.head fun p hp => ?_) (by omega) fun h₇ F₇ N₇ => ?_
        · rcases List.mem_cons.mp hp with rfl | hp
          · exact hCD
          rcases List.mem_append.mp hp with hp | hp
          · exact fun q => hDf (q ▸ (srcOf_mem.mp hp).1)
          · exact (off₆ p hp).2.2
        · refine ⟨n + 1 - (i + 1), by omega, h₇, tk₆, g₆, i + 1, k + 1, ys ++ [v], oC₆, m₆, news₆, rfl, hlt, rfl, by rw [List.length_append, List.length_singleton, hyl], W.frame _ _ _ hst₄ fun b hb o e => ?_, F₇, nC₆, fun p hp => ?_, off₆, hJ₆⟩
          · exact (N₇ (b, o) (.tail _ (.tail _ (List.mem_append_left _ (srcOf_mem.mpr ⟨hb, e⟩))))).1
          · rcases List.mem_cons.mp hp with rfl | hp
            · exact N₇ _ (.tail _ (.head _))
            rcases List.mem_cons.mp hp with rfl | hp
            · exact N₇ _ (.head _)
            · exact N₇ _ (.tail _ (.tail _ (List.mem_append_right _ hp)))
      · obtain rfl : i = n := Nat.le_antisymm hi (Nat.not_lt.mp hlt)
        refine W.done _ _ _ hst' fun h₂ tk₂ hk₂ => ?_
        obtain ⟨F₂, N₂⟩ := keepN hk₂ F' N'
        exact hRR D C h₂ tk₂ g m' ys news' k hyl hJ' F₂ (fun p hp => N₂ p (.tail _ hp)) (fun p hp => (off' p hp).2) (nC.ns (N₂ _ (.head _)).1) C0 hCL hCD
    · rcases List.mem_cons.mp hp with rfl | hp
      · exact ⟨eC0, hCL, C0⟩
      rcases List.mem_cons.mp hp with rfl | hp
      · exact ⟨aD, hDL, D0⟩
      · exact ⟨up _ _ (N p hp).1, (N p hp).2⟩
  exact codeAny_compStart_list loop (W.self 0 _ _ _ (W.frame _ _ _ hst fun b _ o e => up b o e) loop)
end
section
variable {prog : Program} {w : World} {A : Around} {E : Value → Shared → Prop} {s : Shared} {h₀ : Heap} {L : Addr} {m : Str → Option Value} {env : Env}
theorem comp_zip {elt iter : Expr} {a b : Str} {pa pb tp : Pos} {kk : Nat} {scope : Scope} {cl : List (Str × Addr)} {pos : Pos} {use : Option (Value → Sem Unit)} {Q : Value → Shared → Prop} {l1 l2 : Addr} {xs ys0 : Array Value} {c1 c2 : Nat} {news : List (Addr × Obj)}
    (J : Nat → List Value → Array GenState → List (Addr × Obj) → Prop) (hh : A.handled = none) (hsz : min xs.size ys0.size < 10000)
    (hcell : ∀ y ∈ scope.names, y.2 ≠ .cell) (hkind : scope.kind = .function) (ha : scope.names.lookup a = some .local) (hb : scope.names.lookup b = some .local) (hab : a ≠ b)
    (F : Fr h₀ L s.heap m) (N : News h₀ L s.heap news) (m1 : (l1, listOf xs c1) ∈ news) (m2 : (l2, listOf ys0 c2) ∈ news) (hJ : J 0 [] s.gens news)
    (turn : ∀ i ys x y g news' C oC D src m₂ h tk k (E' : Value → Shared → Prop), i < min xs.size ys0.size → ys.length = i → xs[i]? = some x → ys0[i]? = some y → J i ys g news' → NsObj oC m₂ → m₂ a = some x → m₂ b = some y → Fr h₀ L h m → News h₀ L h ((C, oC) :: (D, listOf ys.toArray k) :: (src ++ news')) →
      (∀ p ∈ news', p.1 ≠ C ∧ p.1 ≠ D) → (C ≠ D) →
      wpAny (model prog w) A (eval elt (compEnvC scope cl C env)) (fun v s' => ∃ h' tk' g' oC' m' o new, s' = { s with heap := h', toks := tk', gens := g' } ∧ Fr h₀ L h' m ∧ NsObj oC' m' ∧ News h₀ L h' ((new, o) :: (C, oC') :: (D, listOf ys.toArray k) :: (src ++ news')) ∧ (∀ p ∈ (C, oC) :: (D, listOf ys.toArray k) :: (src ++ news'), p.1 < new) ∧ J (i + 1) (ys ++ [v]) g' ((new, o) :: news')) E' { s with heap := h, toks := tk, gens := g })
    (hRR : ∀ D C h tk g m' ys news' k, ys.length = min xs.size ys0.size → J (min xs.size ys0.size) ys g news' → Fr h₀ L h m → News h₀ L h ((D, listOf ys.toArray k) :: news') → (∀ p ∈ news', p.1 ≠ C ∧ p.1 ≠ D) → h.Ns C m' → h₀.get? C = none → C ≠ L → C ≠ D → compPost (model prog w) A E use Q (.ref D) C (.ok .next) { s with heap := h, toks := tk, gens := g }) :
    wpAny (model prog w) A (call (.type "zip") [.ref l1, .ref l2]) (fun xv s₁ => wpAny (model prog w) A (pyIter xv) (CompGo prog w A E env elt (.Tuple [.Name a pa, .Name b pb] kk tp) iter scope cl pos use Q) E s₁) E s := by
  have hl1 := newsLst N m1
  have hl2 := newsLst N m2
  have lt : ∀ p ∈ news, p.1 < s.heap.objs.size := fun p hp => Heap.lt_size (N p hp).1
  have a1 := lt _ m1
  have a2 := lt _ m2
  have hLs : L < s.heap.objs.size := F.ns.lt
  refine call_zip_2 hl1 hl2 fun h' hz hTI hTO it1 it2 hsz5 hk => ?_
  refine wpAny_pyIter_zip hz ?_
  have F' : Fr h₀ L h' m := F.keeps hk
  have N' : News h₀ L h' news := fun p hp => ⟨hk _ _ (N p hp).1, (N p hp).2⟩
  have nw : ∀ k, h₀.get? (s.heap.objs.size + k) = none := fun k => Heap.get?_none_of_le (Nat.le_trans F.above (Nat.le_trans (Nat.le_of_lt hLs) (Nat.le_add_right _ k)))
  have dn : ∀ p ∈ news, ∀ k, p.1 ≠ s.heap.objs.size + k := fun p hp k e => Nat.ne_of_lt (Nat.lt_of_lt_of_le (lt p hp) (Nat.le_add_right _ k)) e
  have upL : ∀ k, L ≠ s.heap.objs.size + k := fun k e => Nat.ne_of_lt (Nat.lt_of_lt_of_le hLs (Nat.le_add_right _ k)) e
  refine comp_blockU (s₂ := { s with heap := h' }) (fp := [s.heap.objs.size + 4, s.heap.objs.size + 2, s.heap.objs.size + 3, s.heap.objs.size, s.heap.objs.size + 1, l1, l2]) J hh (WalksT.zip2 hh _ _ _ _ _ _ _ (zipApart_new a1 a2) xs ys0).toU hsz (fun i vals h => let ⟨x, y, _, _, e⟩ := h; ⟨x, y, e⟩) hcell hkind ha hb hab
    ⟨hz, hTI, ⟨_, _, hTO⟩, it1, it2, hl1.at fun o e => hk l1 o e, hl2.at fun o e => hk l2 o e⟩ ?_ F' N' ?_ ?_ ?_ hJ ?_ ?_
  · intro b hb
    show b < h'.objs.size
    rw [hsz5]
    simp only [List.mem_cons, List.not_mem_nil, or_false] at hb
    have aa1 : @LT.lt Nat _ l1 s.heap.objs.size := a1
    have aa2 : @LT.lt Nat _ l2 s.heap.objs.size := a2
    rcases hb with rfl | rfl | rfl | rfl | rfl | rfl | rfl
    · exact Nat.add_lt_add_left (by decide) _
    · exact Nat.add_lt_add_left (by decide) _
    · exact Nat.add_lt_add_left (by decide) _
    · exact Nat.lt_add_of_pos_right (by decide)
    · exact Nat.add_lt_add_left (by decide) _
    · exact Nat.lt_of_lt_of_le aa1 (Nat.le_add_right _ _)
    · exact Nat.lt_of_lt_of_le aa2 (Nat.le_add_right _ _)
  · intro hm
    simp only [List.mem_cons, List.not_mem_nil, or_false] at hm
    rcases hm with e | e | e | e | e | e | e
    · exact upL 4 e
    · exact upL 2 e
    · exact upL 3 e
    · exact upL 0 e
    · exact upL 1 e
    · exact (N _ m1).2.1 e.symm
    · exact (N _ m2).2.1 e.symm
  · intro b hb
    simp only [List.mem_cons, List.not_mem_nil, or_false] at hb
    rcases hb with rfl | rfl | rfl | rfl | rfl | rfl | rfl
    · exact nw 4
    · exact nw 2
    · exact nw 3
    · exact nw 0
    · exact nw 1
    · exact (N _ m1).2.2
    · exact (N _ m2).2.2
  · intro p hp hm
    simp only [List.mem_cons, List.not_mem_nil, or_false] at hm
    rcases hm with e | e | e | e
    · exact dn p hp 4 e
    · exact dn p hp 3 e
    · exact dn p hp 0 e
    · exact dn p hp 1 e
  · rintro i ys x y g news' C oC D src m₂ h tk k E' hi hyl hP hJ' nC hma hmb F2 N2 off2 hCDf hsrc
    obtain ⟨hCD, hfD⟩ := hCDf
    obtain ⟨x', y', e1, e2, e3⟩ := hP
    have ex : x = x' := by have := congrArg (fun z => z[0]?) e3; simpa using this
    have ey : y = y' := by have := congrArg (fun z => z[1]?) e3; simpa using this
    subst ex ey
    refine wpAny_mono (turn i ys x y g news' C oC D (src ++ (srcOf [s.heap.objs.size + 4, s.heap.objs.size + 3, s.heap.objs.size, s.heap.objs.size + 1] h)) m₂ h tk k E' hi hyl e1 e2 hJ' nC hma hmb F2 (fun p hp => ?_) (fun p hp => (off2 p hp).2) hCD) (fun v s' hv => ?_) fun _ _ e => e
    · rcases List.mem_cons.mp hp with rfl | hp
      · exact N2 _ (.head _)
      rcases List.mem_cons.mp hp with rfl | hp
      · exact N2 _ (.tail _ (.head _))
      rcases List.mem_append.mp hp with hp | hp
      · rcases List.mem_append.mp hp with hp | hp
        · exact N2 _ (.tail _ (.tail _ (List.mem_append_left _ hp)))
        · obtain ⟨q1, q2⟩ := srcOf_mem.mp hp
          refine ⟨q2, fun q => ?_, ?_⟩
          · rw [q] at q1
            simp only [List.mem_cons, List.not_mem_nil, or_false] at q1
            rcases q1 with e | e | e | e
            · exact upL 4 e
            · exact upL 3 e
            · exact upL 0 e
            · exact upL 1 e
          · simp only [List.mem_cons, List.not_mem_nil, or_false] at q1
            rcases q1 with e | e | e | e <;> rw [e]
            · exact nw 4
            · exact nw 3
            · exact nw 0
            · exact nw 1
      · exact N2 _ (.tail _ (.tail _ (List.mem_append_right _ hp)))
    · obtain ⟨h6, tk6, g6, oC6, m6, o, new, rfl, F6, nC6, N6, hlt6, hJ6⟩ := hv
      refine ⟨h6, tk6, g6, oC6, m6, (new, o) :: news', rfl, F6, nC6, fun p hp => N6 p ?_, ?_, hJ6⟩
      · rcases List.mem_cons.mp hp with rfl | hp
        · exact .tail _ (.head _)
        rcases List.mem_cons.mp hp with rfl | hp
        · exact .tail _ (.tail _ (.head _))
        rcases List.mem_append.mp hp with hp | hp
        · exact .tail _ (.tail _ (.tail _ (List.mem_append_left _ (List.mem_append_left _ hp))))
        · rcases List.mem_cons.mp hp with rfl | hp
          · exact .head _
          · exact .tail _ (.tail _ (.tail _ (List.mem_append_right _ hp)))
      · refine List.forall_mem_cons.mpr ⟨⟨?_, ?_, ?_⟩, off2⟩
        · have hDn : D < new := hlt6 (D, _) (.tail _ (.head _))
          intro q1
          simp only [List.mem_cons, List.not_mem_nil, or_false] at q1
          have q2 : ∀ b, b ∈ [s.heap.objs.size + 4, s.heap.objs.size + 2, s.heap.objs.size + 3, s.heap.objs.size, s.heap.objs.size + 1, l1, l2] → new ≠ b := fun b hb => Nat.ne_of_gt (Nat.lt_trans (hfD b hb) hDn)
          rcases q1 with e | e | e | e
          · exact q2 _ (by simp) e
          · exact q2 _ (by simp) e
          · exact q2 _ (by simp) e
          · exact q2 _ (by simp) e
        · exact Nat.ne_of_gt (hlt6 (C, oC) (.head _))
        · exact Nat.ne_of_gt (hlt6 (D, _) (.tail _ (.head _)))
  · exact hRR
end
end
theorem reset_W10 : True := by w_top off; trivial
section
theorem t20 (elt t0 i0 t1 i1 : Expr) (scope : Scope) (pos : Pos) (it acc : Value) (env : Env) :
    compTurn (.ListComp elt [⟨t0, i0, [], 0⟩, ⟨t1, i1, [], 0⟩] scope pos) 0 it acc env = (standAt i0.pos >>= fun _ => pyNext it >>= fun r => match r with
      | none => pure (.done .next)
      | some v => letOwnedTupleGo t0 it v >>= fun _ => assign t0 env v >>= fun _ =>
        (eval i1 env >>= fun x => standAt i1.pos >>= fun _ => foldedSetIterable i1 env x >>= fun x => holding [x] (pyIter x) >>= fun it1 => runOwn (.compStart (.ListComp elt [⟨t0, i0, [], 0⟩, ⟨t1, i1, [], 0⟩] scope pos) 1 it1 acc env) env >>= fun _ =>
          again (.compLoop (.ListComp elt [⟨t0, i0, [], 0⟩, ⟨t1, i1, [], 0⟩] scope pos) 0 it acc env))) := by rfl
theorem t21 (elt t0 i0 t1 i1 : Expr) (scope : Scope) (pos : Pos) (it acc : Value) (env : Env) :
    compTurn (.ListComp elt [⟨t0, i0, [], 0⟩, ⟨t1, i1, [], 0⟩] scope pos) 1 it acc env = (standAt i1.pos >>= fun _ => pyNext it >>= fun r => match r with
      | none => pure (.done .next)
      | some v => letOwnedTupleGo t1 it v >>= fun _ => assign t1 env v >>= fun _ =>
        (eval elt env >>= fun x => call (.builtin "list.append") [acc, x] >>= fun _ => pure ()) >>= fun _ =>
          again (.compLoop (.ListComp elt [⟨t0, i0, [], 0⟩, ⟨t1, i1, [], 0⟩] scope pos) 1 it acc env)) := by rfl
section
variable {prog : Program} {w : World} {A : Around} {E : Value → Shared → Prop} {s : Shared} {env : Env} {R : Result → Shared → Prop}
theorem loop2_in {elt t0 i0 t1 i1 : Expr} {scope : Scope} {pos : Pos} {it acc : Value} (I : Nat → Shared → Prop)
    (turn : ∀ n s (E' : Value → Shared → Prop), I n s → wpAny (model prog w) A (pyNext it) (fun r s₁ => match r with
      | none => R (.ok .next) s₁
      | some v => wpAny (model prog w) A (letOwnedTupleGo t1 it v) (fun _ s₂ => wpAny (model prog w) A (assign t1 env v) (fun _ s₃ => wpAny (model prog w) A (eval elt env) (fun x s₄ =>
          wpAny (model prog w) A (call (.builtin "list.append") [acc, x]) (fun _ s₅ => ∃ m, m < n ∧ I m s₅) E' s₄) E' s₃) E' s₂) E' s₁) E' s)
    (n : Nat) (h : I n s) : codeAny (model prog w) A (.compLoop (.ListComp elt [⟨t0, i0, [], 0⟩, ⟨t1, i1, [], 0⟩] scope pos) 1 it acc env) R s := by
  refine codeAny_loop rfl I (fun n s hI => ?_) n h
  show wpAny _ A ((compTurn (.ListComp elt [⟨t0, i0, [], 0⟩, ⟨t1, i1, [], 0⟩] scope pos) 1 it acc env).onRaise (fun x => do noteFrame x env; theTreesLotGoes x)) _ _ s
  refine wpAny_noted ?_
  rw [t21]
  refine wpAny_bind (wpAny_standAt (wpAny_bind (wpAny_mono (turn n s _ hI) (fun r s₁ h₁ => ?_) fun _ _ h' => h')))
  cases r with
  | none => exact wpAny_pure h₁
  | some v =>
    refine wpAny_bind (wpAny_mono h₁ (fun _ s₂ h₂ => wpAny_bind (wpAny_mono h₂ (fun _ s₃ h₃ => ?_) fun _ _ h' => h')) fun _ _ h' => h')
    exact wpAny_bind (wpAny_bind (wpAny_mono h₃ (fun x s₄ h₄ => wpAny_bind (wpAny_mono h₄ (fun _ s₅ h₅ => wpAny_pure (wpAny_pure ⟨rfl, h₅⟩)) fun _ _ h' => h')) fun _ _ h' => h'))
theorem loop2_out {elt t0 i0 t1 i1 : Expr} {scope : Scope} {pos : Pos} {it acc : Value} (I : Nat → Shared → Prop) (hs : ∀ x, foldedSetIterable i1 env x = pure x)
    (turn : ∀ n s (E' : Value → Shared → Prop), I n s → wpAny (model prog w) A (pyNext it) (fun r s₁ => match r with
      | none => R (.ok .next) s₁
      | some v => wpAny (model prog w) A (letOwnedTupleGo t0 it v) (fun _ s₂ => wpAny (model prog w) A (assign t0 env v) (fun _ s₃ => wpAny (model prog w) A (eval i1 env) (fun x s₄ =>
          wpAny (model prog w) A (pyIter x) (fun it1 s₅ => ∀ E2 : Value → Shared → Prop, codeAny (model prog w) A (.compStart (.ListComp elt [⟨t0, i0, [], 0⟩, ⟨t1, i1, [], 0⟩] scope pos) 1 it1 acc env) (fun r s₆ => match r with
            | .ok _ => ∃ m, m < n ∧ I m s₆
            | .error e => E2 e s₆) s₅) E' s₄) E' s₃) E' s₂) E' s₁) E' s)
    (n : Nat) (h : I n s) : codeAny (model prog w) A (.compLoop (.ListComp elt [⟨t0, i0, [], 0⟩, ⟨t1, i1, [], 0⟩] scope pos) 0 it acc env) R s := by
  refine codeAny_loop rfl I (fun n s hI => ?_) n h
  show wpAny _ A ((compTurn (.ListComp elt [⟨t0, i0, [], 0⟩, ⟨t1, i1, [], 0⟩] scope pos) 0 it acc env).onRaise (fun x => do noteFrame x env; theTreesLotGoes x)) _ _ s
  refine wpAny_noted ?_
  rw [t20]
  refine wpAny_bind (wpAny_standAt (wpAny_bind (wpAny_mono (turn n s _ hI) (fun r s₁ h₁ => ?_) fun _ _ h' => h')))
  cases r with
  | none => exact wpAny_pure h₁
  | some v =>
    refine wpAny_bind (wpAny_mono h₁ (fun _ s₂ h₂ => wpAny_bind (wpAny_mono h₂ (fun _ s₃ h₃ => ?_) fun _ _ h' => h')) fun _ _ h' => h')
    refine wpAny_bind (wpAny_mono h₃ (fun x s₄ h₄ => wpAny_bind (wpAny_standAt (wpAny_bind (wpAny_of_eq (hs x) (wpAny_bind (wpAny_holding (wpAny_mono h₄ (fun it1 s₅ h₅ => ?_) fun _ _ h' => h'))))))) fun _ _ h' => h')
    refine wpAny_bind (wpAny_runOwn (codeAny_mono (h₅ (cameBackBy (model prog w) A env (notedBy (model prog w) A env fun e s' => R (.error e) s'))) fun r s₆ h₆ => ?_))
    cases r with
    | ok f => exact wpAny_pure ⟨rfl, h₆⟩
    | error e => exact h₆
theorem start2_1 {elt t0 i0 t1 i1 : Expr} {scope : Scope} {pos : Pos} {it acc : Value}
    (h0 : codeAny (model prog w) A (.compLoop (.ListComp elt [⟨t0, i0, [], 0⟩, ⟨t1, i1, [], 0⟩] scope pos) 1 it acc env) R s)
    (h : wpAny (model prog w) A (pyIter it) (fun it' s' => codeAny (model prog w) A (.compLoop (.ListComp elt [⟨t0, i0, [], 0⟩, ⟨t1, i1, [], 0⟩] scope pos) 1 it' acc env) R s')
      (notedBy (model prog w) A env fun x s' => R (.error x) s') s) :
    codeAny (model prog w) A (.compStart (.ListComp elt [⟨t0, i0, [], 0⟩, ⟨t1, i1, [], 0⟩] scope pos) 1 it acc env) R s := by
  refine codeAny_of_tree ?_
  show wpAny _ _ ((compStart (.ListComp elt [⟨t0, i0, [], 0⟩, ⟨t1, i1, [], 0⟩] scope pos) 1 it acc env).onRaise (fun x => do noteFrame x env; standAt theWindowsPlace)) _ _ s
  refine wpAny_notedAt ?_
  unfold compStart
  show wpAny _ _ (ask >>= _) _ _ s
  refine wpAny_bind (wpAny_askSetting (wpAny_ite ?_))
  split
  · first
      | exact wpAny_bind (wpAny_pure (wpAny_pure (And.intro rfl h0)))
      | exact wpAny_pure (And.intro rfl h0)
  · first
      | exact wpAny_bind (wpAny_rule (wpAny_bind (wpAny_standAt (wpAny_bind (wpAny_mono h (fun it' s' h' => wpAny_pure (And.intro rfl h')) fun _ _ x => x)))))
      | (refine wpAny_bind (wpAny_rule ?_); show wpAny _ _ (standAt i1.pos >>= _) _ _ s; exact wpAny_bind (wpAny_standAt (wpAny_bind (wpAny_mono h (fun it' s' h' => wpAny_pure (And.intro rfl h')) fun _ _ x => x))))
end
end
theorem reset_W11 : True := by w_top off; trivial
section
set_option maxRecDepth 100000
open PyProof.Rows.LCg (NsObj ns_obj)
def CompGo2 (prog : Program) (w : World) (A : Around) (E : Value → Shared → Prop) (env : Env) (elt t0 i0 t1 i1 : Expr) (scope : Scope) (cl : List (Str × Addr)) (pos : Pos) (use : Option (Value → Sem Unit)) (Q : Value → Shared → Prop) (it : Value) (s₂ : Shared) : Prop :=
  wpAny (model prog w) A (newList []) (fun acc s₃ => wpAny (model prog w) A (newFunctionEnv scope env.globals cl [] env.qual none .none (some env)) (fun cenv s₄ =>
      codeAny (model prog w) A (.compStart (.ListComp elt [⟨t0, i0, [], 0⟩, ⟨t1, i1, [], 0⟩] scope pos) 0 it acc { cenv with scope := relabel scope env }) (compPost (model prog w) A E use Q acc cenv.locals) s₄) E s₃) E s₂
section
variable {prog : Program} {w : World} {A : Around} {E : Value → Shared → Prop} {s : Shared} {h₀ : Heap} {L : Addr} {m : Str → Option Value} {env : Env}
theorem Assign_ListComp_G2 {elt t0 i0 t1 i1 : Expr} {y : Str} {py : Pos} {scope : Scope} {cl : List (Str × Addr)} {pos spos : Pos} {Q : Flow → Shared → Prop}
    (hsw : swapsWith (.ListComp elt [⟨t0, i0, [], 0⟩, ⟨t1, i1, [], 0⟩] scope pos) (some (.Name y py)) spos.line env = pure true)
    (hclos : closureFor scope env = pure cl) (hkind : scope.kind = .function) (hnames : ∀ y ∈ scope.names, y.2 = .local → scope.names.lookup y.1 = some .local)
    (h : wpAny (model prog w) A (eval i0 env) (fun xv s₁ => wpAny (model prog w) A (pyIter xv) (CompGo2 prog w A E env elt t0 i0 t1 i1 scope cl pos (some (assign (.Name y py) env)) (fun _ s' => Q .next s')) E s₁) E s)
    (hs : ∀ x, foldedSetIterable i0 env x = pure x := by intro _; rfl) :
    wpAny (model prog w) A (exec (.Assign [.Name y py] (.ListComp elt [⟨t0, i0, [], 0⟩, ⟨t1, i1, [], 0⟩] scope pos) spos) env) Q E s := by
  rw [exec_Assign_Name_used _ _ _ _ hsw]
  refine wpAny_bind (wpAny_standAt (wpAny_bind ?_))
  show wpAny _ A (do let _ ← comprehension (.ListComp elt [⟨t0, i0, [], 0⟩, ⟨t1, i1, [], 0⟩] scope pos) scope env _ (newList []) false (eval i0 env) (some (assign (.Name y py) env))) _ _ s
  exact wpAny_bind (wpAny_mono (wpAny_comprehension_free (use := some (assign (.Name y py) env)) (Q := fun _ s' => Q .next s') rfl hs hclos hkind hnames h) (fun _ s' hq => wpAny_pure (wpAny_pure hq)) fun _ _ e => e)
theorem comp_nest {elt i0 i1 : Expr} {x y : Str} {px py : Pos} {scope : Scope} {cl : List (Str × Addr)} {pos : Pos} {use : Option (Value → Sem Unit)} {Q : Value → Shared → Prop} {l : Addr} {its : Array Value} {news : List (Addr × Obj)} (cnt : Nat → Nat)
    (J : Nat → Nat → List Value → Array GenState → List (Addr × Obj) → Prop) (hh : A.handled = none) (F : Fr h₀ L s.heap m) (N : News h₀ L s.heap news) (hJ : J 0 0 [] s.gens news)
    (hys : ∀ i j ys g nw, J i j ys g nw → ys.length < 9000) (hsrc : ∀ i j ys g nw, J i j ys g nw → ∃ k, (l, listOf its k) ∈ nw) (hnext : ∀ i ys g nw, i < its.size → J i (cnt i) ys g nw → J (i + 1) 0 ys g nw)
    (hcnt : ∀ i, i < its.size → cnt i < 900) (hs1 : ∀ cenv x, foldedSetIterable i1 cenv x = pure x)
    (hcell : ∀ y ∈ scope.names, y.2 ≠ .cell) (hkind : scope.kind = .function) (hx : scope.names.lookup x = some .local) (hy : scope.names.lookup y = some .local) (hxy : x ≠ y)
    (iter1 : ∀ I i ys v g news' C oC D oI m₂ h tk k (E' : Value → Shared → Prop), i < its.size → its[i]? = some v → J i 0 ys g news' → NsObj oC m₂ → m₂ x = some v → Fr h₀ L h m → News h₀ L h ((I, oI) :: (C, oC) :: (D, listOf ys.toArray k) :: news') →
      wpAny (model prog w) A (eval i1 (compEnvC scope cl C env)) (fun xv s' => ∃ h' tk' r t u z, xv = .ref r ∧ s' = { s with heap := h', toks := tk', gens := g } ∧ Fr h₀ L h' m ∧ News h₀ L h' ((I, oI) :: (C, oC) :: (D, listOf ys.toArray k) :: news') ∧ IsRange h' r 1 (1 + (cnt i : Nat)) 1 t u z) E' { s with heap := h, toks := tk, gens := g })
    (turn : ∀ I I1 i j ys v tv g news' C oC D oI oI1 m₂ h tk k (E' : Value → Shared → Prop), i < its.size → j < cnt i → its[i]? = some v → J i j ys g news' → NsObj oC m₂ → m₂ x = some v → m₂ y = some (.int (1 + (j : Nat)) tv) → Fr h₀ L h m → News h₀ L h ((I1, oI1) :: (I, oI) :: (C, oC) :: (D, listOf ys.toArray k) :: news') →
      wpAny (model prog w) A (eval elt (compEnvC scope cl C env)) (fun v s' => ∃ h' tk' g' o new, s' = { s with heap := h', toks := tk', gens := g' } ∧ Fr h₀ L h' m ∧ News h₀ L h' ((new, o) :: (I1, oI1) :: (I, oI) :: (C, oC) :: (D, listOf ys.toArray k) :: news') ∧ (∀ p ∈ (I1, oI1) :: (I, oI) :: (C, oC) :: (D, listOf ys.toArray k) :: news', p.1 < new) ∧ J i (j + 1) (ys ++ [v]) g' ((new, o) :: news')) E' { s with heap := h, toks := tk, gens := g })
    (hRR : ∀ D C h tk g m' ys news' k, J its.size 0 ys g news' → Fr h₀ L h m → News h₀ L h ((D, listOf ys.toArray k) :: news') → (∀ p ∈ news', p.1 ≠ C ∧ p.1 ≠ D) → h.Ns C m' → h₀.get? C = none → C ≠ L → C ≠ D →
      compPost (model prog w) A E use Q (.ref D) C (.ok .next) { s with heap := h, toks := tk, gens := g }) :
    wpAny (model prog w) A (pyIter (.ref l)) (CompGo2 prog w A E env elt (.Name x px) i0 (.Name y py) i1 scope cl pos use Q) E s := by
  obtain ⟨k0, hl⟩ := hsrc _ _ _ _ _ hJ
  refine iter_list N hl ?_
  have up0 : ∀ b o, s.heap.get? b = some o → (s.heap.push { cls := .type "list_iterator", data := .fields #[.ref l, .int 0 0] }).get? b = some o := fun b o e => Heap.get?_push_of_some _ e
  have isl : s.heap.IsList l its := newsLst N hl
  have hltl : l < s.heap.objs.size := Heap.lt_size (N _ hl).1
  have W := (Walks.list (prog := prog) (w := w) hh s.heap.objs.size l (Nat.ne_of_lt hltl) its)
  have hst : (s.heap.push { cls := .type "list_iterator", data := .fields #[.ref l, .int 0 0] }).IsListIter s.heap.objs.size l 0 ∧ (s.heap.push { cls := .type "list_iterator", data := .fields #[.ref l, .int 0 0] }).IsList l its := ⟨⟨_, Heap.get?_push_size _ rfl, rfl, rfl⟩, isl.push _⟩
  have F1 := F.keeps up0
  have N1 : News h₀ L (s.heap.push { cls := .type "list_iterator", data := .fields #[.ref l, .int 0 0] }) news := fun p hp => ⟨up0 _ _ (N p hp).1, (N p hp).2⟩
  have hIL : L ≠ s.heap.objs.size := Nat.ne_of_lt F.ns.lt
  have hI₀ : h₀.get? s.heap.objs.size = none := next_is_new F
  have off : ∀ p ∈ news, p.1 ≠ s.heap.objs.size := fun p hp => Nat.ne_of_lt (Heap.lt_size (N p hp).1)
  have hIs : s.heap.objs.size < (s.heap.push { cls := .type "list_iterator", data := .fields #[.ref l, .int 0 0] }).objs.size := by rw [Heap.size_push]; exact Nat.lt_succ_self _
  generalize s.heap.push { cls := .type "list_iterator", data := .fields #[.ref l, .int 0 0] } = s2 at *
  generalize s.heap.objs.size = I at *
  show wpAny (model prog w) A (newList []) _ E { s with heap := s2 }
  refine wpAny_newObj_type (wpAny_newFunctionEnv hcell (by intro y hy; simp at hy) (fun h₁ hns₁ hsb₁ => ?_) hkind)
  dsimp only at hns₁ hsb₁ ⊢
  generalize hH2 : s2.push { cls := .type "list", dict := none, data := .seq ([] : List Value).toArray } = H2 at hns₁ hsb₁ ⊢
  have up2 : ∀ b o, s2.get? b = some o → H2.get? b = some o := fun b o e => by rw [← hH2]; exact Heap.get?_push_of_some _ e
  have sz2 : H2.objs.size = s2.objs.size + 1 := by rw [← hH2, Heap.size_push]
  generalize hD : s2.objs.size = D at *
  generalize hC : H2.objs.size = C at *
  have lt0 : ∀ b o, s2.get? b = some o → b < D := fun b o e => hD ▸ Heap.lt_size e
  have ltC : ∀ b, b < D → b ≠ C ∧ b ≠ D := fun b hb => ⟨Nat.ne_of_lt (by rw [sz2]; exact Nat.lt_succ_of_lt hb), Nat.ne_of_lt hb⟩
  have hCD : C ≠ D := by rw [sz2]; exact Nat.ne_of_gt (Nat.lt_succ_self _)
  have up : ∀ b o, s2.get? b = some o → h₁.get? b = some o := fun b o e => hsb₁.extBut b o (ltC b (lt0 b o e)).1 (Heap.get?_push_of_some _ (up2 b o e))
  have aD : h₁.get? D = some (listOf [].toArray 0) := hsb₁.extBut _ _ hCD.symm (Heap.get?_push_of_some _ (by rw [← hH2, ← hD]; exact Heap.get?_push_size _ rfl))
  have new0 : ∀ b, D ≤ b → h₀.get? b = none := fun b hb => by
    cases e : h₀.get? b with
    | none => rfl
    | some o => exact absurd (lt0 b o (F1.keep b o e)) (Nat.not_lt.mpr hb)
  have D0 : h₀.get? D = none := new0 D (Nat.le_refl _)
  have C0 : h₀.get? C = none := new0 C (by rw [sz2]; exact Nat.le_succ _)
  have hL : L < D := hD ▸ F1.ns.lt
  have hCL : C ≠ L := fun q => (ltC L hL).1 q.symm
  have hDL : D ≠ L := fun q => (ltC L hL).2 q.symm
  have hIC : I ≠ C := (ltC I hIs).1
  have hID : I ≠ D := (ltC I hIs).2
  obtain ⟨oC0, eC0, nC0⟩ := ns_obj hns₁
  have loop : codeAny (model prog w) A (.compLoop (.ListComp elt [⟨.Name x px, i0, [], 0⟩, ⟨.Name y py, i1, [], 0⟩] scope pos) 0 (.ref I) (.ref D) (compEnvC scope cl C env)) (compPost (model prog w) A E use Q (.ref D) C) { s with heap := h₁, toks := s.toks + ([] : List (Str × Value)).length } := by
    refine loop2_out
      (fun c s' => ∃ h' tk g i k ys oC m' news', s' = { s with heap := h', toks := tk, gens := g } ∧ i ≤ its.size ∧ c = its.size + 1 - i ∧ (h'.IsListIter I l i ∧ h'.IsList l its) ∧ Fr h₀ L h' m ∧ NsObj oC m' ∧ News h₀ L h' ((C, oC) :: (D, listOf ys.toArray k) :: news') ∧
        (∀ p ∈ news', p.1 ≠ I ∧ p.1 ≠ C ∧ p.1 ≠ D) ∧ J i 0 ys g news') (hs1 _) ?_ (its.size + 1)
      ⟨h₁, _, _, 0, 0, [], oC0, _, news, rfl, Nat.zero_le _, rfl, W.frame _ _ _ hst fun b _ o e => up b o e, F1.keeps up, nC0, fun p hp => ?_, fun p hp => ⟨off p hp, ltC _ (lt0 _ _ (N1 p hp).1)⟩, hJ⟩
    · rintro c s' E' ⟨h', tk, g, i, k, ys, oC, m', news', rfl, hi, rfl, hst', F', nC, N', off', hJ'⟩
      have keepN : ∀ h₂ : Heap, (∀ b o, b ∉ [I] → h'.get? b = some o → h₂.get? b = some o) → Fr h₀ L h₂ m ∧ News h₀ L h₂ ((C, oC) :: (D, listOf ys.toArray k) :: news') := fun h₂ hk => by
        have hk' : ∀ b o, b ≠ I → h'.get? b = some o → h₂.get? b = some o := fun b o hb e => hk b o (by simpa using hb) e
        refine ⟨⟨F'.ns.at' fun o e => hk' L o hIL e, fun b o e => hk' b o (fun q => by rw [q, hI₀] at e; cases e) (F'.keep b o e), F'.above⟩, fun p hp => ⟨hk' _ _ ?_ (N' p hp).1, (N' p hp).2⟩⟩
        rcases List.mem_cons.mp hp with rfl | hp
        · exact hIC.symm
        rcases List.mem_cons.mp hp with rfl | hp
        · exact hID.symm
        · exact (off' p hp).1
      by_cases hlt : i < its.size
      · refine W.item i _ _ _ hlt hst' fun v h₂ tk₂ hPv hst₂ hk₂ => ?_
        obtain ⟨F₂, N₂⟩ := keepN h₂ hk₂
        obtain ⟨oI, eI, rI⟩ := hst₂.1
        have N₃ : News h₀ L h₂ ((I, oI) :: (C, oC) :: (D, listOf ys.toArray k) :: news') := fun p hp => by
          rcases List.mem_cons.mp hp with rfl | hp
          · exact ⟨eI, hIL.symm, hI₀⟩
          · exact N₂ p hp
        refine wpAny_pure (comp_store hx hkind nC F₂ N₃ off' ⟨hIC, hID, hCD⟩ fun h₃ tk₃ oC₃ nC₃ F₃ N₄ => ?_)
        refine wpAny_mono (iter1 I i ys v g news' C oC₃ D oI _ h₃ tk₃ k _ hlt hPv hJ' nC₃ (if_pos rfl) F₃ N₄) (fun xv s₄ h₄ => ?_) fun _ _ e => e
        obtain ⟨h4, tk4, r, t, u, z, rfl, rfl, F4, N4, hr⟩ := h₄
        have hc9 := hcnt i hlt
        refine wpAny_pyIter_range hr (range_small _ _ (by decide) (by decide) (by omega) (by omega)) ?_
        rw [range_size 1 (1 + (cnt i : Int)) (by omega), show (1 + (cnt i : Int)) - 1 = ((cnt i : Nat) : Int) by omega]
        have up4 : ∀ b o, h4.get? b = some o → (h4.push { cls := .type "range_iterator", data := .fields #[rawInt 1, rawInt (cnt i : Nat), rawInt 1] }).get? b = some o := fun b o e => Heap.get?_push_of_some _ e
        have hR1 : (h4.push { cls := .type "range_iterator", data := .fields #[rawInt 1, rawInt (cnt i : Nat), rawInt 1] }).get? h4.objs.size = some { cls := .type "range_iterator", dict := none, data := .fields #[rawInt 1, rawInt (cnt i : Nat), rawInt 1], slots := #[] } := Heap.get?_push_size _ rfl
        have F5 := F4.keeps up4
        have N5 : News h₀ L (h4.push { cls := .type "range_iterator", data := .fields #[rawInt 1, rawInt (cnt i : Nat), rawInt 1] }) ((I, oI) :: (C, oC₃) :: (D, listOf ys.toArray k) :: news') := fun p hp => ⟨up4 _ _ (N4 p hp).1, (N4 p hp).2⟩
        have lt4 : ∀ p ∈ (I, oI) :: (C, oC₃) :: (D, listOf ys.toArray k) :: news', p.1 ≠ h4.objs.size := fun p hp => Nat.ne_of_lt (Heap.lt_size (N4 p hp).1)
        have hJL : L ≠ h4.objs.size := Nat.ne_of_lt F4.ns.lt
        have hJ0 : h₀.get? h4.objs.size = none := next_is_new F4
        have W1 := Walks.range (prog := prog) (w := w) hh h4.objs.size 1 1 (cnt i)
        dsimp only
        generalize h4.push { cls := .type "range_iterator", data := .fields #[rawInt 1, rawInt (cnt i : Nat), rawInt 1] } = h5 at *
        generalize h4.objs.size = I1 at *
        have hII : I ≠ I1 := lt4 _ (.head _)
        have hCI : C ≠ I1 := lt4 _ (.tail _ (.head _))
        have hDI : D ≠ I1 := lt4 _ (.tail _ (.tail _ (.head _)))
        intro E2
        have inner : codeAny (model prog w) A (.compLoop (.ListComp elt [⟨.Name x px, i0, [], 0⟩, ⟨.Name y py, i1, [], 0⟩] scope pos) 1 (.ref I1) (.ref D) (compEnvC scope cl C env))
            (fun r s₆ => match r with
              | .ok _ => ∃ c', c' < its.size + 1 - i ∧ ∃ h' tk g i k ys oC m' news', s₆ = { s with heap := h', toks := tk, gens := g } ∧ i ≤ its.size ∧ c' = its.size + 1 - i ∧ (h'.IsListIter I l i ∧ h'.IsList l its) ∧ Fr h₀ L h' m ∧ NsObj oC m' ∧ News h₀ L h' ((C, oC) :: (D, listOf ys.toArray k) :: news') ∧
                  (∀ p ∈ news', p.1 ≠ I ∧ p.1 ≠ C ∧ p.1 ≠ D) ∧ J i 0 ys g news'
              | .error e => E2 e s₆) { s with heap := h5, toks := tk4, gens := g } := by
          refine loop2_in
            (fun c s' => ∃ h' tk g j k ys oC m' news', s' = { s with heap := h', toks := tk, gens := g } ∧ j ≤ cnt i ∧ c = cnt i + 1 - j ∧ IsRangeIter h' I1 (1 + (j : Nat) * 1) ((cnt i : Int) - (j : Nat)) 1 ∧ Fr h₀ L h' m ∧ NsObj oC m' ∧ m' x = some v ∧ News h₀ L h' ((I, oI) :: (C, oC) :: (D, listOf ys.toArray k) :: news') ∧
              (∀ p ∈ news', (p.1 ≠ I ∧ p.1 ≠ C ∧ p.1 ≠ D) ∧ p.1 ≠ I1) ∧ J i j ys g news') ?_ (cnt i + 1)
            ⟨h5, tk4, g, 0, k, ys, oC₃, _, news', rfl, Nat.zero_le _, rfl, by simpa using hR1, F5, nC₃, if_pos rfl, N5, fun p hp => ⟨off' p hp, lt4 p (.tail _ (.tail _ (.tail _ hp)))⟩, hJ'⟩
          rintro c2 s6 E6 ⟨h6, tk6, g6, j, k6, ys6, oC6, m6, news6, rfl, hj, rfl, hri, F6, nC6, hmx, N6, off6, hJ6⟩
          have keep6 : ∀ h₂ : Heap, (∀ b o, b ∉ [I1] → h6.get? b = some o → h₂.get? b = some o) → Fr h₀ L h₂ m ∧ News h₀ L h₂ ((I, oI) :: (C, oC6) :: (D, listOf ys6.toArray k6) :: news6) := fun h₂ hk => by
            have hk' : ∀ b o, b ≠ I1 → h6.get? b = some o → h₂.get? b = some o := fun b o hb e => hk b o (by simpa using hb) e
            refine ⟨⟨F6.ns.at' fun o e => hk' L o hJL e, fun b o e => hk' b o (fun q => by rw [q, hJ0] at e; cases e) (F6.keep b o e), F6.above⟩, fun p hp => ⟨hk' _ _ ?_ (N6 p hp).1, (N6 p hp).2⟩⟩
            rcases List.mem_cons.mp hp with rfl | hp
            · exact hII
            rcases List.mem_cons.mp hp with rfl | hp
            · exact hCI
            rcases List.mem_cons.mp hp with rfl | hp
            · exact hDI
            · exact (off6 p hp).2
          by_cases hlj : j < cnt i
          · refine W1.item j _ _ _ hlj hri fun vy h₇ tk₇ hPy hst₇ hk₇ => ?_
            obtain ⟨tv, rfl⟩ := hPy
            obtain ⟨F7, N7⟩ := keep6 h₇ hk₇
            have N8 : News h₀ L h₇ ((I1, _) :: (C, oC6) :: (D, listOf ys6.toArray k6) :: ((I, oI) :: news6)) := fun p hp => by
              rcases List.mem_cons.mp hp with rfl | hp
              · exact ⟨hst₇, hJL.symm, hJ0⟩
              rcases List.mem_cons.mp hp with rfl | hp
              · exact N7 _ (.tail _ (.head _))
              rcases List.mem_cons.mp hp with rfl | hp
              · exact N7 _ (.tail _ (.tail _ (.head _)))
              rcases List.mem_cons.mp hp with rfl | hp
              · exact N7 _ (.head _)
              · exact N7 _ (.tail _ (.tail _ (.tail _ hp)))
            refine wpAny_pure (comp_store hy hkind nC6 F7 N8 (fun p hp => ?_) ⟨hCI.symm, hDI.symm, hCD⟩ fun h₈ tk₈ oC8 nC8 F8 N9 => ?_)
            · rcases List.mem_cons.mp hp with rfl | hp
              · exact ⟨hII, hIC, hID⟩
              · exact ⟨(off6 p hp).2, (off6 p hp).1.2⟩
            have N10 : News h₀ L h₈ ((I1, _) :: (I, oI) :: (C, oC8) :: (D, listOf ys6.toArray k6) :: news6) := fun p hp => by
              rcases List.mem_cons.mp hp with rfl | hp
              · exact N9 _ (.head _)
              rcases List.mem_cons.mp hp with rfl | hp
              · exact N9 _ (.tail _ (.tail _ (.tail _ (.head _))))
              rcases List.mem_cons.mp hp with rfl | hp
              · exact N9 _ (.tail _ (.head _))
              rcases List.mem_cons.mp hp with rfl | hp
              · exact N9 _ (.tail _ (.tail _ (.head _)))
              · exact N9 _ (.tail _ (.tail _ (.tail _ (.tail _ hp))))
            refine wpAny_mono (turn I I1 i j ys6 v tv g6 news6 C oC8 D oI _ _ h₈ tk₈ k6 _ hlt hlj hPv hJ6 nC8 (by rw [if_neg hxy]; exact hmx) (by rw [if_pos rfl, Int.mul_one]) F8 N10) (fun xv s9 h9 => ?_) fun _ _ e => e
            obtain ⟨h9, tk9, g9, o, new, rfl, F9, N11, lt9, hJ9⟩ := h9
            have y6 := hys _ _ _ _ _ hJ6
            have N12 : News h₀ L h9 ((D, listOf ys6.toArray k6) :: (new, o) :: (I1, _) :: (I, oI) :: (C, oC8) :: news6) := fun p hp => N11 p (by
              simp only [List.mem_cons] at hp ⊢
              rcases hp with h | h | h | h | h | h
              · exact .inr (.inr (.inr (.inr (.inl h))))
              · exact .inl h
              · exact .inr (.inl h)
              · exact .inr (.inr (.inl h))
              · exact .inr (.inr (.inr (.inl h)))
              · exact .inr (.inr (.inr (.inr (.inr h)))))
            have dn : ∀ p ∈ (I1, _) :: (I, oI) :: (C, oC8) :: (D, listOf ys6.toArray k6) :: news6, new ≠ p.1 := fun p hp => Nat.ne_of_gt (lt9 p hp)
            refine appendLU F9 N12 (.head fun p hp => ?_) (by omega) fun h10 F10 N13 => ?_
            · rcases List.mem_cons.mp hp with rfl | hp
              · exact dn (D, _) (.tail _ (.tail _ (.tail _ (.head _))))
              rcases List.mem_cons.mp hp with rfl | hp
              · exact hDI.symm
              rcases List.mem_cons.mp hp with rfl | hp
              · exact hID
              rcases List.mem_cons.mp hp with rfl | hp
              · exact hCD
              · exact (off6 p hp).1.2.2
            · refine ⟨cnt i + 1 - (j + 1), by omega, h10, tk9, g9, j + 1, k6 + 1, ys6 ++ [xv], oC8, _, (new, o) :: news6, rfl, hlj, rfl, (N13 (I1, _) (.tail _ (.tail _ (.head _)))).1, F10, nC8, by rw [if_neg hxy]; exact hmx, fun p hp => N13 p ?_, ?_, hJ9⟩
              · simp only [List.mem_cons] at hp ⊢
                rcases hp with h | h | h | h | h
                · exact .inr (.inr (.inr (.inl h)))
                · exact .inr (.inr (.inr (.inr (.inl h))))
                · exact .inl h
                · exact .inr (.inl h)
                · exact .inr (.inr (.inr (.inr (.inr h))))
              · refine List.forall_mem_cons.mpr ⟨⟨⟨dn (I, oI) (.tail _ (.head _)), dn (C, oC8) (.tail _ (.tail _ (.head _))), dn (D, _) (.tail _ (.tail _ (.tail _ (.head _))))⟩, dn (I1, _) (.head _)⟩, off6⟩
          · obtain rfl : j = cnt i := Nat.le_antisymm hj (Nat.not_lt.mp hlj)
            refine W1.done _ _ _ hri fun h₇ tk₇ hk₇ => ?_
            obtain ⟨F7, N7⟩ := keep6 h₇ hk₇
            have hJ7 := hnext _ _ _ _ hlt hJ6
            obtain ⟨kl, hl7⟩ := hsrc _ _ _ _ _ hJ7
            exact ⟨its.size + 1 - (i + 1), by omega, h₇, tk₇, g6, i + 1, k6, ys6, oC6, m6, news6, rfl, hlt, rfl, ⟨⟨oI, (N7 _ (.head _)).1, rI⟩, newsLst N7 (.tail _ (.tail _ (.tail _ hl7)))⟩, F7, nC6, fun p hp => N7 p (.tail _ hp), fun p hp => (off6 p hp).1, hJ7⟩
        exact start2_1 inner (wpAny_pyIter_rangeiter (s := { s with heap := h5, toks := tk4, gens := g }) hR1 inner)
      · obtain rfl : i = its.size := Nat.le_antisymm hi (Nat.not_lt.mp hlt)
        refine W.done _ _ _ hst' fun h₂ tk₂ hk₂ => ?_
        obtain ⟨F₂, N₂⟩ := keepN h₂ hk₂
        exact hRR D C h₂ tk₂ g m' ys news' k hJ' F₂ (fun p hp => N₂ p (.tail _ hp)) (fun p hp => (off' p hp).2) (nC.ns (N₂ _ (.head _)).1) C0 hCL hCD
    · rcases List.mem_cons.mp hp with rfl | hp
      · exact ⟨eC0, hCL, C0⟩
      rcases List.mem_cons.mp hp with rfl | hp
      · exact ⟨aD, hDL, D0⟩
      · exact ⟨up _ _ (N1 p hp).1, (N1 p hp).2⟩
  exact codeAny_compStart_list loop (W.self 0 _ _ _ (W.frame _ _ _ hst fun b _ o e => up b o e) loop)
end
end
section
set_option maxRecDepth 100000
local macro_rules | `(tactic| k_all) => `(tactic| assumption)
local macro_rules | `(tactic| k_mem) => `(tactic| (refine memOf ?_; with_reducible assumption))
local macro_rules | `(tactic| walk_at "call ref") => `(tactic| refine halt ?_)
local macro_rules | `(tactic| walk_at "eval ListComp") => `(tactic| refine halt ?_)
local macro_rules | `(tactic| walk_at "exec Assign cons ListComp") => `(tactic| refine halt ?_)
local macro_rules | `(tactic| walk_at "subscriptTail") => `(tactic| refine halt ?_)
local macro_rules | `(tactic| walk_at "eval Name") => `(tactic| (k_here; (with_reducible show wpAny _ _ (eval (Expr.Name _ _) (envOfC _ _ _ _ _)) _ _ _); k_dflt (refine' ldC ?k1 ?k2 ?_ ?a ?b ?c; (case k1 => k_asm); (case k2 => assumption); (case a => rfl); (case b => rfl); (case c => decide); k_whole); (try dsimp only)))
local macro_rules | `(tactic| walk_at "unpackItems ref") => `(tactic| (k_here; k_dflt (refine' unpackItemsN_ ?k1 ?k2 ?k3 ?k4 ?k5 ?_; (case k1 => k_asm); (case k2 => k_asm); (case k3 => exact News.isTup (by k_asm) (by k_mem)); (case k4 => assumption); (case k5 => exact rfl); k_whole); intro h' F' N'; (try k_sweep); (try dsimp only)))
local macro_rules | `(tactic| walk_at "unpackItems ref") => `(tactic| (k_here; k_dflt (refine' kun_items ?k1 ?k2 ?k3 ?k4 ?k5 ?_; (case k1 => k_asm); (case k2 => k_asm); (case k3 => exact newsLst (by k_asm) (by k_mem)); (case k4 => assumption); (case k5 => exact rfl); k_whole); intro h' F' N'; (try k_sweep); (try dsimp only)))
local macro_rules | `(tactic| walk_at "compareOp NotEq ref ref") => `(tactic| (k_here; (with_reducible show wpAny _ _ (compareOp CmpOp.NotEq (Value.ref _) (Value.ref _)) _ _ _); k_dflt (refine' ne_nil ?k1 ?k2 ?k3 ?k4 ?_; (case k1 => k_asm); (case k2 => k_mem); (case k3 => k_mem); (case k4 => simp only [Around.deeper_units, Around.in1_units]; omega); k_whole)))
local macro_rules | `(tactic| walk_at "getMethod ref") => `(tactic| refine halt ?_)
local macro_rules | `(tactic| walk_at "assign Tuple") => `(tactic| (k_here; (with_reducible show wpAny _ _ (assign (Expr.Tuple _ _ _) _ (Value.ref _)) _ _ _); k_dflt (refine' kun_list ?k1 ?k2 ?k3 ?k4 ?k5 ?k6 ?_; (case k1 => k_asm); (case k2 => k_asm); (case k3 => exact newsLst (by k_asm) (by k_mem)); (case k4 => assumption); (case k5 => exact rfl); (case k6 => exact rfl); k_whole); intro h' F' N'; (try k_sweep)))
theorem reset_X2 : True := by w_top off; trivial
section
def DealtS : Prop := ∀ {prog : Program} {w : World} {A A₀ : Around} {E : Value → Shared → Prop} {s : Shared} {L : Addr} {h₀ base : Heap} {m mg mb : Str → Option Value} {mean : ExcName → Option Value} {loose : List Str} {rest : List (Addr × Obj)} {env : Env} {outer : List Env} {Q : Value → Shared → Prop} {l : Addr} {vs : List Value} {ws : List Str} {n : Nat} {ps : Array Value} (hprog : ((prog.main.file : Str) == ("/claim/cut.py" : Str)) = true ∧ (prog.main.scope.names.lookup ("super" : Str)).isSome = false)     (B : Below A₀ base outer h₀) (FF : Fr h₀ L s.heap m) (X : (hd.heap_39 w.params).In h₀) (N : News h₀ L s.heap ((63, tabO ps) :: rest)) (T : Top topProg loose mean mg mb h₀)     (hA : A.frames = some (env :: outer)) (hf : env.frame = some L) (hke : env.scope.kind = .function) (hroom : A.depth + 50 < recursionLimit) (hunits : A.units + 1000 < cLine) (hh : A.handled = none) (hG : AllBare s.gens)     (hP : ∀ p ∈ rest, p.1 ≠ 63) (ht : TabOk ⟨26, 19, 26, 63⟩ ps) (hl : (l, listOf vs.toArray n) ∈ rest) (hw : StrsAre vs ws) (hlen : 0 < ws.length ∧ ws.length ≤ 10) (hln : ∀ x ∈ ws, x.length ≤ 9)     (hpost : ∀ (R x0 d0 x1 d1 : Addr) (z0 z1 q0 q1 : Tok) (i0 i1 : Array Value) (n0 n1 : Nat) (own : List (Addr × Obj)) (D : List Str) (ps' : Array Value) (h' : Heap) (tk : Nat) (gs : Array GenState), TabOk ⟨26, 19, 26, 63⟩ ps' → AllBare gs → Fr h₀ L h' m →       News h₀ L h' ((63, tabO ps') :: (x0, accO d0 i0 n0) :: (x1, accO d1 i1 n1) :: own) → (∀ p ∈ rest, p ∈ own) → (R, listOf #[.ref x0, .ref x1] 0) ∈ own → (d0, dictOf [sizeE w z0 (.int 0 q0)] 1) ∈ own → (d1, dictOf [sizeE w z1 (.int 0 q1)] 1) ∈ own →       (∀ p ∈ own, p.1 ≠ x0 ∧ p.1 ≠ x1 ∧ p.1 ≠ 63) → (x0 ≠ x1 ∧ x0 ≠ 63 ∧ x1 ≠ 63) → D.Perm ws → (D.Pairwise fun a b => b.length ≤ a.length) → RowIs own i0 (deal D).1 → RowIs own i1 (deal D).2 → Q (.ref R) { s with heap := h', toks := tk, gens := gs }), wpAny (model prog w) A (call (.ref 159) [.ref l]) Q E s
set_option maxHeartbeats 4000000 in
noncomputable def cutX2 : CutTwo DealtS := by
  apply CutTwo.mk
  case f =>
    intro hq1 hq2
    intro prog w A A₀ E s L h₀ base m mg mb mean loose rest env outer Q l vs ws n ps hprog B FF X N T hA hf hke hroom hunits hh hG hP ht hl hw hlen hln hpost
    refine wpAny_call ?_
    refine' code_defC (binds := [("words", .ref l)]) B FF X N T hA hf hke ?k6 ?k7 (by omega) ?k9 ?kB ?kD ?_ ?c2 ?c3 ?c4
    case k6 => k_dflt k_is
    case k7 => k_dflt k_is
    case k9 => k_dflt (exact BindsTo.of_eq rfl)
    case kB => exact rfl
    case kD => decide +kernel
    case c2 => exact rfl
    case c3 => exact rfl
    case c4 => exact rfl
    k_whole; intro g' L' h1 tk1 cells' FG' F1 N1 Y1 B' X' T' l1; k_cells Y1; (try simp only [List.cons_append, List.nil_append] at N1); (try dsimp only); (try k_fold)
    rename_i oc dc
    have dc : oc.data = .cell (some (.ref l)) := dc
    have hL0 : 63 < L' := l1 (63, tabO ps) (.head _)
    have l1r : ∀ p ∈ rest, p.1 < L' := fun p hp => l1 p (.tail _ hp)
    k_steps
    unfold Halt
    refine acc_make hprog B' F1 X' N1 T' (Around.frames_deeper hA) rfl rfl (by simp only [depth_deeper]; omega) (by simp only [Around.deeper_units]; omega) fun x0 d0 h2 tk2 z0 F2 N2 l2 k2 => ?_
    (try dsimp only); (try k_fold)
    clear F1 N1
    k_steps
    unfold Halt
    refine acc_make hprog B' F2 X' N2 T' (Around.frames_deeper hA) rfl rfl (by simp only [depth_deeper]; omega) (by simp only [Around.deeper_units]; omega) fun x1 d1 h3 tk3 z1 F3 N3 l3 k3 => ?_
    (try dsimp only); (try k_fold)
    clear F2 N2
    have k1 : L' + 1 < d0 := l2 (L' + 1, oc) (.head _)
    have k4 : x0 < d1 := l3 _ (.head _)
    clear l2 l3
    replace k1 := ltN k1; replace k2 := ltN k2; replace k3 := ltN k3; replace k4 := ltN k4; replace hL0 := ltN hL0
    k_steps
    unfold Halt
    rename_i _ _ R _ lR p0 _ lp0 p1 _ lp1 SL _ lS DT _ lD _ _ h8 F8 N8
    clear qk ek
    refine Assign_ListComp_G (cl := [("words", L' + 1)]) (by with_unfolding_all rfl) (by with_unfolding_all rfl) (by rfl) (by decide) ?_ (by with_unfolding_all exact fun _ => rfl)
    have hwl : vs.length = ws.length := hw.length
    k_steps
    rename_i hr F9 N9 _
    obtain ⟨base, hbase⟩ : ∃ base, base = (SL, listOf #[.ref p0, .ref p1] 0) :: (p1, listOf #[.int 0 (tk3 + 1 + 1), .int 1 (tk3 + 1 + 1 + 1)] 0) :: (p0, listOf #[.int 0 tk3, .int 0 (tk3 + 1)] 0) :: (R, listOf #[.ref x0, .ref x1] 0) :: (x1, accO d1 #[] 0) :: (d1, dictOf [sizeE w z1 (.int 0 tk2)] 1) :: (x0, accO d0 #[] 0) :: (d0, dictOf [sizeE w z0 (.int 0 tk1)] 1) :: (L' + 1, oc) :: (63, tabO ps) :: rest := ⟨_, rfl⟩
    have mw : (L' + 1, oc) ∈ base := by rw [hbase]; k_mem
    have ml : (l, listOf vs.toArray n) ∈ base := by rw [hbase]; k_mem
    have mS : (SL, listOf #[.ref p0, .ref p1] 0) ∈ base := by rw [hbase]; k_mem
    refine comp_range ws.length (J := fun i ys g nw => g = s.gens ∧ ∃ own, nw = own ++ base ∧ PairsAt ws ys own ∧ ∀ p ∈ own, SL < p.1) hh F9 (newsSub N9 (by rw [hbase]; walk_at "my sub")) ⟨rfl, [], rfl, (fun j hj => absurd hj (by simp)), (fun p hp => by cases hp)⟩ hr ⟨by decide, by decide⟩ ⟨by omega, by omega⟩ (by omega) (by omega) (by decide) rfl (by decide) ?_ ?_
    · rintro I i ys tv g news' C oC D oI m₂ h tk k E' hi hyl ⟨rfl, own, rfl, hpa, hown⟩ nC hxv F10 N10 off ne
      have mw2 : (L' + 1, oc) ∈ own ++ base := List.mem_append_right _ mw
      have ml2 : (l, listOf vs.toArray n) ∈ own ++ base := List.mem_append_right _ ml
      obtain ⟨tw, hvw⟩ := hw.get i ws[i] (List.getElem?_eq_getElem hi)
      have hlw := hln ws[i] (List.getElem_mem hi)
      clear F9 N9
      (try dsimp only); (try k_fold)
      k_steps
      unfold Halt
      refine subV N10 (its := vs.toArray) (by k_mem) (by omega) (by omega) (v := .str ws[i] tw) (by simpa using hvw) ?_
      k_steps
      rename_i lw h12 F12 N12 l12
      have e1 : (0 : Int) - (ws[i].length : Int) = -((ws.getD i "").length : Int) := by simp [hi]
      have e2 : (0 : Int) + (i : Int) = i := by omega
      rw [e1, e2] at N12
      have lo : ∀ p ∈ own ++ base, p.1 < lw := allLt_mem l12.2.2.2
      refine turnEnd_new (extra := [(lw, _)]) (news' := own ++ base) F12 nC N12 (by walk_at "my sub") off ?_ ⟨rfl, (lw, _) :: own, rfl, ?_, ?_⟩
      · intro p hp
        rw [List.mem_singleton.mp hp]
        exact ⟨Nat.ne_of_gt l12.1, Nat.ne_of_gt l12.2.1, Nat.ne_of_gt l12.2.2.1⟩
      · intro j hj
        rw [List.length_append, List.length_singleton] at hj
        by_cases hji : j = ys.length
        · subst hji
          exact ⟨lw, _, _, by simp, by rw [hyl]; exact .head _⟩
        · obtain ⟨a, t1, t2, q1, q2⟩ := hpa j (by omega)
          exact ⟨a, t1, t2, by rw [List.getElem?_append_left (by omega)]; exact q1, .tail _ q2⟩
      · intro p hp
        rcases List.mem_cons.mp hp with rfl | hp
        · exact lo (SL, _) (List.mem_append_right _ mS)
        · exact hown p hp
    · rintro D C h tk g m' ys news' k hyl ⟨rfl, own, rfl, hpa, hown⟩ F10 N10 off hn C0 hCL hCD
      refine post_A2 F10 N10 off hn C0 hCL hCD (fun h11 tk11 F11 N11 => ?_) (by rfl) (by rfl) (by rfl)
      clear F10 N10 hn C0 hCL F9 N9
      have offD : ∀ p ∈ own ++ base, p.1 ≠ D := fun p hp => (off p hp).2
      (try dsimp only); (try k_fold)
      k_steps
      unfold Halt
      have hk0 : Keyed (own ++ base) (keyH h11) ys := fun v hv => by
        obtain ⟨j, hj, rfl⟩ := List.getElem_of_mem hv
        obtain ⟨a, t1, t2, q1, q2⟩ := hpa j hj
        rw [List.getElem?_eq_getElem hj] at q1
        have q3 := List.mem_append_left base q2
        refine ⟨a, t1, t2, 0, Option.some.inj q1, ?_⟩
        rw [Option.some.inj q1, keyH_two (N11 _ (.tail _ q3)).1]
        exact q3
      have hN0 : ∀ p ∈ own, h11.get? p.1 = some p.2 := fun p hp => (N11 p (.tail _ (List.mem_append_left _ hp))).1
      refine heapify_spec (key := keyH h11) B' F11 X' N11 T' (Around.frames_deeper hA) rfl rfl (by simp only [depth_deeper]; omega) (by simp only [Around.deeper_units]; omega) hh offD hk0 (by omega) fun h13 tk13 F13 N13 => ?_
      (try dsimp only); (try k_fold)
      k_steps
      unfold Halt
      obtain ⟨cst, hcst⟩ : ∃ cst, cst = (p1, listOf #[.int 0 (tk3 + 1 + 1), .int 1 (tk3 + 1 + 1 + 1)] 0) :: (p0, listOf #[.int 0 tk3, .int 0 (tk3 + 1)] 0) :: (R, listOf #[.ref x0, .ref x1] 0) :: (d1, dictOf [sizeE w z1 (.int 0 tk2)] 1) :: (d0, dictOf [sizeE w z0 (.int 0 tk1)] 1) :: (L' + 1, oc) :: rest := ⟨_, rfl⟩
      have cR : (R, listOf #[.ref x0, .ref x1] 0) ∈ cst := by rw [hcst]; k_mem
      have cd0 : (d0, dictOf [sizeE w z0 (.int 0 tk1)] 1) ∈ cst := by rw [hcst]; k_mem
      have cd1 : (d1, dictOf [sizeE w z1 (.int 0 tk2)] 1) ∈ cst := by rw [hcst]; k_mem
      have cw : (L' + 1, oc) ∈ cst := by rw [hcst]; k_mem
      have cl : (l, listOf vs.toArray n) ∈ cst := by rw [hcst]; k_mem
      have cp0 : (p0, two 0 0 tk3 (tk3 + 1) 0) ∈ cst := by rw [hcst]; k_mem
      have cp1 : (p1, two 0 1 (tk3 + 1 + 1) (tk3 + 1 + 1 + 1) 0) ∈ cst := by rw [hcst]; k_mem
      have nd1 : @Ne Nat SL D := offD (SL, _) (List.mem_append_right _ mS)
      have nd2 : @Ne Nat x0 D := offD (x0, accO d0 #[] 0) (List.mem_append_right _ (by rw [hbase]; k_mem))
      have nd3 : @Ne Nat x1 D := offD (x1, accO d1 #[] 0) (List.mem_append_right _ (by rw [hbase]; k_mem))
      have nd4 : @Ne Nat 63 D := offD (63, tabO ps) (List.mem_append_right _ (by rw [hbase]; k_mem))
      have nd5 : @LT.lt Nat _ 63 x0 := by omega
      have nd6 : @LT.lt Nat _ x0 x1 := by omega
      have nd7 : @LT.lt Nat _ x1 SL := by omega
      have hcb : ∀ p ∈ cst, p ∈ base := by rw [hcst, hbase]; walk_at "my sub"
      refine while_any (DealtJ g' L' s ws (keyH h11) x0 d0 x1 d1 R D SL cst) ys.length ?_ ?_
      · obtain ⟨m13, F13, f1, f2, f3⟩ : ∃ mm, Fr g' L' h13 mm ∧ mm "rows" = some (.ref R) ∧ mm "shorter" = some (.ref SL) ∧ mm "heap" = some (.ref D) := ⟨_, F13, rfl, rfl, rfl⟩
        refine ⟨h13, _, _, m13, ps, hturns (ltK (keyH h11)) (ys.length / 2) ys (ys.length / 2), k, .ref p0, .ref p1, 0, #[], 0, #[], 0, own ++ cst, [], rfl, (hturns_length _ _ _ _).symm, ⟨F13, newsSub N13 ?_⟩, ⟨ht, hG, f1, f2, f3⟩, ⟨fun p hp => List.mem_append_right _ hp, ?_⟩, ?_, ?_, .nil, .nil, ?_⟩
        · rw [hcst, hbase]
          have q : ∀ {a : Addr × Obj}, a ∈ base → a ∈ own ++ base := fun h => List.mem_append_right _ h
          rw [hbase] at q
          refine List.forall_mem_cons.mpr ⟨.head _, List.forall_mem_cons.mpr ⟨.tail _ (q (by k_mem)), List.forall_mem_cons.mpr ⟨.tail _ (q (by k_mem)), List.forall_mem_cons.mpr ⟨.tail _ (q (by k_mem)), List.forall_mem_cons.mpr ⟨.tail _ (q (by k_mem)), fun p hp => ?_⟩⟩⟩⟩⟩
          rcases List.mem_append.mp hp with hp | hp
          · exact .tail _ (List.mem_append_left _ hp)
          · have hp2 := List.mem_append_right own (hcb p (hcst ▸ hp))
            rw [hbase] at hp2
            exact .tail _ hp2
        · intro p hp
          rcases List.mem_append.mp hp with hp | hp
          · have h8 := ltN (hown p hp)
            exact ⟨offD p (List.mem_append_left _ hp), neN (by omega), neN (by omega), neN (by omega), neN (by omega)⟩
          · refine ⟨offD p (List.mem_append_right _ (hcb p hp)), ?_⟩
            rw [hcst] at hp
            simp only [List.mem_cons] at hp
            rcases hp with rfl | rfl | rfl | rfl | rfl | rfl | hp
            · exact ⟨neN (by dsimp only; omega), neN (by dsimp only; omega), neN (by dsimp only; omega), neN (by dsimp only; omega)⟩
            · exact ⟨neN (by dsimp only; omega), neN (by dsimp only; omega), neN (by dsimp only; omega), neN (by dsimp only; omega)⟩
            · exact ⟨neN (by dsimp only; omega), neN (by dsimp only; omega), neN (by dsimp only; omega), neN (by dsimp only; omega)⟩
            · exact ⟨neN (by dsimp only; omega), neN (by dsimp only; omega), neN (by dsimp only; omega), neN (by dsimp only; omega)⟩
            · exact ⟨neN (by dsimp only; omega), neN (by dsimp only; omega), neN (by dsimp only; omega), neN (by dsimp only; omega)⟩
            · exact ⟨neN (by dsimp only; omega), neN (by dsimp only; omega), neN (by dsimp only; omega), neN (by dsimp only; omega)⟩
            · have h8 := ltN (l1r p hp)
              exact ⟨neN (by omega), neN (by omega), neN (by omega), hP p hp⟩
        · refine Keyed.mono (vs := ys) (news := own) (fun v hv => ?_) (hturns_mem _ _ _ (Nat.le_refl _) _ (Nat.le_refl _)) fun p hp => List.mem_append_left _ hp
          obtain ⟨j, hj, rfl⟩ := List.getElem_of_mem hv
          obtain ⟨a, t1, t2, q1, q2⟩ := hpa j hj
          rw [List.getElem?_eq_getElem hj] at q1
          refine ⟨a, t1, t2, 0, Option.some.inj q1, ?_⟩
          rw [Option.some.inj q1, keyH_two (hN0 _ q2)]
          exact q2
        · exact HP.start hyl hpa hN0 _ (hturns_perm _ _ (Nat.le_refl _) _ (Nat.le_refl _)) (by have := hturns_heap (ord_ltK (keyH h11)) ys _ (Nat.le_refl _); rwa [Nat.sub_self] at this)
        · exact ⟨p0, p1, _, _, _, _, _, _, 0, 0, 0, 1, rfl, rfl, List.mem_append_right _ cp0, List.mem_append_right _ cp1, .inl ⟨rfl, rfl, rfl, rfl, Nat.le_refl _⟩⟩
      · rintro c s' E' ⟨h', tk, g, m', ps', hs, kH, va, vb, kS, i0, n0, i1, n1, ow, Dn, rfl, rfl, ⟨F, N⟩, ⟨ht', hG', e1, e2, e3⟩, ⟨hsub, hoff⟩, hk, H, R0, R1, S⟩
        clear F13 N13 F11 N11
        (try dsimp only); (try k_fold)
        k_steps
        · (rename_i zz0 zz1 zz2 zz3 zz4 zz5 zz6 zz7 zz8 zz9 zz10 zz11 zz12 zz13 zz14 zz15 zz16 zz17 zz18 zz19 zz20 zz21 zz22 zz23 zz24 zz25 zz26 zz27 zz28 zz29; revert prog w A A₀ E s L h₀ zz0 m mg mb mean loose rest env outer Q l vs ws n ps hprog B FF X N T hA hf hke hroom hunits hh hG hP ht hl hw hlen hln hpost g' L' h1 tk1 FG' B' X' T' l1 oc zz1 dc l1r x0 d0 h2 tk2 z0 zz2 zz3 x1 d1 h3 tk3 z1 k1 k2 k3 k4 hL0 R zz4 lR p0 zz5 lp0 p1 zz6 lp1 SL zz7 lS DT zz8 lD zz9 zz10 h8 zz11 hwl zz12 zz13 zz14 zz15 zz16 zz17 zz18 hr zz19 base hbase mw ml mS D C h zz20 zz21 ys k hyl own hpa hown off hCD h11 tk11 offD hk0 hN0 h13 tk13 zz22 zz23 cst hcst cR cd0 cd1 cw cl cp0 cp1 nd1 nd2 nd3 nd4 nd5 nd6 nd7 hcb E' h' tk g m' ps' hs kH va vb kS i0 n0 i1 n1 ow Dn ht' hG' e1 e2 e3 hsub hoff hk H R0 R1 S qk ek zz24 zz25 zz26 zz27 zz28 zz29; exact no_implicit_lambda% (@PLift.down _ hq1))
        · (rename_i zz0 zz1 zz2 zz3 zz4 zz5 zz6 zz7 zz8 zz9 zz10 zz11 zz12 zz13 zz14 zz15 zz16 zz17 zz18 zz19 zz20 zz21 zz22 zz23 zz24 zz25 zz26 zz27 zz28 zz29 zz30 zz31 zz32 zz33; revert prog w A A₀ E s L h₀ zz0 m mg mb mean loose rest env outer Q l vs ws n ps hprog B FF X N T hA hf hke hroom hunits hh hG hP ht hl hw hlen hln hpost g' L' h1 tk1 FG' B' X' T' l1 oc zz1 dc l1r x0 d0 h2 tk2 z0 zz2 zz3 x1 d1 h3 tk3 z1 k1 k2 k3 k4 hL0 R zz4 lR p0 zz5 lp0 p1 zz6 lp1 SL zz7 lS DT zz8 lD zz9 zz10 h8 zz11 hwl zz12 zz13 zz14 zz15 zz16 zz17 zz18 hr zz19 base hbase mw ml mS D C h zz20 zz21 ys k hyl own hpa hown off hCD h11 tk11 offD hk0 hN0 h13 tk13 zz22 zz23 cst hcst cR cd0 cd1 cw cl cp0 cp1 nd1 nd2 nd3 nd4 nd5 nd6 nd7 hcb E' h' tk g m' ps' hs kH va vb kS i0 n0 i1 n1 ow Dn ht' hG' e1 e2 e3 hsub hoff hk H R0 R1 S qk ek zz24 zz25 zz26 zz27 zz28 zz29 zz30 zz31 zz32 zz33; exact no_implicit_lambda% (@PLift.down _ hq2))
end
theorem reset_X3 : True := by w_top off; trivial
section
set_option maxHeartbeats 4000000 in
noncomputable def cutX3 : CutOne (cutX2).P1 := by
  apply CutOne.mk
  case f =>
    intro hq1
    intro prog w A A₀ E s L h₀ base m mg mb mean loose rest env outer Q l vs ws n ps hprog B FF X N T hA hf hke hroom hunits hh hG hP ht hl hw hlen hln hpost g' L' h1 tk1 FG' B' X' T' l1 oc dc dc l1r x0 d0 h2 tk2 z0 qk ek x1 d1 h3 tk3 z1 k1 k2 k3 k4 hL0 R _ lR p0 _ lp0 p1 _ lp1 SL _ lS DT _ lD _ _ h8 tk hwl _ _ _ _ _ _ _ hr _ base hbase mw ml mS D C h tk m' ys k hyl own hpa hown off hCD h11 tk11 offD hk0 hN0 h13 tk13 qk ek cst hcst cR cd0 cd1 cw cl cp0 cp1 nd1 nd2 nd3 nd4 nd5 nd6 nd7 hcb E' h' tk g m' ps' hs kH va vb kS i0 n0 i1 n1 ow Dn ht' hG' e1 e2 e3 hsub hoff hk H R0 R1 S qk ek _ _ _ _ _ _
    unfold Halt
    rename_i _ _ eN h14 F14 N14 l14 hne
    rcases nil_or_snoc hs with rfl | ⟨init, y, rfl⟩
    · exact absurd rfl hne
    obtain ⟨H1, hxm, hlen2, hsubm⟩ := H.pop
    have hszH : (init ++ [y]).length < 1000 := by
      have := H.perm.length_eq
      simp only [List.length_append, List.length_map, List.length_singleton] at this ⊢
      omega
    refine heappop_spec (key := keyH h11) B' F14 X' (fun p hp => N14 p (.tail _ hp)) T' (Around.frames_deeper hA) rfl rfl (by simp only [depth_deeper]; omega) (by simp only [Around.deeper_units]; omega) ?_ (hk.mono (fun _ h => h) fun p hp => .tail _ (.tail _ (.tail _ (.tail _ hp)))) hszH fun h15 tk15 n15 F15 N15 => ?_
    · exact List.forall_mem_cons.mpr ⟨nd1, List.forall_mem_cons.mpr ⟨nd2, List.forall_mem_cons.mpr ⟨nd3, List.forall_mem_cons.mpr ⟨nd4, fun p hp => by first | exact (hoff p hp).1 | exact (hoff p hp).2.1 | exact (hoff p hp).2.2.1 | exact (hoff p hp).2.2.2.1⟩⟩⟩⟩
    generalize hr5 : hpop (ltK (keyH h11)) init y = r5 at *
    obtain ⟨x, hs2⟩ := r5
    dsimp only at *
    obtain ⟨jx, hjx, hkx⟩ := H.keys x hxm
    obtain ⟨ax, tx, ux, nx, rfl, hax⟩ := hk x hxm
    rw [hkx] at hax
    have hax : (ax, listOf #[.int (-((ws.getD jx "").length : Int)) tx, .int (jx : Int) ux] nx) ∈ ow := hax
    obtain ⟨aa, ab, t1, t2, t3, t4, n2, n3, la, ra, lb, rb, rfl, rfl, haa, hab, hcase⟩ := S
    have haa' : (aa, listOf #[.int la t1, .int ra t2] n2) ∈ ow := haa
    clear F14 N14
    (try dsimp only); (try k_fold)
    k_steps
    unfold Halt
    rename_i F16 N16
    refine subV N16 (l := SL) (its := #[.ref aa, .ref ab]) (by k_mem) (by decide) (by decide) (v := .ref aa) rfl ?_
    (try dsimp only); (try k_fold)
    k_steps
    unfold Halt
    refine subV N16 (l := aa) (its := #[.int la t1, .int ra t2]) (by k_mem) (by decide) (by decide) (v := .int ra t2) rfl ?_
    (try dsimp only); (try k_fold)
    k_steps
    unfold Halt
    rename_i F17 N17
    obtain ⟨xr, dr, ir, nr, zr, tr, rr, xo, dO, io, no, hrow, hra, hsel⟩ : ∃ (xr dr : Addr) (ir : Array Value) (nr : Nat) (zr tr : Tok) (rr : List Str) (xo dO : Addr) (io : Array Value) (no : Nat), (#[Value.ref x0, .ref x1] : Array Value)[ra.toNat]? = some (.ref xr) ∧ (0 ≤ ra ∧ ra < 2) ∧
      ((0 = ra ∧ 1 = rb ∧ (load (deal Dn).1 : Int) = la ∧ (load (deal Dn).2 : Int) = lb ∧ load (deal Dn).1 ≤ load (deal Dn).2 ∧ (deal Dn).1 = rr ∧ x0 = xr ∧ d0 = dr ∧ i0 = ir ∧ n0 = nr ∧ z0 = zr ∧ tk1 = tr ∧ x1 = xo ∧ d1 = dO ∧ i1 = io ∧ n1 = no) ∨
       (1 = ra ∧ 0 = rb ∧ (load (deal Dn).2 : Int) = la ∧ (load (deal Dn).1 : Int) = lb ∧ load (deal Dn).2 < load (deal Dn).1 ∧ (deal Dn).2 = rr ∧ x1 = xr ∧ d1 = dr ∧ i1 = ir ∧ n1 = nr ∧ z1 = zr ∧ tk2 = tr ∧ x0 = xo ∧ d0 = dO ∧ i0 = io ∧ n0 = no)) := by
      rcases hcase with ⟨rfl, rfl, rfl, rfl, h⟩ | ⟨rfl, rfl, rfl, rfl, h⟩
      · exact ⟨x0, d0, i0, n0, z0, tk1, _, x1, d1, i1, _, rfl, ⟨by decide, by decide⟩, .inl ⟨rfl, rfl, rfl, rfl, h, rfl, rfl, rfl, rfl, rfl, rfl, rfl, rfl, rfl, rfl, rfl⟩⟩
      · exact ⟨x1, d1, i1, _, z1, tk2, _, x0, d0, i0, n0, rfl, ⟨by decide, by decide⟩, .inr ⟨rfl, rfl, rfl, rfl, h, rfl, rfl, rfl, rfl, rfl, rfl, rfl, rfl, rfl, rfl, rfl⟩⟩
    have Rr : RowIs ow ir rr := by
      rcases hsel with ⟨-, -, -, -, -, rfl, -, -, rfl, -⟩ | ⟨-, -, -, -, -, rfl, -, -, rfl, -⟩
      · exact R0
      · exact R1
    have cR' := hsub _ cR
    have cl' := hsub _ cl
    have cw' := hsub _ cw
    have hdr : (dr, dictOf [sizeE w zr (.int 0 tr)] 1) ∈ ow := by
      rcases hsel with ⟨-, -, -, -, -, -, -, rfl, -, -, rfl, rfl, -⟩ | ⟨-, -, -, -, -, -, -, rfl, -, -, rfl, rfl, -⟩
      · exact hsub _ cd0
      · exact hsub _ cd1
    have N18 : News g' L' _ ((xr, accO dr ir nr) :: (dr, dictOf [sizeE w zr (.int 0 tr)] 1) :: (D, listOf hs2.toArray n15) :: (SL, listOf #[.ref aa, .ref ab] kS) :: (xo, accO dO io no) :: (63, tabO ps') :: ow) := fun p hp => N17 p (by
      rcases List.mem_cons.mp hp with rfl | hp
      · rcases hsel with ⟨-, -, -, -, -, -, rfl, rfl, rfl, rfl, -⟩ | ⟨-, -, -, -, -, -, rfl, rfl, rfl, rfl, -⟩ <;> k_mem
      rcases List.mem_cons.mp hp with rfl | hp
      · k_mem
      rcases List.mem_cons.mp hp with rfl | hp
      · k_mem
      rcases List.mem_cons.mp hp with rfl | hp
      · k_mem
      rcases List.mem_cons.mp hp with rfl | hp
      · rcases hsel with ⟨-, -, -, -, -, -, -, -, -, -, -, -, rfl, rfl, rfl, rfl⟩ | ⟨-, -, -, -, -, -, -, -, -, -, -, -, rfl, rfl, rfl, rfl⟩ <;> k_mem
      · exact .tail _ (.tail _ (.tail _ (.tail _ hp))))
    have e4 : @Ne Nat D xr ∧ @Ne Nat SL xr ∧ @Ne Nat xo xr ∧ @Ne Nat 63 xr ∧ @Ne Nat dr xr ∧ (∀ p ∈ ow, p.1 ≠ xr) ∧ @Ne Nat xr 63 ∧ @Ne Nat xr D ∧ @Ne Nat xr SL := by
      rcases hsel with ⟨-, -, -, -, -, -, rfl, rfl, -, -, -, -, rfl, -⟩ | ⟨-, -, -, -, -, -, rfl, rfl, -, -, -, -, rfl, -⟩
      · exact ⟨by omega, by omega, by omega, by omega, by omega, fun p hp => (hoff p hp).2.2.1, by omega, by omega, by omega⟩
      · exact ⟨by omega, by omega, by omega, by omega, by omega, fun p hp => (hoff p hp).2.2.2.1, by omega, by omega, by omega⟩
    clear N17
    obtain ⟨tw, hvw⟩ := hw.get jx ws[jx] (List.getElem?_eq_getElem hjx)
    have hgw : ws.getD jx "" = ws[jx] := by rw [List.getD_eq_getElem?_getD, List.getElem?_eq_getElem hjx]; rfl
    refine subV N18 (l := R) (its := #[.ref x0, .ref x1]) (by k_mem) hra.1 (by omega) (v := .ref xr) hrow ?_
    (try dsimp only); (try k_fold)
    k_steps
    unfold Halt
    refine acc_method (f := .ref 45) (es := [sizeE w zr (.int 0 tr)]) (n := nr) (k := 1) X' F17 N18 (.head _) (.tail _ (.head _)) (by k_dflt k_is) (.inl (by k_dflt k_is)) (by k_dflt k_get) ?_
    (try dsimp only); (try k_fold)
    k_steps
    unfold Halt
    refine subV N18 (l := l) (its := vs.toArray) (by k_mem) (by omega) (by omega) (v := .str ws[jx] tw) (by simpa using hvw) ?_
    (try dsimp only); (try k_fold)
    k_steps
    unfold Halt
    have hDl : Dn.length ≤ 10 := by
      have := H.perm.length_eq
      simp only [List.length_append, List.length_map, List.length_singleton] at this
      omega
    have hdl := (deal_perm Dn).length_eq
    rw [List.length_append] at hdl
    have hrl : rr.length ≤ 10 := by
      rcases hsel with ⟨-, -, -, -, -, rfl, -⟩ | ⟨-, -, -, -, -, rfl, -⟩ <;> omega
    have hrs : ir.size ≤ 10 := by rw [Rr.1]; exact hrl
    refine push_spec (es := []) (k := 0) (x := xr) (dx := dr) (items := ir) (n := nr) B' F17 X' N18 T' (Around.frames_deeper hA) rfl rfl (by simp only [depth_deeper]; omega) ?_ e4.2.2.2.2.1 (by omega) fun tT h19 tk19 F19 N19 lt1 lt2 lt3 => ?_
    · exact List.forall_mem_cons.mpr ⟨e4.1, List.forall_mem_cons.mpr ⟨e4.2.1, List.forall_mem_cons.mpr ⟨e4.2.2.1, List.forall_mem_cons.mpr ⟨e4.2.2.2.1, e4.2.2.2.2.2.1⟩⟩⟩⟩
    clear F17 N18
    (try dsimp only); (try k_fold)
    k_steps
    unfold Halt
    refine subV N19 (l := R) (its := #[.ref x0, .ref x1]) (by k_mem) hra.1 (by omega) (v := .ref xr) hrow ?_
    (try dsimp only); (try k_fold)
    k_steps
    obtain ⟨tb0, N19⟩ : ∃ tb0, News g' L' h19 ((tT, tupO ws[jx] tb0 tw 0) :: (xr, accO dr (ir.push (.ref tT)) (nr + 1)) :: (dr, dictOf [sizeE w zr (.int 0 tr)] 1) :: (D, listOf hs2.toArray n15) :: (SL, listOf #[.ref aa, .ref ab] kS) :: (xo, accO dO io no) :: (63, tabO ps') :: ow) := ⟨_, N19⟩
    (rename_i zz0 zz1 zz2 zz3 zz4 zz5 zz6 zz7 zz8 zz9 zz10 zz11 zz12 zz13 zz14 zz15 zz16 zz17 zz18 zz19 zz20 zz21 zz22 zz23 zz24 zz25 zz26 zz27 zz28 zz29 zz30 zz31 zz32 zz33 zz34 zz35 zz36 zz37 zz38 zz39 zz40 zz41 zz42 zz43; revert prog w A A₀ E s L h₀ zz0 m mg mb mean loose rest env outer Q l vs ws n ps hprog B FF X N T hA hf hke hroom hunits hh hG hP ht hl hw hlen hln hpost g' L' h1 tk1 FG' B' X' T' l1 oc zz1 dc l1r x0 d0 h2 tk2 z0 zz2 zz3 x1 d1 h3 tk3 z1 k1 k2 k3 k4 hL0 R zz4 lR p0 zz5 lp0 p1 zz6 lp1 SL zz7 lS DT zz8 lD zz9 zz10 h8 zz11 hwl zz12 zz13 zz14 zz15 zz16 zz17 zz18 hr zz19 base hbase mw ml mS D C h zz20 zz21 ys k hyl own hpa hown off hCD h11 tk11 offD hk0 hN0 h13 tk13 zz22 zz23 cst hcst cR cd0 cd1 cw cl cp0 cp1 nd1 nd2 nd3 nd4 nd5 nd6 nd7 hcb E' h' zz24 g m' ps' kH kS i0 n0 i1 n1 ow Dn ht' hG' e1 e2 e3 hsub hoff R0 R1 zz25 eN h14 l14 init y hk H zz26 hne hszH h15 tk15 n15 hs2 hlen2 hsubm jx hjx ax tx ux nx hr5 H1 hxm hkx zz27 hax aa ab t1 t2 t3 t4 n2 n3 la ra lb rb haa hab hcase haa' zz28 zz29 zz30 zz31 zz32 zz33 zz34 zz35 zz36 tk xr dr ir nr zr tr rr xo dO io no hrow hra hsel Rr cR' cl' cw' hdr e4 tw hvw hgw zz37 zz38 zz39 zz40 hDl hdl hrl hrs tT h19 tk19 F19 zz41 lt1 lt2 lt3 zz42 zz43 qk ek tb0 N19; exact no_implicit_lambda% (@PLift.down _ hq1))
end
theorem reset_X4 : True := by w_top off; trivial
section
theorem getD_len {l : List Str} (h : ∀ x ∈ l, x.length ≤ 9) (j : Nat) : (l.getD j "").length ≤ 9 := by
  rw [List.getD_eq_getElem?_getD]
  cases e : l[j]? with
  | none => exact Nat.zero_le _
  | some x => exact h x (List.mem_of_getElem? e)
theorem load_small {l : List Str} (h : ∀ x ∈ l, x.length ≤ 9) : load l ≤ 10 * l.length := by
  induction l with
  | nil => exact Nat.le_refl _
  | cons a r ih =>
    have h1 := ih fun x hx => h x (.tail _ hx)
    have h2 := h a (.head _)
    unfold load at *
    simp only [List.map_cons, List.sum_cons, List.length_cons]
    omega
theorem keyedH {h₀ h : Heap} {L : Addr} {news : List (Addr × Obj)} {vs : List Value} (N : News h₀ L h news) (k : ∀ v ∈ vs, ∃ a x y t u n, v = .ref a ∧ (a, two x y t u n) ∈ news) : Keyed news (keyH h) vs := fun v hv => by
  obtain ⟨a, x, y, t, u, n, rfl, hm⟩ := k v hv
  refine ⟨a, t, u, n, rfl, ?_⟩
  rw [keyH_two (N _ hm).1]
  exact hm
set_option maxHeartbeats 4000000 in
noncomputable def cutX4 : CutOne (cutX3).P1 := by
  apply CutOne.mk
  case f =>
    intro hq1
    intro prog w A A₀ E s L h₀ base m mg mb mean loose rest env outer Q l vs ws n ps hprog B FF X N T hA hf hke hroom hunits hh hG hP ht hl hw hlen hln hpost g' L' h1 tk1 FG' B' X' T' l1 oc dc dc l1r x0 d0 h2 tk2 z0 qk ek x1 d1 h3 tk3 z1 k1 k2 k3 k4 hL0 R _ lR p0 _ lp0 p1 _ lp1 SL _ lS DT _ lD _ _ h8 tk hwl _ _ _ _ _ _ _ hr _ base hbase mw ml mS D C h tk m' ys k hyl own hpa hown off hCD h11 tk11 offD hk0 hN0 h13 tk13 qk ek cst hcst cR cd0 cd1 cw cl cp0 cp1 nd1 nd2 nd3 nd4 nd5 nd6 nd7 hcb E' h' tk g m' ps' kH kS i0 n0 i1 n1 ow Dn ht' hG' e1 e2 e3 hsub hoff R0 R1 ek eN h14 l14 init y hk H qk hne hszH h15 tk15 n15 hs2 hlen2 hsubm jx hjx ax tx ux nx hr5 H1 hxm hkx hax hax aa ab t1 t2 t3 t4 n2 n3 la ra lb rb haa hab hcase haa' _ _ _ tk qk ek qk ek _ tk xr dr ir nr zr tr rr xo dO io no hrow hra hsel Rr cR' cl' cw' hdr e4 tw hvw hgw qk ek qk ek hDl hdl hrl hrs tT h19 tk19 F19 N19 lt1 lt2 lt3 qk ek qk ek tb0 N19
    have hwj : wordOf ws (keyH h11) (.ref ax) = ws[jx] := by
      unfold wordOf; rw [hkx]; exact hgw
    rw [hwj] at H1
    have Rn : RowIs ((tT, tupO ws[jx] tb0 tw 0) :: ow) (ir.push (.ref tT)) (rr ++ [ws[jx]]) := (Rr.mono fun p hp => .tail _ hp).push (.head _)
    obtain ⟨Ts, fa, fb, hfn⟩ := Rn.fns
    have hDw : ∀ x ∈ Dn, x.length ≤ 9 := fun x hx => hln x (H.perm.subset (List.mem_append_right _ hx))
    have hrw : ∀ x ∈ rr, x.length ≤ 9 := fun x hx => hDw x ((deal_perm Dn).subset (by
      rcases hsel with ⟨-, -, -, -, -, rfl, -⟩ | ⟨-, -, -, -, -, rfl, -⟩
      · exact List.mem_append_left _ hx
      · exact List.mem_append_right _ hx))
    have hgl := getD_len (l := rr ++ [ws[jx]]) fun x hx => (List.mem_append.mp hx).elim (hrw x) fun hx => by rw [List.mem_singleton.mp hx]; exact hln _ (List.getElem_mem hjx)
    refine len_K (K := hd.heap_39 w.params) (C := 101) (f := 68) F19 X' (acc_inst N19 (.tail _ (.head _)) (.tail _ (.tail _ (.head _)))) (by k_dflt k_is) (by k_dflt k_is) ?_
    refine len_spec (x := xr) (dx := dr) (items := ir.push (.ref tT)) (n := nr + 1) (tk0 := zr) (t0 := tr) (ps := ps') (Ts := Ts) (sa := fun _ => " ") (sb := fun j => (rr ++ [ws[jx]]).getD j "") (ta := fa) (tb := fb)
      (rest := (tT, tupO ws[jx] tb0 tw 0) :: (xr, accO dr (ir.push (.ref tT)) (nr + 1)) :: (dr, dictOf [sizeE w zr (.int 0 tr)] 1) :: (D, listOf hs2.toArray n15) :: (SL, listOf #[.ref aa, .ref ab] kS) :: (xo, accO dO io no) :: ow)
      B' F19 X' (newsSub N19 ?_) T' (Around.frames_deeper hA) rfl rfl (by simp only [depth_in1, depth_deeper]; omega) hh hG' ?_ ht' (.tail _ (.head _)) (.tail _ (.tail _ (.head _))) ?_ ?_ ?_ ?_
    · walk_at "my sub"
    · refine List.forall_mem_cons.mpr ⟨?_, List.forall_mem_cons.mpr ⟨?_, List.forall_mem_cons.mpr ⟨?_, List.forall_mem_cons.mpr ⟨?_, List.forall_mem_cons.mpr ⟨?_, List.forall_mem_cons.mpr ⟨?_, fun p hp => (hoff p hp).2.2.2.2⟩⟩⟩⟩⟩⟩
      · exact Nat.ne_of_gt (lt3 (63, tabO ps') (.tail _ (.tail _ (.tail _ (.head _)))))
      · exact e4.2.2.2.2.2.2.1
      · exact (hoff _ hdr).2.2.2.2
      · exact nd4.symm
      · exact neN (by dsimp only; omega)
      · rcases hsel with ⟨-, -, -, -, -, -, -, -, -, -, -, -, rfl, -⟩ | ⟨-, -, -, -, -, -, -, -, -, -, -, -, rfl, -⟩
        · exact neN (by dsimp only; omega)
        · exact neN (by dsimp only; omega)
    · intro j hj
      obtain ⟨q1, kq, q2⟩ := hfn j hj
      refine ⟨q1, kq, ?_⟩
      rcases List.mem_cons.mp q2 with q2 | q2
      · rw [q2]; exact .head _
      · exact .tail _ (.tail _ (.tail _ (.tail _ (.tail _ (.tail _ q2)))))
    · intro j
      have := hgl j
      have := blank_len
      omega
    · rw [Array.size_push]; omega
    intro h20 tk20 gs20 ps20 t20 ht20 F20 N20 hG20
    have hld : preSum (fun i => ((" " : Str).length : Int) + (((rr ++ [ws[jx]]).getD i "").length : Int)) (ir.push (.ref tT)).size = (load (rr ++ [ws[jx]]) : Int) := by
      have hz : (ir.push (.ref tT)).size = (rr ++ [ws[jx]]).length := by rw [Array.size_push, List.length_append, List.length_singleton, Rr.1]
      rw [hz]; exact preSum_load _
    rw [hld]
    have hlb : load (rr ++ [ws[jx]]) < 1000 := by
      have := load_small (l := rr ++ [ws[jx]]) fun x hx => (List.mem_append.mp hx).elim (hrw x) fun hx => by rw [List.mem_singleton.mp hx]; exact hln _ (List.getElem_mem hjx)
      rw [List.length_append, List.length_singleton] at this
      omega
    generalize hld2 : load (rr ++ [ws[jx]]) = ld at *
    clear F19 N19
    refine ⟨⟨by omega, by omega⟩, ?_⟩
    (try dsimp only); (try k_fold)
    k_steps
    unfold Halt
    rename_i nl h21 F21 N21 l21
    refine heapreplace_spec (l := SL) (vs := [.ref aa, .ref ab]) (x := .ref nl) (n := kS) (key := keyH h21)
      (rest := (nl, listOf #[.int ld tk20, .int ra t2] 0) :: (63, tabO ps20) :: (tT, tupO ws[jx] tb0 tw 0) :: (xr, accO dr (ir.push (.ref tT)) (nr + 1)) :: (dr, dictOf [sizeE w zr (.int 0 tr)] 1) :: (D, listOf hs2.toArray n15) :: (xo, accO dO io no) :: ow)
      B' F21 X' (newsSub N21 ?_) T' (Around.frames_deeper hA) rfl rfl (by simp only [depth_deeper]; omega) (by simp only [Around.deeper_units]; omega) ?_ ?_ (by simp) (by simp) fun h22 tk22 F22 N22 => ?_
    · walk_at "my sub"
    · refine List.forall_mem_cons.mpr ⟨?_, List.forall_mem_cons.mpr ⟨?_, List.forall_mem_cons.mpr ⟨?_, List.forall_mem_cons.mpr ⟨?_, List.forall_mem_cons.mpr ⟨?_, List.forall_mem_cons.mpr ⟨?_, List.forall_mem_cons.mpr ⟨?_, fun p hp => (hoff p hp).2.1⟩⟩⟩⟩⟩⟩⟩
      · exact Nat.ne_of_gt l21.2.2.2.2.2.1
      · exact neN (by dsimp only; omega)
      · exact Nat.ne_of_gt (lt3 (SL, _) (.tail _ (.head _)))
      · exact e4.2.2.2.2.2.2.2.2
      · exact (hoff _ hdr).2.1
      · exact nd1.symm
      · rcases hsel with ⟨-, -, -, -, -, -, -, -, -, -, -, -, rfl, -⟩ | ⟨-, -, -, -, -, -, -, -, -, -, -, -, rfl, -⟩
        · exact neN (by dsimp only; omega)
        · exact neN (by dsimp only; omega)
    · refine (keyedH (newsSub N21 ?_) ?_)
      · walk_at "my sub"
      · intro v hv
        simp only [List.mem_cons, List.not_mem_nil, or_false] at hv
        rcases hv with rfl | rfl | rfl
        · exact ⟨nl, ld, ra, _, _, _, rfl, .head _⟩
        · exact ⟨aa, la, ra, _, _, _, rfl, .tail _ (.tail _ (.tail _ (.tail _ (.tail _ (.tail _ (.tail _ haa))))))⟩
        · exact ⟨ab, lb, rb, _, _, _, rfl, .tail _ (.tail _ (.tail _ (.tail _ (.tail _ (.tail _ (.tail _ hab))))))⟩
    have hlt : ltK (keyH h21) (.ref nl) (.ref ab) = lexLt ((ld : Int), ra) (lb, rb) := by
      unfold ltK
      have q1 : keyH h21 (.ref nl) = ((ld : Int), ra) := keyH_two (N21 _ (.head _)).1
      have q2 : keyH h21 (.ref ab) = (lb, rb) := keyH_two (N21 (ab, two lb rb t3 t4 n3) (by k_mem)).1
      rw [q1, q2]
    have hsu : siftup (ltK (keyH h21)) ([Value.ref aa, Value.ref ab].set 0 (Value.ref nl)) 0 = if lexLt ((ld : Int), ra) (lb, rb) then [.ref nl, .ref ab] else [.ref ab, .ref nl] := by
      show siftup (ltK (keyH h21)) [Value.ref nl, Value.ref ab] 0 = _
      rw [siftup_two, hlt]
    rw [hsu] at N22
    clear hsu hlt F21
    refine wpAny_execs_nil ?_
    show ∃ k, k < _ ∧ DealtJ _ _ _ _ _ _ _ _ _ _ _ _ _ k _
    refine ⟨hs2.length, by rw [hlen2]; simp, ?_⟩
    (rename_i zz0 zz1 zz2 zz3 zz4 zz5 zz6 zz7 zz8 zz9 zz10 zz11 zz12 zz13 zz14 zz15 zz16 zz17 zz18 zz19 zz20 zz21 zz22 zz23 zz24 zz25 zz26 zz27 zz28 zz29 zz30 zz31 zz32 zz33 zz34 zz35 zz36 zz37 zz38 zz39 zz40 zz41 zz42 zz43 zz44; revert prog w A A₀ E s L h₀ zz0 m mg mb mean loose rest env outer Q l vs ws n ps hprog B FF X N T hA hf hke hroom hunits hh hG hP ht hl hw hlen hln hpost g' L' h1 tk1 FG' B' X' T' l1 oc zz1 dc l1r x0 d0 h2 tk2 z0 zz2 zz3 x1 d1 h3 tk3 z1 k1 k2 k3 k4 hL0 R zz4 lR p0 zz5 lp0 p1 zz6 lp1 SL zz7 lS DT zz8 lD zz9 zz10 h8 zz11 hwl zz12 zz13 zz14 zz15 zz16 zz17 zz18 hr zz19 base hbase mw ml mS D C h zz20 zz21 ys k hyl own hpa hown off hCD h11 tk11 offD hk0 hN0 h13 tk13 zz22 zz23 cst hcst cR cd0 cd1 cw cl cp0 cp1 nd1 nd2 nd3 nd4 nd5 nd6 nd7 hcb E' h' zz24 g m' ps' kH kS i0 n0 i1 n1 ow Dn ht' hG' e1 e2 e3 hsub hoff R0 R1 zz25 eN h14 l14 init y hk H zz26 hne hszH h15 tk15 n15 hs2 hlen2 hsubm jx hjx ax tx ux nx hr5 H1 hxm hkx zz27 hax aa ab t1 t2 t3 t4 n2 n3 la ra lb rb haa hab hcase haa' zz28 zz29 zz30 zz31 zz32 zz33 zz34 zz35 zz36 tk xr dr ir nr zr tr rr xo dO io no hrow hra hsel Rr cR' cl' cw' hdr e4 tw hvw hgw zz37 zz38 zz39 zz40 hDl hdl hrl hrs tT h19 tk19 lt1 lt2 lt3 zz41 zz42 zz43 zz44 tb0 hwj Rn Ts fa fb hfn hDw hrw hgl h20 tk20 gs20 ps20 t20 ht20 hG20 ld hld2 hld hlb qk ek nl h21 N21 l21 h22 tk22 F22 N22; exact no_implicit_lambda% (@PLift.down _ hq1))
end
theorem reset_X5 : True := by w_top off; trivial
section
set_option maxHeartbeats 4000000 in
theorem done_G4 : (cutX4).P1 := by
  intro prog w A A₀ E s L h₀ base m mg mb mean loose rest env outer Q l vs ws n ps hprog B FF X N T hA hf hke hroom hunits hh hG hP ht hl hw hlen hln hpost g' L' h1 tk1 FG' B' X' T' l1 oc dc dc l1r x0 d0 h2 tk2 z0 qk ek x1 d1 h3 tk3 z1 k1 k2 k3 k4 hL0 R _ lR p0 _ lp0 p1 _ lp1 SL _ lS DT _ lD _ _ h8 tk hwl _ _ _ _ _ _ _ hr _ base hbase mw ml mS D C h tk m' ys k hyl own hpa hown off hCD h11 tk11 offD hk0 hN0 h13 tk13 qk ek cst hcst cR cd0 cd1 cw cl cp0 cp1 nd1 nd2 nd3 nd4 nd5 nd6 nd7 hcb E' h' tk g m' ps' kH kS i0 n0 i1 n1 ow Dn ht' hG' e1 e2 e3 hsub hoff R0 R1 ek eN h14 l14 init y hk H qk hne hszH h15 tk15 n15 hs2 hlen2 hsubm jx hjx ax tx ux nx hr5 H1 hxm hkx hax hax aa ab t1 t2 t3 t4 n2 n3 la ra lb rb haa hab hcase haa' _ _ _ tk qk ek qk ek _ tk xr dr ir nr zr tr rr xo dO io no hrow hra hsel Rr cR' cl' cw' hdr e4 tw hvw hgw qk ek qk ek hDl hdl hrl hrs tT h19 tk19 lt1 lt2 lt3 qk ek qk ek tb0 hwj Rn Ts fa fb hfn hDw hrw hgl h20 tk20 gs20 ps20 t20 ht20 hG20 ld hld2 hld hlb qk ek nl h21 N21 l21 h22 tk22 F22 N22
  have hnl : (@Ne Nat nl D ∧ @Ne Nat nl SL ∧ @Ne Nat nl x0 ∧ @Ne Nat nl x1 ∧ @Ne Nat nl 63) ∧ (@Ne Nat tT D ∧ @Ne Nat tT SL ∧ @Ne Nat tT x0 ∧ @Ne Nat tT x1 ∧ @Ne Nat tT 63) := by
    have a1 := ltN lt1
    have a2 := ltN (lt3 (D, listOf hs2.toArray n15) (.head _))
    have a3 := ltN (lt3 (SL, listOf #[.ref aa, .ref ab] kS) (.tail _ (.head _)))
    have a4 := ltN (lt3 (xo, accO dO io no) (.tail _ (.tail _ (.head _))))
    have a5 := ltN (lt3 (63, tabO ps') (.tail _ (.tail _ (.tail _ (.head _)))))
    dsimp only at a2 a3 a4 a5
    obtain ⟨b1, b2, b3, b4, b5, b6, b7, -⟩ := l21
    rcases hsel with ⟨-, -, -, -, -, -, rfl, -, -, -, -, -, rfl, -⟩ | ⟨-, -, -, -, -, -, rfl, -, -, -, -, -, rfl, -⟩
    · exact ⟨⟨by omega, by omega, by omega, by omega, by omega⟩, ⟨by omega, by omega, by omega, by omega, by omega⟩⟩
    · exact ⟨⟨by omega, by omega, by omega, by omega, by omega⟩, ⟨by omega, by omega, by omega, by omega, by omega⟩⟩
  have hown2 : ∀ p ∈ (nl, listOf #[.int (ld : Int) tk20, .int ra t2] 0) :: (tT, tupO ws[jx] tb0 tw 0) :: ow, p.1 ≠ D ∧ p.1 ≠ SL ∧ p.1 ≠ x0 ∧ p.1 ≠ x1 ∧ p.1 ≠ 63 :=
    List.forall_mem_cons.mpr ⟨hnl.1, List.forall_mem_cons.mpr ⟨hnl.2, hoff⟩⟩
  have hsub2 : ∀ p ∈ cst, p ∈ (nl, listOf #[.int (ld : Int) tk20, .int ra t2] 0) :: (tT, tupO ws[jx] tb0 tw 0) :: ow := fun p hp => .tail _ (.tail _ (hsub p hp))
  have hk2 : Keyed ((nl, listOf #[.int (ld : Int) tk20, .int ra t2] 0) :: (tT, tupO ws[jx] tb0 tw 0) :: ow) (keyH h11) hs2 := hk.mono hsubm fun p hp => .tail _ (.tail _ hp)
  have Rn2 := Rn.mono (own' := (nl, listOf #[.int (ld : Int) tk20, .int ra t2] 0) :: (tT, tupO ws[jx] tb0 tw 0) :: ow) fun p hp => .tail _ hp
  have R02 := R0.mono (own' := (nl, listOf #[.int (ld : Int) tk20, .int ra t2] 0) :: (tT, tupO ws[jx] tb0 tw 0) :: ow) fun p hp => .tail _ (.tail _ hp)
  have R12 := R1.mono (own' := (nl, listOf #[.int (ld : Int) tk20, .int ra t2] 0) :: (tT, tupO ws[jx] tb0 tw 0) :: ow) fun p hp => .tail _ (.tail _ hp)
  have hab2 : (ab, two lb rb t3 t4 n3) ∈ (nl, listOf #[.int (ld : Int) tk20, .int ra t2] 0) :: (tT, tupO ws[jx] tb0 tw 0) :: ow := .tail _ (.tail _ hab)
  have hnl2 : (nl, two (ld : Int) ra tk20 t2 0) ∈ (nl, listOf #[.int (ld : Int) tk20, .int ra t2] 0) :: (tT, tupO ws[jx] tb0 tw 0) :: ow := .head _
  have hdst := deal_snoc Dn ws[jx]
  cases hlx : lexLt ((ld : Int), ra) (lb, rb) with
  | true =>
    rw [hlx] at N22
    rw [lexLt_iff] at hlx
    dsimp only at hlx
    rcases hsel with ⟨rfl, rfl, rfl, rfl, hle, rfl, rfl, rfl, rfl, rfl, rfl, rfl, rfl, rfl, rfl, rfl⟩ | ⟨rfl, rfl, rfl, rfl, hle, rfl, rfl, rfl, rfl, rfl, rfl, rfl, rfl, rfl, rfl, rfl⟩
    · rw [dealStep, if_pos hle] at hdst
      refine ⟨h22, _, gs20, _, ps20, hs2, n15, .ref nl, .ref ab, kS, i0.push (.ref tT), n0 + 1, i1, n1, _, Dn ++ [ws[jx]], rfl, rfl, ⟨F22, newsSub N22 ?_⟩, ⟨ht20, hG20, e1, e2, e3⟩, ⟨hsub2, hown2⟩, hk2, H1, ?_, ?_, ?_⟩
      · walk_at "my sub"
      · rw [hdst]; exact Rn2
      · rw [hdst]; exact R12
      · rw [hdst]
        dsimp only
        rw [hld2]
        exact ⟨nl, ab, _, _, _, _, _, _, _, _, _, _, rfl, rfl, hnl2, hab2, .inl ⟨rfl, rfl, rfl, rfl, by omega⟩⟩
    · rw [dealStep, if_neg (by omega)] at hdst
      refine ⟨h22, _, gs20, _, ps20, hs2, n15, .ref nl, .ref ab, kS, i0, n0, i1.push (.ref tT), n1 + 1, _, Dn ++ [ws[jx]], rfl, rfl, ⟨F22, newsSub N22 ?_⟩, ⟨ht20, hG20, e1, e2, e3⟩, ⟨hsub2, hown2⟩, hk2, H1, ?_, ?_, ?_⟩
      · walk_at "my sub"
      · rw [hdst]; exact R02
      · rw [hdst]; exact Rn2
      · rw [hdst]
        dsimp only
        rw [hld2]
        exact ⟨nl, ab, _, _, _, _, _, _, _, _, _, _, rfl, rfl, hnl2, hab2, .inr ⟨rfl, rfl, rfl, rfl, by omega⟩⟩
  | false =>
    rw [hlx] at N22
    rw [lexLt_not] at hlx
    dsimp only at hlx
    rcases hsel with ⟨rfl, rfl, rfl, rfl, hle, rfl, rfl, rfl, rfl, rfl, rfl, rfl, rfl, rfl, rfl, rfl⟩ | ⟨rfl, rfl, rfl, rfl, hle, rfl, rfl, rfl, rfl, rfl, rfl, rfl, rfl, rfl, rfl, rfl⟩
    · rw [dealStep, if_pos hle] at hdst
      refine ⟨h22, _, gs20, _, ps20, hs2, n15, .ref ab, .ref nl, kS, i0.push (.ref tT), n0 + 1, i1, n1, _, Dn ++ [ws[jx]], rfl, rfl, ⟨F22, newsSub N22 ?_⟩, ⟨ht20, hG20, e1, e2, e3⟩, ⟨hsub2, hown2⟩, hk2, H1, ?_, ?_, ?_⟩
      · walk_at "my sub"
      · rw [hdst]; exact Rn2
      · rw [hdst]; exact R12
      · rw [hdst]
        dsimp only
        rw [hld2]
        exact ⟨ab, nl, _, _, _, _, _, _, _, _, _, _, rfl, rfl, hab2, hnl2, .inr ⟨rfl, rfl, rfl, rfl, by omega⟩⟩
    · rw [dealStep, if_neg (by omega)] at hdst
      refine ⟨h22, _, gs20, _, ps20, hs2, n15, .ref ab, .ref nl, kS, i0, n0, i1.push (.ref tT), n1 + 1, _, Dn ++ [ws[jx]], rfl, rfl, ⟨F22, newsSub N22 ?_⟩, ⟨ht20, hG20, e1, e2, e3⟩, ⟨hsub2, hown2⟩, hk2, H1, ?_, ?_, ?_⟩
      · walk_at "my sub"
      · rw [hdst]; exact R02
      · rw [hdst]; exact Rn2
      · rw [hdst]
        dsimp only
        rw [hld2]
        exact ⟨ab, nl, _, _, _, _, _, _, _, _, _, _, rfl, rfl, hab2, hnl2, .inl ⟨rfl, rfl, rfl, rfl, by omega⟩⟩
end
theorem reset_X6 : True := by w_top off; trivial
section
theorem done_G2 : (cutX2).P2 := by
  intro prog w A A₀ E s L h₀ base m mg mb mean loose rest env outer Q l vs ws n ps hprog B FF X N T hA hf hke hroom hunits hh hG hP ht hl hw hlen hln hpost g' L' h1 tk1 FG' B' X' T' l1 oc dc dc l1r x0 d0 h2 tk2 z0 qk ek x1 d1 h3 tk3 z1 k1 k2 k3 k4 hL0 R _ lR p0 _ lp0 p1 _ lp1 SL _ lS DT _ lD _ _ h8 tk hwl _ _ _ _ _ _ _ hr _ base hbase mw ml mS D C h tk m' ys k hyl own hpa hown off hCD h11 tk11 offD hk0 hN0 h13 tk13 qk ek cst hcst cR cd0 cd1 cw cl cp0 cp1 nd1 nd2 nd3 nd4 nd5 nd6 nd7 hcb E' h' tk g m' ps' hs kH va vb kS i0 n0 i1 n1 ow Dn ht' hG' e1 e2 e3 hsub hoff hk H R0 R1 S qk ek _ _ _ _ _ _ _ _ _ _
  rename_i hne F9 N9 _ _
  have hnil : hs = [] := Classical.byContradiction hne
  subst hnil
  have hD := H.perm
  rw [List.map_nil, List.nil_append] at hD
  exact hpost R x0 d0 x1 d1 z0 z1 tk1 tk2 i0 i1 n0 n1 ow Dn ps' _ _ _ ht' hG' F9 (newsSub N9 (by walk_at "my sub")) (fun p hp => hsub p (by rw [hcst]; exact .tail _ (.tail _ (.tail _ (.tail _ (.tail _ (.tail _ hp))))))) (hsub _ cR) (hsub _ cd0) (hsub _ cd1)
    (fun p hp => (hoff p hp).2.2) ⟨neN (by omega), neN (by omega), neN (by omega)⟩ hD H.sorted R0 R1
end
theorem done_G3 : (cutX3).P1 := no_implicit_lambda% (@CutOne.run _ cutX4 (no_implicit_lambda% @done_G4))
theorem done_G1 : (cutX2).P1 := no_implicit_lambda% (@CutOne.run _ cutX3 (no_implicit_lambda% @done_G3))
theorem done_DealtS : DealtS := no_implicit_lambda% (@CutTwo.run _ cutX2 (no_implicit_lambda% @done_G1) (no_implicit_lambda% @done_G2))
theorem dealt_spec : ∀ {prog : Program} {w : World} {A A₀ : Around} {E : Value → Shared → Prop} {s : Shared} {L : Addr} {h₀ base : Heap} {m mg mb : Str → Option Value} {mean : ExcName → Option Value} {loose : List Str} {rest : List (Addr × Obj)} {env : Env} {outer : List Env} {Q : Value → Shared → Prop} {l : Addr} {vs : List Value} {ws : List Str} {n : Nat} {ps : Array Value} (hprog : ((prog.main.file : Str) == ("/claim/cut.py" : Str)) = true ∧ (prog.main.scope.names.lookup ("super" : Str)).isSome = false)     (B : Below A₀ base outer h₀) (FF : Fr h₀ L s.heap m) (X : (hd.heap_39 w.params).In h₀) (N : News h₀ L s.heap ((63, tabO ps) :: rest)) (T : Top topProg loose mean mg mb h₀)     (hA : A.frames = some (env :: outer)) (hf : env.frame = some L) (hke : env.scope.kind = .function) (hroom : A.depth + 50 < recursionLimit) (hunits : A.units + 1000 < cLine) (hh : A.handled = none) (hG : AllBare s.gens)     (hP : ∀ p ∈ rest, p.1 ≠ 63) (ht : TabOk ⟨26, 19, 26, 63⟩ ps) (hl : (l, listOf vs.toArray n) ∈ rest) (hw : StrsAre vs ws) (hlen : 0 < ws.length ∧ ws.length ≤ 10) (hln : ∀ x ∈ ws, x.length ≤ 9)     (hpost : ∀ (R x0 d0 x1 d1 : Addr) (z0 z1 q0 q1 : Tok) (i0 i1 : Array Value) (n0 n1 : Nat) (own : List (Addr × Obj)) (D : List Str) (ps' : Array Value) (h' : Heap) (tk : Nat) (gs : Array GenState), TabOk ⟨26, 19, 26, 63⟩ ps' → AllBare gs → Fr h₀ L h' m →       News h₀ L h' ((63, tabO ps') :: (x0, accO d0 i0 n0) :: (x1, accO d1 i1 n1) :: own) → (∀ p ∈ rest, p ∈ own) → (R, listOf #[.ref x0, .ref x1] 0) ∈ own → (d0, dictOf [sizeE w z0 (.int 0 q0)] 1) ∈ own → (d1, dictOf [sizeE w z1 (.int 0 q1)] 1) ∈ own →       (∀ p ∈ own, p.1 ≠ x0 ∧ p.1 ≠ x1 ∧ p.1 ≠ 63) → (x0 ≠ x1 ∧ x0 ≠ 63 ∧ x1 ≠ 63) → D.Perm ws → (D.Pairwise fun a b => b.length ≤ a.length) → RowIs own i0 (deal D).1 → RowIs own i1 (deal D).2 → Q (.ref R) { s with heap := h', toks := tk, gens := gs }), wpAny (model prog w) A (call (.ref 159) [.ref l]) Q E s := no_implicit_lambda% @done_DealtS
theorem reset_LA : True := by w_top off; trivial
section
theorem law_post {M : Model} {A : Around} {cd : Code} {s s₁ : Shared} {cw : ClaimW} {cl : Str → Option Addr} {mean : ExcName → Option Value} {args : List WData} {tabs : List (Addr × Addr)} (hT : TabsAt tabs s₁.heap) (hr : ∀ a x, cw.raises a x = false)
    (h : codeAny M A cd (fun r s' => GoodW cw cl mean args { s₁ with heap := ghostOf s₁.heap tabs } r { s' with gens := #[] } ∧ AllBare s'.gens ∧ GrownAll tabs s'.heap) s) : codeAny M A cd (GoodWG cw cl mean args s₁) s :=
  codeAny_mono h fun r s' ⟨⟨hc, hk, hos, hg⟩, hgb, hgr⟩ => by
    have keep : ∀ b o, b ∉ tabs.map (·.2) → s₁.heap.get? b = some o → s'.heap.get? b = some o := fun b o hb e => hk b o (ghost_ne e hb)
    have grown : ∀ b o, b ∈ tabs.map (·.2) → s₁.heap.get? b = some o → isCodeTable s₁.heap b ∧ o = tabObj #[] ∧ ∃ ps, s'.heap.get? b = some (tabObj ps) := fun b o hb e => by
      obtain ⟨q, hq, rfl⟩ := List.mem_map.mp hb
      have e2 := (hT q hq).2
      rw [e] at e2
      exact ⟨((hT q hq).1.tab (hT q hq).2).isCodeTable, Option.some.inj e2, hgr.get q hq⟩
    refine ⟨?_, ⟨fun b o e => ?_, fun b o e => ?_⟩, hos, hgb⟩
    · rcases hc with ⟨v, d, as, r1, r2, r3, r4, r5⟩ | ⟨e, ob, x, _, _, _, r4, _⟩
      · refine .inl ⟨v, d, as, r1, r2, r3, r4, fun q => ⟨(r5 q).1, fun a ha => ?_⟩⟩
        cases q1 : s₁.heap.get? a with
        | none => rfl
        | some o =>
          by_cases hb : a ∈ tabs.map (·.2)
          · obtain ⟨_, _, ps, hP⟩ := grown a o hb q1
            exact absurd ha (readsW_apart hP rfl r3)
          · have e3 := (r5 q).2 a ha
            rw [show (ghostOf s₁.heap tabs).get? a = some o from ghost_ne q1 hb] at e3
            cases e3
      · rw [hr] at r4; cases r4
    · by_cases hb : b ∈ tabs.map (·.2)
      · obtain ⟨ht, rfl, ps, hP⟩ := grown b o hb e
        exact .inr (.inl ⟨ht, rfl, #[], ps, rfl, by rw [Array.empty_append]; exact hP⟩)
      · exact .inl (keep b o hb e)
    · by_cases hb : b ∈ tabs.map (·.2)
      · obtain ⟨_, _, ps, hP⟩ := grown b o hb e
        exact ⟨_, hP⟩
      · exact ⟨o, keep b o hb e⟩
end
theorem reset_LC : True := by w_top off; trivial
section
theorem anyE {M : Model} {A : Around} {α : Type} {t : Sem α} {Q : α → Shared → Prop} {E : Value → Shared → Prop} {s : Shared} (h : ∀ E', wpAny M A t Q E' s) : wpAny M A t Q E s := h E
def LawEnd (gh : Heap) (os : OsState) (f : Flow) (s' : Shared) : Prop := f = .ret (.bool true) ∧ (∃ m' L', Fr gh L' s'.heap m') ∧ (∃ ps1 ps2, s'.heap.get? 63 = some (tabObj ps1) ∧ s'.heap.get? 70 = some (tabObj ps2)) ∧ s'.os = os ∧ AllBare s'.gens
set_option maxHeartbeats 8000000 in
noncomputable def cutLC : CutOne PySem.Challenge.rw_oy0082_01.Holds := by
  apply CutOne.mk
  case f =>
    intro hq1
    w_on
    refine hd ?_
    w_strict (
      k_fill
      intro w s₀ s₁ mg mb G Y fa o pm cd doc dV kV ho hd' hcd hD hmg hg args vals as hpre hlay hrd hwl hlo
      have KX := km_in_of Y
      have hT8 := km_tabs_of Y
      have X := (Ground.X G).1
      have V := (Ground.X G).2
      refine Ground.open G ?_
      intro T B D TE TW
      try (refine guard_noD D (by decide +kernel) ?_; clear D)
      have hT9 : TabsAt ([(67, 63), (74, 70)] : List (Addr × Addr)) s₁.heap := List.forall_mem_cons.mpr ⟨⟨codeHd_of_K (c := 67) (P := 63) KX (by kernel_rfl), hT8 63 (by k_mem)⟩, List.forall_mem_cons.mpr ⟨⟨codeHd_of_K (c := 74) (P := 70) KX (by kernel_rfl), hT8 70 (by k_mem)⟩, fun _ h => nomatch h⟩⟩
      clear hmg
      wrow_args hpre hlay hrd hwl hlo
      all_goals (
        first | refine callC_kw (enter_call ?_) | refine enter_call ?_
        w_top on
        refine law_post hT9 (fun _ _ => rfl) ?_
        w_call any ho hd' hcd hD T F
        clear hd'
        kn_ghosts F T
        k_drop
        skip))
    rename_i ns _ _ _ _ _ _ _ la xs _ hLs _ _ _ hI _ _ _ h1 X' T' K' F' _ N' l0
    refine wpAny_mono (Q := LawEnd (ghostOf s₁.heap [(67, 63), (74, 70)]) s₁.os) ?_ (fun f s' hq => ?_) (fun _ _ e => e)
    rotate_left
    · obtain ⟨rfl, ⟨m', L9, F9⟩, ⟨ps1, ps2, q1, q2⟩, hos, hb⟩ := hq
      refine ⟨?_, hb, ⟨⟨ps1, q1⟩, ⟨ps2, q2⟩, trivial⟩⟩
      refine goodW_bool F9 rfl (raisesW_false ?_) ?_ hos
      · wrow_none_raised
      · wrow_post
    have hx : (ghostOf s₁.heap [(67, 63), (74, 70)]).IsList la xs.toArray := lifted
    have hprog : (((Challenge.rw_oy0082_01.row.prog).main.file : Str) == ("/claim/cut.py" : Str)) = true ∧ ((Challenge.rw_oy0082_01.row.prog).main.scope.names.lookup ("super" : Str)).isSome = false := ⟨by kernel_rfl, by kernel_rfl⟩
    clear lifted TE TW V hD Y hT8 hT9 codeHd X hLs
    have l0 : 63 < s₁.heap.objs.size ∧ 70 < s₁.heap.objs.size := l0
    generalize ghostOf s₁.heap [(67, 63), (74, 70)] = gh at *
    generalize s₁.heap.objs.size = L at *
    generalize Challenge.rw_oy0082_01.row.prog = prog at *
    generalize s₁.toks + _ = tk at *
    have hG : AllBare s₁.gens := .of_eq hg
    have hne : ¬ (63 : Int) < (ns.length : Int) := by assumption
    clear ho hcd hg G
    generalize s₁.gens = gs at *
    generalize s₁.drawn = dr at *
    generalize s₁.os = os at *
    rename_i a1 a2 a3 a4 a5 a6 a7 a8 a9 b1 b2 b3 b4 b5 b6
    clear b6 b5 b4 b3 b2 b1 a9 a8 a7 a6 a5 a4 a3 a2 a1
    refine anyE fun E0 => ?_
    have hcx : callerA.handled = none := rfl
    (clear pm doc kV B codeHd l0; revert w s₀ s₁ mg mb fa o cd T ns la xs hI h1 gh X' T' K' hx L F' N' prog hprog tk hne gs hG dr os E0 hcx; exact no_implicit_lambda% (@PLift.down _ hq1))
end
theorem reset_LD : True := by w_top off; trivial
section
set_option maxHeartbeats 8000000 in
noncomputable def cutLD : CutOne (cutLC).P1 := by
  apply CutOne.mk
  case f =>
    intro hq1
    intro w s₀ s₁ mg mb fa o cd T ns la xs hI h1 gh X' T' K' hx L F' N' prog hprog tk hne gs hG dr os E0 hcx
    dsimp only
    k_steps
    unfold Halt
    refine Assign_ListComp_G (cl := []) (by with_unfolding_all rfl) (by with_unfolding_all rfl) (by rfl) (by decide) ?_ (by with_unfolding_all exact fun _ => rfl)
    k_steps
    dsimp only
    rename_i lw vs0 h2 F2 N2 hI2 l2
    have N3 : News gh L h2 [(lw, listOf vs0.toArray 0), (63, tabObj #[]), (70, tabObj #[])] := newsSub N2 (by walk_at "my sub")
    have l3 := l2.2.2
    clear l2 N2
    (rename_i zz0 zz1 zz2 zz3 zz4 zz5 zz6 zz7 zz8 zz9; clear hI zz1 zz2 zz5 zz8 zz9; revert w s₀ s₁ mg mb fa o cd T ns la xs h1 gh X' T' K' hx L prog hprog tk hne gs hG dr os E0 hcx zz0 zz3 zz4 zz6 zz7 lw vs0 h2 F2 hI2 N3 l3; exact no_implicit_lambda% (@PLift.down _ hq1))
end
theorem reset_LE : True := by w_top off; trivial
section
def wd (z : Int) : Str := Txt.slice "abcdefghi" none (some (1 + z.fmod 9))
theorem wd_cases (z : Int) : ∃ r : Nat, r < 9 ∧ wd z = Txt.slice "abcdefghi" none (some (1 + (r : Int))) := by
  refine ⟨(z.fmod 9).toNat, ?_, ?_⟩
  · have := Int.fmod_lt_of_pos z (b := 9) (by decide)
    omega
  · unfold wd
    have := Int.fmod_nonneg_of_pos z (b := 9) (by decide)
    rw [Int.toNat_of_nonneg this]
theorem wd_len (z : Int) : 1 ≤ (wd z).length ∧ (wd z).length ≤ 9 ∧ wd z ≠ "j" ∧ wd z ≠ "k" := by
  obtain ⟨r, hr, e⟩ := wd_cases z
  rw [e]
  have : ∀ r : Nat, r < 9 → 1 ≤ (Txt.slice "abcdefghi" none (some (1 + (r : Int)))).length ∧ (Txt.slice "abcdefghi" none (some (1 + (r : Int)))).length ≤ 9 ∧ Txt.slice "abcdefghi" none (some (1 + (r : Int))) ≠ "j" ∧ Txt.slice "abcdefghi" none (some (1 + (r : Int))) ≠ "k" := by decide +kernel
  exact this r hr
theorem anyG {M : Model} {A : Around} {α : Type} {t : Sem α} {Q : α → Shared → Prop} {E : Value → Shared → Prop} {s : Shared} (h : ∀ E', wpAny M A t Q E' s) : wpAny M A t Q E s := h E
set_option maxHeartbeats 8000000 in
noncomputable def cutLE : CutOne (cutLD).P1 := by
  apply CutOne.mk
  case f =>
    intro hq1
    intro w s₀ s₁ mg mb fa o cd T ns la xs h1 gh X' T' K' hx L prog hprog tk hne gs hG dr os E0 hcx _ _ _ _ _ lw vs0 h2 F2 hI2 N3 l3
    obtain ⟨vals, hvals⟩ : ∃ v, v = [1, 1, 0, 0, 0] ++ List.take 5 ns := ⟨_, rfl⟩
    rw [← hvals] at hI2
    have hvl := hI2.length
    have hlen : 5 ≤ vals.length ∧ vals.length ≤ 10 := by rw [hvals]; simp; omega
    refine comp_name (l := lw) (its := vs0.toArray) (J := fun i ys g nw => g = gs ∧ nw = [(lw, listOf vs0.toArray 0), (63, tabObj #[]), (70, tabObj #[])] ∧ StrsAre ys ((vals.map wd).take i)) hcx F2 N3 ⟨rfl, rfl, .nil⟩ (by simp; omega) (fun i ys g nw hj => ⟨0, by rw [hj.2.1]; exact .head _⟩) (by decide) rfl (by decide) ?_ ?_
    · rintro I i ys v g news' C oC D oI m₂ h tk k E' hi hyl hv ⟨rfl, rfl, hys⟩ nC hxv F4 N4 off ne
      obtain ⟨z, tz, rfl, hz⟩ := hI2.at i v (by simpa using hv)
      (try dsimp only); (try k_fold)
      k_steps
      unfold Halt
      dsimp only
      refine slice_strN_ns (s := { heap := h, gens := g, drawn := dr, toks := _, os := os }) F4 N4 (fun h6 t6 k6 F6 N6 => ?_) (hsz := by decide +kernel)
      refine ⟨h6, k6, g, oC, m₂, _, rfl, F6, nC, N6, off, rfl, rfl, ?_⟩
      rw [List.take_add_one, List.getElem?_map, hz]
      exact StrsAre.append' hys (.cons _ _ .nil)
    · rintro D C h tk g m' ys news' k hyl ⟨rfl, rfl, hys⟩ F4 N4 off hn C0 hCL hCD
      refine post_A2 F4 N4 off hn C0 hCL hCD (fun h5 tk5 F5 N5 => ?_) (by rfl) (by rfl) (by rfl)
      (rename_i zz0 zz1 zz2 zz3 zz4 zz5; clear hne F2 N3 hI2 hvals tk F4 N4 hn C0 hCL hCD; revert w s₀ s₁ mg mb fa o cd T ns la xs h1 gh X' T' K' hx L prog hprog zz0 dr os E0 hcx zz1 zz2 zz3 zz4 zz5 lw vs0 h2 l3 vals hvl hlen D C h g m' ys k hyl hG hys off h5 tk5 F5 N5; exact no_implicit_lambda% (@PLift.down _ hq1))
end
theorem reset_LF : True := by w_top off; trivial
section
theorem news_ne {h₀ h : Heap} {L : Addr} {all : List (Addr × Obj)} {a b : Addr} {oa ob : Obj} (N : News h₀ L h all) (ha : (a, oa) ∈ all) (hb : (b, ob) ∈ all) (hc : oa.cls ≠ ob.cls) : @Ne Nat a b := fun e => by
  have e : a = b := e
  subst e
  have h1 := (N _ ha).1
  rw [(N _ hb).1] at h1
  exact hc (congrArg Obj.cls (Option.some.inj h1)).symm
set_option maxHeartbeats 8000000 in
noncomputable def cutLF : CutOne (cutLE).P1 := by
  apply CutOne.mk
  case f =>
    intro hq1
    intro w s₀ s₁ mg mb fa o cd T ns la xs h1 gh X' T' K' hx L prog hprog tk dr os E0 hcx _ _ _ _ _ lw vs0 h2 l3 vals hvl hlen D C h g m' ys k hyl hG hys off h5 tk5 F5 N5
    dsimp only
    obtain ⟨ws, hws⟩ : ∃ ws, ws = vals.map wd := ⟨_, rfl⟩
    have hyw : StrsAre ys ws := by
      rw [List.take_of_length_le (by simp; omega)] at hys
      rw [hws]; exact hys
    have hwl : ws.length = vals.length := by rw [hws, List.length_map]
    have hwr : ∀ x ∈ ws, (1 ≤ x.length ∧ x.length ≤ 9) ∧ x ≠ "j" ∧ x ≠ "k" := by
      intro x hx
      rw [hws] at hx
      obtain ⟨z, _, rfl⟩ := List.mem_map.mp hx
      have := wd_len z
      exact ⟨⟨this.1, this.2.1⟩, this.2.2⟩
    have nD : @Ne Nat D 63 ∧ @Ne Nat D 70 := ⟨((off (63, tabO #[]) (by k_mem)).2).symm, ((off (70, tabO #[]) (by k_mem)).2).symm⟩
    clear hys off
    rename_i y9 y6 y5 y3 y2
    (try k_fold)
    k_steps
    unfold Halt
    refine dealt_spec (l := D) (n := k) (ps := #[]) (rest := [(D, listOf ys.toArray k), (70, tabO #[])]) hprog K' F5 X' (newsSub N5 (by walk_at "my sub")) T' rfl rfl rfl (by simp only [depth_deeper, depth_caller]; decide) (Nat.le_of_ble_eq_true rfl) rfl hG ?_ (.inl rfl) (.head _) hyw (by omega) (fun x hx => (hwr x hx).1.2)
      fun R x0 d0 x1 d1 z0 z1 q0 q1 i0 i1 n0 n1 own Dn ps1 h6 tk6 gs6 ht6 hG6 F6 N6 hsub6 mR md0 md1 hoff6 hne6 hperm hsort hR0 hR1 => ?_
    · intro p hp
      simp only [List.mem_cons, List.not_mem_nil, or_false] at hp
      rcases hp with rfl | rfl
      · exact nD.1
      · decide
    (try dsimp only); (try k_fold)
    clear N5 F5
    k_steps
    unfold Halt
    rename_i h7 F7 N7
    obtain ⟨own7, hown7⟩ : ∃ o, o = own.filter fun p => decide (p.1 ≠ 70) := ⟨_, rfl⟩
    have i70 : (70, tabO #[]) ∈ own := hsub6 _ (.tail _ (.head _))
    have in7 : ∀ {a : Addr} {o : Obj}, (a, o) ∈ own → o.cls ≠ .none → (a, o) ∈ own7 := fun {a o} hm hc => by
      rw [hown7]
      refine List.mem_filter.mpr ⟨hm, ?_⟩
      have := news_ne N7 (.tail _ (.tail _ (.tail _ hm))) (.tail _ (.tail _ (.tail _ i70))) hc
      simpa using this
    have hoff7 : ∀ p ∈ own7, p.1 ≠ 63 ∧ p.1 ≠ 70 ∧ p.1 ≠ x0 ∧ p.1 ≠ x1 := fun p hp => by
      rw [hown7] at hp
      obtain ⟨h1, h2⟩ := List.mem_filter.mp hp
      have h3 := hoff6 p h1
      exact ⟨h3.2.2, by simpa using h2, h3.1, h3.2.1⟩
    have mR7 := in7 mR (by intro e; cases e)
    have md07 := in7 md0 (by intro e; cases e)
    have md17 := in7 md1 (by intro e; cases e)
    have mW7 := in7 (hsub6 (D, listOf ys.toArray k) (.head _)) (by intro e; cases e)
    have hR07 : RowIs own7 i0 (deal Dn).1 := ⟨hR0.1, fun j hj => let ⟨T, t, u, k, e1, e2⟩ := hR0.2 j hj; ⟨T, t, u, k, e1, in7 e2 (by intro e; cases e)⟩⟩
    have hR17 : RowIs own7 i1 (deal Dn).2 := ⟨hR1.1, fun j hj => let ⟨T, t, u, k, e1, e2⟩ := hR1.2 j hj; ⟨T, t, u, k, e1, in7 e2 (by intro e; cases e)⟩⟩
    have n70 : @Ne Nat x0 70 ∧ @Ne Nat x1 70 := ⟨news_ne N7 (.tail _ (.head _)) (.tail _ (.tail _ (.tail _ i70))) (by intro e; cases e), news_ne N7 (.tail _ (.tail _ (.head _))) (.tail _ (.tail _ (.tail _ i70))) (by intro e; cases e)⟩
    have N8 : News gh L h7 ((63, tabO ps1) :: (70, tabO #[]) :: (x0, accO d0 i0 n0) :: (x1, accO d1 i1 n1) :: own7) := fun p hp => N7 p (by
      simp only [List.mem_cons] at hp ⊢
      rcases hp with rfl | rfl | rfl | rfl | hp
      · exact .inl rfl
      · exact .inr (.inr (.inr i70))
      · exact .inr (.inl rfl)
      · exact .inr (.inr (.inl rfl))
      · rw [hown7] at hp
        exact .inr (.inr (.inr (List.mem_filter.mp hp).1)))
    clear N7 hR0 hR1 mR md0 md1 in7 hown7 i70 hoff6 hsub6
    (rename_i zz0; clear s₁ o T zz0 hG h5 tk5 nD h6 tk6; revert w s₀ mg mb fa cd ns la xs h1 gh X' T' K' hx L prog hprog dr os E0 hcx y9 y6 y5 y3 y2 lw vs0 h2 l3 vals hvl hlen D C h g m' ys k hyl ws hws hyw hwl hwr R x0 d0 x1 d1 z0 z1 q0 q1 i0 i1 n0 n1 own Dn ps1 gs6 ht6 hG6 hne6 hperm hsort qk ek h7 F7 tk own7 hoff7 mR7 md07 md17 mW7 hR07 hR17 n70 N8; exact no_implicit_lambda% (@PLift.down _ hq1))
end
theorem reset_LG : True := by w_top off; trivial
section
def textOf (r : List Str) : Str := Txt.join "" ((List.range r.length).map fun i => " " ++ r.getD i "")
def LookAt (own : List (Addr × Obj)) (ys : List Value) (rs : List (List Str)) : Prop :=
  ∀ j, j < ys.length → ∃ a t u v, ys[j]? = some (.ref a) ∧ (a, listOf #[.int (load (rs.getD j []) : Int) t, .str (textOf (rs.getD j [])) u, .int ((rs.getD j []).length : Int) v] 0) ∈ own
theorem LookAt.snoc {own own' : List (Addr × Obj)} {ys : List Value} {rs : List (List Str)} {i : Nat} {a : Addr} {t u v : Tok} (H : LookAt own ys rs) (hl : ys.length = i) (hs : ∀ p ∈ own, p ∈ own')
    (hm : (a, listOf #[.int (load (rs.getD i []) : Int) t, .str (textOf (rs.getD i [])) u, .int ((rs.getD i []).length : Int) v] 0) ∈ own') : LookAt own' (ys ++ [.ref a]) rs := fun j hj => by
  rw [List.length_append, List.length_singleton] at hj
  by_cases e : j = ys.length
  · subst e
    rw [← hl] at hm
    exact ⟨a, t, u, v, by simp, hm⟩
  · obtain ⟨a', t', u', v', q1, q2⟩ := H j (by omega)
    exact ⟨a', t', u', v', by rw [List.getElem?_append_left (by omega)]; exact q1, hs _ q2⟩
def LooksJ (g0 : List (Addr × Obj)) (x0 d0 x1 d1 : Addr) (i0 i1 : Array Value) (n0 n1 : Nat) (rs : List (List Str)) (i : Nat) (ys : List Value) (g : Array GenState) (nw : List (Addr × Obj)) : Prop :=
  AllBare g ∧ ∃ ps1 ps2 own, TabOk ⟨26, 19, 26, 63⟩ ps1 ∧ TabOk ⟨29, 32, 29, 85⟩ ps2 ∧ nw = (63, tabO ps1) :: (70, tabO ps2) :: (x0, accO d0 i0 n0) :: (x1, accO d1 i1 n1) :: own ∧ (∀ p ∈ g0, p ∈ own) ∧
    (∀ p ∈ own, p.1 ≠ 63 ∧ p.1 ≠ 70 ∧ p.1 ≠ x0 ∧ p.1 ≠ x1) ∧ LookAt own ys rs
set_option maxHeartbeats 8000000 in
noncomputable def cutLG : CutTwo (cutLF).P1 := by
  apply CutTwo.mk
  case f =>
    intro hq1 hq2
    intro w s₀ mg mb fa cd ns la xs h1 gh X' T' K' hx L prog hprog dr os E0 hcx y9 y6 y5 y3 y2 lw vs0 h2 l3 vals hvl hlen D C h g m' ys k hyl ws hws hyw hwl hwr R x0 d0 x1 d1 z0 z1 q0 q1 i0 i1 n0 n1 own Dn ps1 gs6 ht6 hG6 hne6 hperm hsort qk ek h7 F7 tk own7 hoff7 mR7 md07 md17 mW7 hR07 hR17 n70 N8
    refine Assign_ListComp_G (cl := []) (by with_unfolding_all rfl) (by with_unfolding_all rfl) (by rfl) (by decide) ?_ (by with_unfolding_all exact fun _ => rfl)
    k_steps
    refine comp_name (l := R) (its := #[.ref x0, .ref x1]) (J := LooksJ own7 x0 d0 x1 d1 i0 i1 n0 n1 [(deal Dn).1, (deal Dn).2]) hcx F7 N8 ⟨hG6, ps1, #[], own7, ht6, .inl rfl, rfl, fun p hp => hp, hoff7, fun j hj => absurd hj (by simp)⟩ (by simp) ?_ (by decide) rfl (by decide) ?_ ?_
    · rintro i ys g nw ⟨_, t63, t70, ow, _, _, rfl, hs, _⟩
      exact ⟨0, .tail _ (.tail _ (.tail _ (.tail _ (hs _ mR7))))⟩
    · rintro I i ys' v g nw C oC D' oI m₂ h tk k' E' hi hyl hv ⟨hG8, t63, t70, ow, ht8, ht9, rfl, hs, hoff8, hla⟩ nC hxv F9 N9 off ne
      (rename_i zz0 zz1 zz2 zz3 zz4; clear E0 hcx y5 y3 y2 l3 hvl zz0 zz1 zz2 m' zz3 hws hyw own ps1 ht6 hG6 hsort qk ek F7 hoff7 mR7 mW7 N8 ne; revert w s₀ mg mb fa cd ns la xs h1 gh X' T' K' hx L prog hprog dr os y9 y6 lw vs0 h2 vals hlen D ys k ws hwl hwr R x0 d0 x1 d1 z0 z1 q0 q1 i0 i1 n0 n1 Dn gs6 hne6 hperm h7 zz4 own7 md07 md17 hR07 hR17 n70 I i ys' v g C oC D' oI m₂ h tk k' E' hi hyl hv hG8 t63 t70 ow ht8 ht9 hs hoff8 hla nC hxv F9 N9 off; exact no_implicit_lambda% (@PLift.down _ hq1))
    · rintro D' C h tk g m' ys' nw k' hyl ⟨hG8, t63, t70, ow, ht8, ht9, rfl, hs, hoff8, hla⟩ F9 N9 off hn C0 hCL hCD
      refine post_A2 F9 N9 off hn C0 hCL hCD (fun h10 tk10 F10 N10 => ?_) (by rfl) (by rfl) (by rfl)
      (rename_i zz0 zz1 zz2 zz3 zz4 zz5; clear hprog zz0 zz1 zz3 ps1 ht6 hG6 F7 hoff7 N8 ht8 ht9; revert w s₀ mg mb fa cd ns la xs h1 gh X' T' K' hx L prog dr os E0 hcx y9 y6 y5 y3 y2 lw vs0 h2 l3 vals hvl hlen D zz2 ys k zz4 ws hws hyw hwl hwr R x0 d0 x1 d1 z0 z1 q0 q1 i0 i1 n0 n1 own Dn gs6 hne6 hperm hsort qk ek h7 zz5 own7 mR7 md07 md17 mW7 hR07 hR17 n70 D' C h tk g m' ys' k' hyl hG8 t63 t70 ow hs hoff8 hla F9 N9 off hn C0 hCL hCD h10 tk10 F10 N10; exact no_implicit_lambda% (@PLift.down _ hq2))
end
theorem reset_LI : True := by w_top off; trivial
section
def DealtAt (own : List (Addr × Obj)) (ys : List Value) (rs : List (List Str)) : Prop :=
  ∀ j, j < ys.length → ∃ a n vs, ys[j]? = some (.ref a) ∧ (a, listOf vs.toArray n) ∈ own ∧ StrsAre vs (rs.getD j [])
theorem DealtAt.snoc {own own' : List (Addr × Obj)} {ys : List Value} {rs : List (List Str)} {i : Nat} {a : Addr} {n : Nat} {vs : List Value} (H : DealtAt own ys rs) (hl : ys.length = i) (hs : ∀ p ∈ own, p ∈ own')
    (hm : (a, listOf vs.toArray n) ∈ own') (hv : StrsAre vs (rs.getD i [])) : DealtAt own' (ys ++ [.ref a]) rs := fun j hj => by
  rw [List.length_append, List.length_singleton] at hj
  by_cases e : j = ys.length
  · subst e
    rw [← hl] at hv
    exact ⟨a, n, vs, by simp, hm, hv⟩
  · obtain ⟨a', n', vs', q1, q2, q3⟩ := H j (by omega)
    exact ⟨a', n', vs', by rw [List.getElem?_append_left (by omega)]; exact q1, hs _ q2, q3⟩
def DealtsJ (g0 : List (Addr × Obj)) (G : Array GenState) (t63 t70 : Array Value) (x0 d0 x1 d1 : Addr) (i0 i1 : Array Value) (rs : List (List Str)) (i : Nat) (ys : List Value) (g : Array GenState) (nw : List (Addr × Obj)) : Prop :=
  g = G ∧ ∃ n0 n1 own, nw = (63, tabO t63) :: (70, tabO t70) :: (x0, accO d0 (if i = 0 then i0 else #[]) n0) :: (x1, accO d1 (if i ≤ 1 then i1 else #[]) n1) :: own ∧ (∀ p ∈ g0, p ∈ own) ∧
    (∀ p ∈ own, p.1 ≠ 63 ∧ p.1 ≠ 70 ∧ p.1 ≠ x0 ∧ p.1 ≠ x1) ∧ DealtAt own ys rs
set_option maxHeartbeats 8000000 in
noncomputable def cutLI : CutTwo (cutLG).P2 := by
  apply CutTwo.mk
  case f =>
    intro hq1 hq2
    intro w s₀ mg mb fa cd ns la xs h1 gh X' T' K' hx L prog dr os E0 hcx y9 y6 y5 y3 y2 lw vs0 h2 l3 vals hvl hlen D g ys k hyl ws hws hyw hwl hwr R x0 d0 x1 d1 z0 z1 q0 q1 i0 i1 n0 n1 own Dn gs6 hne6 hperm hsort qk ek h7 tk own7 mR7 md07 md17 mW7 hR07 hR17 n70 D' C h tk g m' ys' k' hyl hG8 t63 t70 ow hs hoff8 hla F9 N9 off hn C0 hCL hCD h10 tk10 F10 N10
    dsimp only
    (try k_fold)
    k_steps
    unfold Halt
    refine Assign_ListComp_G (cl := []) (by with_unfolding_all rfl) (by with_unfolding_all rfl) (by rfl) (by decide) ?_ (by with_unfolding_all exact fun _ => rfl)
    have oD : ∀ p ∈ ow, p.1 ≠ D' := fun p hp => (off p (by simp [hp])).2
    have o63 := (off (63, tabO t63) (by k_mem)).2
    have o70 := (off (70, tabO t70) (by k_mem)).2
    have ox0 := (off (x0, accO d0 i0 n0) (by k_mem)).2
    have ox1 := (off (x1, accO d1 i1 n1) (by k_mem)).2
    have hoffD : ∀ p ∈ (D', listOf ys'.toArray k') :: ow, p.1 ≠ 63 ∧ p.1 ≠ 70 ∧ p.1 ≠ x0 ∧ p.1 ≠ x1 := List.forall_mem_cons.mpr ⟨⟨o63.symm, o70.symm, ox0.symm, ox1.symm⟩, hoff8⟩
    have hmR := hs _ mR7
    k_steps
    clear F9 N9 hn
    refine comp_name (l := R) (its := #[.ref x0, .ref x1]) (J := DealtsJ ((D', listOf ys'.toArray k') :: ow) g t63 t70 x0 d0 x1 d1 i0 i1 [(deal Dn).1, (deal Dn).2]) hcx F10 (newsSub N10 (l := (63, tabO t63) :: (70, tabO t70) :: (x0, accO d0 i0 n0) :: (x1, accO d1 i1 n1) :: (D', listOf ys'.toArray k') :: ow) (by walk_at "my sub")) ⟨rfl, n0, n1, _, rfl, fun p hp => hp, hoffD, fun j hj => absurd hj (by simp)⟩ (by simp) ?_ (by decide) rfl (by decide) ?_ ?_
    · rintro i yy g nw ⟨_, _, _, oo, rfl, hs9, _⟩
      exact ⟨0, .tail _ (.tail _ (.tail _ (.tail _ (hs9 _ (.tail _ hmR)))))⟩
    · rintro I i yy v g' nw C oC D2 oI m₂ h tk k2 E' hi hyl hv ⟨rfl, e0, e1, oo, rfl, hs9, hoff9, hda⟩ nC hxv F9 N9 off ne
      (rename_i zz0 zz1 zz2 zz3 zz4 zz5 zz6 zz7 zz8; clear xs hx E0 l3 hvl zz0 hws hyw hwr own gs6 hsort zz1 zz2 h7 zz3 mR7 mW7 zz4 zz5 zz6 m' zz7 hoff8 hla zz8 C0 hCL hCD F10 qk ek oD o63 o70 ox0 ox1 hoffD hmR ne; revert w s₀ mg mb fa cd ns la h1 gh X' T' K' L prog dr os hcx y9 y6 y5 y3 y2 lw vs0 h2 vals hlen D g ys k ws hwl R x0 d0 x1 d1 z0 z1 q0 q1 i0 i1 n0 n1 Dn hne6 hperm own7 md07 md17 hR07 hR17 n70 D' ys' k' t63 t70 ow hs h10 tk10 N10 I i yy v g' C oC D2 oI m₂ h tk k2 E' hi hyl hv hG8 e0 e1 oo hs9 hoff9 hda nC hxv F9 N9 off; exact no_implicit_lambda% (@PLift.down _ hq1))
    · rintro D2 C h tk g' m' yy nw k2 hyl ⟨rfl, e0, e1, oo, rfl, hs9, hoff9, hda⟩ F9 N9 off hn C0 hCL hCD
      refine post_A2 F9 N9 off hn C0 hCL hCD (fun h11 tk11 F11 N11 => ?_) (by rfl) (by rfl) (by rfl)
      (rename_i zz0 zz1 zz2 zz3 zz4 zz5 zz6 zz7 zz8 zz9 zz10 zz11 zz12; clear z0 z1 q0 n0 gs6 hne6 zz1 h7 zz3 mR7 md07 md17 hR07 hR17 n70 zz4 zz5 zz6 zz7 hoff8 zz9 zz10 zz11 zz12 F10 N10 oD ox0 ox1 hoffD hmR F9 N9; revert w s₀ mg mb fa cd ns la xs h1 gh X' T' K' hx L prog dr os E0 hcx y9 y6 y5 y3 y2 lw vs0 h2 l3 vals hvl hlen D g ys k zz0 ws hws hyw hwl hwr R x0 d0 x1 d1 q1 i0 i1 n1 own Dn hperm hsort zz2 own7 mW7 D' ys' k' zz8 t63 t70 ow hs hla h10 tk10 qk ek o63 o70 D2 C h tk g' m' yy k2 hyl hG8 e0 e1 oo hs9 hoff9 hda off hn C0 hCL hCD h11 tk11 F11 N11; exact no_implicit_lambda% (@PLift.down _ hq2))
end
theorem reset_LJ : True := by w_top off; trivial
section
set_option maxHeartbeats 8000000 in
noncomputable def cutLJ : CutOne (cutLI).P1 := by
  apply CutOne.mk
  case f =>
    intro hq1
    intro w s₀ mg mb fa cd ns la h1 gh X' T' K' L prog dr os hcx y9 y6 y5 y3 y2 lw vs0 h2 vals hlen D g ys k ws hwl R x0 d0 x1 d1 z0 z1 q0 q1 i0 i1 n0 n1 Dn hne6 hperm own7 md07 md17 hR07 hR17 n70 D' ys' k' t63 t70 ow hs h10 tk10 N10 I i yy v g' C oC D2 oI m₂ h tk k2 E' hi hyl hv hG8 e0 e1 oo hs9 hoff9 hda nC hxv F9 N9 off
    obtain ⟨xr, dr, ir, nr, zr, tr, xo, dO, io, no, hv', hmd, hRr, hsel⟩ : ∃ (xr dr : Addr) (ir : Array Value) (nr : Nat) (zr tr : Tok) (xo dO : Addr) (io : Array Value) (no : Nat), v = .ref xr ∧ (dr, dictOf [sizeE w zr (.int 0 tr)] 1) ∈ own7 ∧ RowIs own7 ir ([(deal Dn).1, (deal Dn).2].getD i []) ∧
        ((0 = i ∧ x0 = xr ∧ d0 = dr ∧ i0 = ir ∧ e0 = nr ∧ x1 = xo ∧ d1 = dO ∧ i1 = io ∧ e1 = no) ∨ (1 = i ∧ x1 = xr ∧ d1 = dr ∧ i1 = ir ∧ e1 = nr ∧ x0 = xo ∧ d0 = dO ∧ #[] = io ∧ e0 = no)) := by
      match i, hi with
      | 0, _ => exact ⟨x0, d0, i0, e0, z0, q0, x1, d1, i1, e1, (Option.some.inj hv).symm, md07, hR07, .inl ⟨rfl, rfl, rfl, rfl, rfl, rfl, rfl, rfl, rfl⟩⟩
      | 1, _ => exact ⟨x1, d1, i1, e1, z1, q1, x0, d0, #[], e0, (Option.some.inj hv).symm, md17, hR17, .inr ⟨rfl, rfl, rfl, rfl, rfl, rfl, rfl, rfl, rfl⟩⟩
    have N10 : News gh L h ((xr, accO dr ir nr) :: (63, tabO t63) :: (70, tabO t70) :: (xo, accO dO io no) :: (I, oI) :: (C, oC) :: (D2, listOf yy.toArray k2) :: oo) := by
      rcases hsel with ⟨rfl, rfl, rfl, rfl, rfl, rfl, rfl, rfl, rfl⟩ | ⟨rfl, rfl, rfl, rfl, rfl, rfl, rfl, rfl, rfl⟩
      · exact newsSub N9 (by walk_at "my sub")
      · exact newsSub N9 (by walk_at "my sub")
    have hrrl : ([(deal Dn).1, (deal Dn).2].getD i []).length ≤ 10 := by
      have h1 := (deal_perm Dn).length_eq
      have h2 := hperm.length_eq
      rw [List.length_append] at h1
      rcases hsel with ⟨rfl, -⟩ | ⟨rfl, -⟩
      · show (deal Dn).1.length ≤ 10; omega
      · show (deal Dn).2.length ≤ 10; omega
    obtain ⟨rr, hrr⟩ : ∃ rr, rr = [(deal Dn).1, (deal Dn).2].getD i [] := ⟨_, rfl⟩
    rw [← hrr] at hRr hrrl
    subst hv'
    have hmd2 := hs9 _ (.tail _ (hs _ hmd))
    have hR2 := hRr.mono fun p hp => hs9 p (.tail _ (hs p hp))
    obtain ⟨Ts, fa, fb, hfn⟩ := hR2.fns
    have hsz : ir.size ≤ 10 := by rw [hRr.1]; exact hrrl
    have hIx : @Ne Nat I xr ∧ @Ne Nat C xr ∧ @Ne Nat D2 xr ∧ @Ne Nat 63 xr ∧ @Ne Nat 70 xr ∧ @Ne Nat xo xr ∧ ∀ p ∈ oo, p.1 ≠ xr := by
      have a0 := off (x0, _) (.tail _ (.tail _ (.head _)))
      have a1 := off (x1, _) (.tail _ (.tail _ (.tail _ (.head _))))
      rcases hsel with ⟨-, rfl, -, -, -, rfl, -⟩ | ⟨-, rfl, -, -, -, rfl, -⟩
      · exact ⟨a0.1.symm, a0.2.1.symm, a0.2.2.symm, hne6.2.1.symm, n70.1.symm, hne6.1.symm, fun p hp => (hoff9 p hp).2.2.1⟩
      · exact ⟨a1.1.symm, a1.2.1.symm, a1.2.2.symm, hne6.2.2.symm, n70.2.symm, hne6.1, fun p hp => (hoff9 p hp).2.2.2⟩
    clear N9
    (try dsimp only); (try k_fold)
    k_steps
    unfold Halt
    refine ListComp_G (cl := []) (by with_unfolding_all rfl) (by rfl) (by decide) ?_ (by with_unfolding_all exact fun _ => rfl)
    k_steps
    unfold Halt
    refine acc_method (f := .ref 53) (x := xr) (dx := dr) (items := ir) (es := [sizeE w zr (.int 0 tr)]) (n := nr) (k := 1) X' F9 N10 (.head _) (.tail _ (.tail _ (.tail _ (.tail _ (.tail _ (.tail _ (.tail _ hmd2))))))) (by k_dflt k_is) (.inl (by k_dflt k_is)) (by k_dflt k_get) ?_
    (try dsimp only); (try k_fold)
    k_steps
    unfold Halt
    refine popfrom_spec (x := xr) (dx := dr) (items := ir) (n := nr) K' F9 X' N10 T' rfl rfl rfl (by simp only [depth_in1, depth_deeper, depth_caller]; decide) (Nat.le_of_ble_eq_true rfl) ?_ (by omega) ?_
    · exact List.forall_mem_cons.mpr ⟨hIx.2.2.2.1, List.forall_mem_cons.mpr ⟨hIx.2.2.2.2.1, List.forall_mem_cons.mpr ⟨hIx.2.2.2.2.2.1, List.forall_mem_cons.mpr ⟨hIx.1, List.forall_mem_cons.mpr ⟨hIx.2.1, List.forall_mem_cons.mpr ⟨hIx.2.2.1, hIx.2.2.2.2.2.2⟩⟩⟩⟩⟩⟩
    intro P h12 tk12 n12 F12 N12 l12 l13
    clear N10 F9
    (try dsimp only); (try k_fold)
    k_steps
    (rename_i zz0 zz1 zz2; clear h1 h2 hlen k hwl z0 z1 q0 q1 n0 n1 hne6 hperm md07 md17 hR07 hR17 n70 hs N10 h tk hrrl zz2 qk ek; revert w s₀ mg mb zz0 cd ns la gh X' T' K' L prog zz1 os hcx y9 y6 y5 y3 y2 lw vs0 vals D g ys ws R x0 d0 x1 d1 i0 i1 Dn own7 D' ys' k' t63 t70 ow h10 tk10 I i yy g' C oC D2 oI m₂ k2 E' hi hyl hG8 e0 e1 oo hs9 hoff9 hda nC off xr dr ir nr zr tr xo dO io no hmd hsel rr hRr hrr hv hxv hmd2 hR2 Ts fa fb hfn hsz hIx P h12 tk12 n12 F12 N12 l12 l13; exact no_implicit_lambda% (@PLift.down _ hq1))
end
theorem reset_LK : True := by w_top off; trivial
section
set_option maxHeartbeats 8000000 in
theorem done_GL8 : (cutLJ).P1 := by
  intro w s₀ mg mb fa cd ns la gh X' T' K' L prog dr os hcx y9 y6 y5 y3 y2 lw vs0 vals D g ys ws R x0 d0 x1 d1 i0 i1 Dn own7 D' ys' k' t63 t70 ow h10 tk10 I i yy g' C oC D2 oI m₂ k2 E' hi hyl hG8 e0 e1 oo hs9 hoff9 hda nC off xr dr ir nr zr tr xo dO io no hmd hsel rr hRr hrr hv hxv hmd2 hR2 Ts fa fb hfn hsz hIx P h12 tk12 n12 F12 N12 l12 l13
  have hPs : ∀ p ∈ (63, tabO t63) :: (70, tabO t70) :: (xo, accO dO io no) :: (I, oI) :: (C, oC) :: (D2, listOf yy.toArray k2) :: oo, p.1 < P := l13
  refine comp_pair (l := P) (its := ir) (J := fun j y2 g nw => g = g' ∧ nw = (P, listOf ir 0) :: (xr, accO dr #[] n12) :: (63, tabO t63) :: (70, tabO t70) :: (xo, accO dO io no) :: (I, oI) :: (C, oC) :: (D2, listOf yy.toArray k2) :: oo ∧ StrsAre y2 (rr.take j))
    (fun j => .str " " (fa j)) (fun j => .str (rr.getD j "") (fb j)) hcx F12 N12 ⟨rfl, rfl, .nil⟩ (by omega) (fun i ys g nw hj => ⟨0, by rw [hj.2.1]; exact .head _⟩) (by decide) rfl (by decide) (by decide) (by decide) ?_ ?_ ?_
  · rintro j y2 g nw v hj hv ⟨rfl, rfl, _⟩
    obtain ⟨e1, kq, e2⟩ := hfn j hj
    rw [e1] at hv
    exact ⟨Ts j, (Option.some.inj hv).symm, .inl ⟨kq, .tail _ (.tail _ (.tail _ (.tail _ (.tail _ (.tail _ (.tail _ (.tail _ e2)))))))⟩⟩
  · rintro I2 j y2 g nw C2 oC2 D3 oI2 m3 h3 tk3 k3 E3 hj hyl3 ⟨rfl, rfl, hys3⟩ nC2 hma hmb F13 N13 off3 ne3
    (try dsimp only); (try k_fold)
    k_steps
    refine ⟨h3, _, _, oC2, m3, _, rfl, F13, nC2, N13, off3, rfl, rfl, ?_⟩
    have hjr : j < rr.length := by rw [← hR2.1]; exact hj
    rw [List.take_add_one, List.getElem?_eq_getElem hjr]
    have : rr.getD j "" = rr[j] := by rw [List.getD_eq_getElem?_getD, List.getElem?_eq_getElem hjr]; rfl
    rw [this]
    exact StrsAre.append' hys3 (.cons _ _ .nil)
  · rintro D3 C3 h3 tk3 g m3 y3 nw k3 hyl3 ⟨rfl, rfl, hys3⟩ F13 N13 off3 hn3 C30 hCL3 hCD3
    refine post_E F13 N13 off3 hn3 C30 hCL3 hCD3 fun h14 F14 N14 => ?_
    have hys4 : StrsAre y3 rr := by
      rw [List.take_of_length_le (by rw [hR2.1]; exact Nat.le_refl _)] at hys3
      exact hys3
    rw [hrr] at hys4
    have oo3 : ∀ p ∈ (P, listOf ir 0) :: (xr, accO dr #[] n12) :: (63, tabO t63) :: (70, tabO t70) :: (xo, accO dO io no) :: (I, oI) :: (C, oC) :: (D2, listOf yy.toArray k2) :: oo, p.1 ≠ D3 := fun p hp => (off3 p hp).2
    have q63 := hPs (63, tabO t63) (by k_mem)
    have q70 := hPs (70, tabO t70) (by k_mem)
    have qxo := hPs (xo, accO dO io no) (by k_mem)
    have qI := hPs (I, oI) (by k_mem)
    have qC := hPs (C, oC) (by k_mem)
    have qD := hPs (D2, listOf yy.toArray k2) (by k_mem)
    have w63 := oo3 (63, tabO t63) (by k_mem)
    have w70 := oo3 (70, tabO t70) (by k_mem)
    have wxo := oo3 (xo, accO dO io no) (by k_mem)
    have wxr := oo3 (xr, accO dr #[] n12) (by k_mem)
    have wI := oo3 (I, oI) (by k_mem)
    have wC := oo3 (C, oC) (by k_mem)
    have wD := oo3 (D2, listOf yy.toArray k2) (by k_mem)
    have hoo2 : ∀ p ∈ (P, listOf ir 0) :: (D3, listOf y3.toArray k3) :: oo, p.1 ≠ 63 ∧ p.1 ≠ 70 ∧ p.1 ≠ x0 ∧ p.1 ≠ x1 := by
      rcases hsel with ⟨-, rfl, -, -, -, rfl, -⟩ | ⟨-, rfl, -, -, -, rfl, -⟩
      · exact List.forall_mem_cons.mpr ⟨⟨Nat.ne_of_gt q63, Nat.ne_of_gt q70, Nat.ne_of_gt l12, Nat.ne_of_gt qxo⟩, List.forall_mem_cons.mpr ⟨⟨w63.symm, w70.symm, wxr.symm, wxo.symm⟩, hoff9⟩⟩
      · exact List.forall_mem_cons.mpr ⟨⟨Nat.ne_of_gt q63, Nat.ne_of_gt q70, Nat.ne_of_gt qxo, Nat.ne_of_gt l12⟩, List.forall_mem_cons.mpr ⟨⟨w63.symm, w70.symm, wxo.symm, wxr.symm⟩, hoff9⟩⟩
    have hoff4 : ∀ p ∈ (P, listOf ir 0) :: (D3, listOf y3.toArray k3) :: oo, p.1 ≠ I ∧ p.1 ≠ C ∧ p.1 ≠ D2 := List.forall_mem_cons.mpr ⟨⟨Nat.ne_of_gt qI, Nat.ne_of_gt qC, Nat.ne_of_gt qD⟩, List.forall_mem_cons.mpr ⟨⟨wI.symm, wC.symm, wD.symm⟩, fun p hp => off p (by simp [hp])⟩⟩
    have a63 := off (63, _) (.head _)
    have a70 := off (70, _) (.tail _ (.head _))
    have a0 := off (x0, _) (.tail _ (.tail _ (.head _)))
    have a1 := off (x1, _) (.tail _ (.tail _ (.tail _ (.head _))))
    have hda2 := hda.snoc (own' := (P, listOf ir 0) :: (D3, listOf y3.toArray k3) :: oo) (a := D3) (n := k3) (vs := y3) hyl (fun p hp => .tail _ (.tail _ hp)) (.tail _ (.head _)) hys4
    have hs10 : ∀ p ∈ (D', listOf ys'.toArray k') :: ow, p ∈ (P, listOf ir 0) :: (D3, listOf y3.toArray k3) :: oo := fun p hp => .tail _ (.tail _ (hs9 p hp))
    show TurnEnd _ _ _ _ _ _ _ _ _ _ _ _ _
    rcases hsel with ⟨rfl, rfl, rfl, rfl, rfl, rfl, rfl, rfl, rfl⟩ | ⟨rfl, rfl, rfl, rfl, rfl, rfl, rfl, rfl, rfl⟩
    · refine ⟨h14, _, _, oC, m₂, (63, tabO t63) :: (70, tabO t70) :: (x0, accO d0 #[] n12) :: (x1, accO d1 i1 e1) :: (P, listOf i0 0) :: (D3, listOf y3.toArray k3) :: oo, rfl, F14, nC, newsSub N14 (by walk_at "my sub"), ?_, rfl, n12, e1, _, rfl, hs10, hoo2, hda2⟩
      exact List.forall_mem_cons.mpr ⟨a63, List.forall_mem_cons.mpr ⟨a70, List.forall_mem_cons.mpr ⟨a0, List.forall_mem_cons.mpr ⟨a1, hoff4⟩⟩⟩⟩
    · refine ⟨h14, _, _, oC, m₂, (63, tabO t63) :: (70, tabO t70) :: (x0, accO d0 #[] e0) :: (x1, accO d1 #[] n12) :: (P, listOf i1 0) :: (D3, listOf y3.toArray k3) :: oo, rfl, F14, nC, newsSub N14 (by walk_at "my sub"), ?_, rfl, e0, n12, _, rfl, hs10, hoo2, hda2⟩
      exact List.forall_mem_cons.mpr ⟨a63, List.forall_mem_cons.mpr ⟨a70, List.forall_mem_cons.mpr ⟨a0, List.forall_mem_cons.mpr ⟨a1, hoff4⟩⟩⟩⟩
end
theorem reset_LH : True := by w_top off; trivial
section
set_option maxHeartbeats 8000000 in
theorem done_GL4 : (cutLG).P1 := by
  intro w s₀ mg mb fa cd ns la xs h1 gh X' T' K' hx L prog hprog dr os y9 y6 lw vs0 h2 vals hlen D ys k ws hwl hwr R x0 d0 x1 d1 z0 z1 q0 q1 i0 i1 n0 n1 Dn gs6 hne6 hperm h7 tk own7 md07 md17 hR07 hR17 n70 I i ys' v g C oC D' oI m₂ h tk k' E' hi hyl hv hG8 t63 t70 ow ht8 ht9 hs hoff8 hla nC hxv F9 N9 off
  obtain ⟨xr, dr, ir, nr, zr, tr, hv', hmx, hmd, hRr, hnx⟩ : ∃ (xr dr : Addr) (ir : Array Value) (nr : Nat) (zr tr : Tok), v = .ref xr ∧ (∀ {l : List (Addr × Obj)}, (x0, accO d0 i0 n0) ∈ l → (x1, accO d1 i1 n1) ∈ l → (xr, accO dr ir nr) ∈ l) ∧ (dr, dictOf [sizeE w zr (.int 0 tr)] 1) ∈ own7 ∧ RowIs own7 ir ([(deal Dn).1, (deal Dn).2].getD i []) ∧ (@Ne Nat xr 63 ∧ @Ne Nat xr 70) := by
    match i, hi with
    | 0, _ => exact ⟨x0, d0, i0, n0, z0, q0, (Option.some.inj hv).symm, (fun h _ => h), md07, hR07, hne6.2.1, n70.1⟩
    | 1, _ => exact ⟨x1, d1, i1, n1, z1, q1, (Option.some.inj hv).symm, (fun _ h => h), md17, hR17, hne6.2.2, n70.2⟩
  have hrrD : ∀ x ∈ [(deal Dn).1, (deal Dn).2].getD i [], x ∈ Dn := by
    match i, hi with
    | 0, _ => exact fun x hx => (deal_perm Dn).subset (List.mem_append_left _ hx)
    | 1, _ => exact fun x hx => (deal_perm Dn).subset (List.mem_append_right _ hx)
  have hrrl : ([(deal Dn).1, (deal Dn).2].getD i []).length ≤ 10 := by
    have h1 := (deal_perm Dn).length_eq
    have h2 := hperm.length_eq
    rw [List.length_append] at h1
    match i, hi with
    | 0, _ => show (deal Dn).1.length ≤ 10; omega
    | 1, _ => show (deal Dn).2.length ≤ 10; omega
  have hgl := getD_len (l := [(deal Dn).1, (deal Dn).2].getD i []) fun x hx => (hwr x (hperm.subset (hrrD x hx))).1.2
  have hld9 := load_small (l := [(deal Dn).1, (deal Dn).2].getD i []) fun x hx => (hwr x (hperm.subset (hrrD x hx))).1.2
  obtain ⟨rr, hrr⟩ : ∃ rr, rr = [(deal Dn).1, (deal Dn).2].getD i [] := ⟨_, rfl⟩
  rw [← hrr] at hRr hrrD hrrl hgl hld9
  subst hv'
  have hR2 := hRr.mono hs
  obtain ⟨Ts, fa, fb, hfn⟩ := hR2.fns
  have hsz : ir.size ≤ 10 := by rw [hRr.1]; exact hrrl
  have hmd2 := hs _ hmd
  have hj63 : ∀ {j : Nat}, ((" " : Str).length + (rr.getD j "").length) ≤ 100 := fun {j} => by
    have := hgl j
    have := blank_len
    omega
  have o63 := off (63, tabO t63) (by k_mem)
  have o70 := off (70, tabO t70) (by k_mem)
  have ox0 := off (x0, accO d0 i0 n0) (by k_mem)
  have ox1 := off (x1, accO d1 i1 n1) (by k_mem)
  have hne7 := hne6
  skip
  (try dsimp only); (try k_fold)
  k_steps
  refine len_K (K := hd.heap_39 w.params) (C := 101) (f := 68) F9 X' (acc_inst N9 (hmx (by k_mem) (by k_mem)) (.tail _ (.tail _ (.tail _ (.tail _ (.tail _ (.tail _ (.tail _ hmd2)))))))) (by k_dflt k_is) (by k_dflt k_is) ?_
  refine len_spec (x := xr) (dx := dr) (items := ir) (n := nr) (tk0 := zr) (t0 := tr) (ps := t63) (Ts := Ts) (sa := fun _ => " ") (sb := fun j => rr.getD j "") (ta := fa) (tb := fb)
    (rest := (I, oI) :: (C, oC) :: (D', listOf ys'.toArray k') :: (70, tabO t70) :: (x0, accO d0 i0 n0) :: (x1, accO d1 i1 n1) :: ow)
    K' F9 X' (newsSub N9 (by walk_at "my sub")) T' rfl rfl rfl (by simp only [depth_in1, depth_deeper, depth_caller]; decide) rfl hG8 ?_ ht8 ?_ ?_ ?_ (fun j => hj63) (by omega) ?_
  · refine List.forall_mem_cons.mpr ⟨o63.1.symm, List.forall_mem_cons.mpr ⟨o63.2.1.symm, List.forall_mem_cons.mpr ⟨o63.2.2.symm, List.forall_mem_cons.mpr ⟨(show (70 : Nat) ≠ 63 by decide), List.forall_mem_cons.mpr ⟨hne7.2.1, List.forall_mem_cons.mpr ⟨hne7.2.2, fun p hp => (hoff8 p hp).1⟩⟩⟩⟩⟩⟩
  · exact hmx (by k_mem) (by k_mem)
  · exact .tail _ (.tail _ (.tail _ (.tail _ (.tail _ (.tail _ hmd2)))))
  · intro j hj
    obtain ⟨e1, kq, e2⟩ := hfn j hj
    exact ⟨e1, kq, .tail _ (.tail _ (.tail _ (.tail _ (.tail _ (.tail _ e2)))))⟩
  intro h11 tk11 gs11 ps11 t11 ht11 F11 N11 hG11
  have hld : preSum (fun i => ((" " : Str).length : Int) + ((rr.getD i "").length : Int)) ir.size = (load rr : Int) := by
    rw [hRr.1]; exact preSum_load _
  rw [hld]
  refine ⟨⟨by omega, by omega⟩, ?_⟩
  clear F9 N9
  (try dsimp only); (try k_fold)
  k_steps
  refine kso_call (K := hd.heap_39 w.params) (C := 101) (f := 75) (Nat.le_of_ble_eq_true rfl) (X'.keeps F11.keep) (acc_inst N11 (hmx (by k_mem) (by k_mem)) (.tail _ (.tail _ (.tail _ (.tail _ (.tail _ (.tail _ (.tail _ hmd2)))))))) (by k_dflt k_is) (by k_dflt k_is) ?_
  refine str_spec (x := xr) (dx := dr) (items := ir) (n := nr) (tk0 := zr) (t0 := tr) (ps := t70) (Ts := Ts) (sa := fun _ => " ") (sb := fun j => rr.getD j "") (ta := fa) (tb := fb)
    (rest := (63, tabO ps11) :: (I, oI) :: (C, oC) :: (D', listOf ys'.toArray k') :: (x0, accO d0 i0 n0) :: (x1, accO d1 i1 n1) :: ow)
    K' F11 X' (newsSub N11 (by walk_at "my sub")) T' rfl rfl rfl (by simp only [depth_in1, depth_deeper, depth_caller]; decide) rfl hG11 ?_ ht9 ?_ ?_ (fun j => hj63) (by omega) ?_
  · refine List.forall_mem_cons.mpr ⟨(show (63 : Nat) ≠ 70 by decide), List.forall_mem_cons.mpr ⟨o70.1.symm, List.forall_mem_cons.mpr ⟨o70.2.1.symm, List.forall_mem_cons.mpr ⟨o70.2.2.symm, List.forall_mem_cons.mpr ⟨n70.1, List.forall_mem_cons.mpr ⟨n70.2, fun p hp => (hoff8 p hp).2.1⟩⟩⟩⟩⟩⟩
  · exact hmx (by k_mem) (by k_mem)
  · intro j hj
    obtain ⟨e1, kq, e2⟩ := hfn j hj
    exact ⟨e1, kq, .tail _ (.tail _ (.tail _ (.tail _ (.tail _ (.tail _ e2)))))⟩
  intro h12 tk12 gs12 ps12 t12 ht12 F12 N12 hG12
  have htx : Txt.join "" ((List.range ir.size).map fun i => (" " : Str) ++ rr.getD i "") = textOf rr := by
    unfold textOf; rw [hRr.1]
  rw [htx]
  dsimp only [StrBack]
  clear F11 N11
  (try dsimp only); (try k_fold)
  k_steps
  unfold Halt
  refine acc_method (f := .ref 98) (x := xr) (dx := dr) (items := ir) (es := [sizeE w zr (.int 0 tr)]) (n := nr) (k := 1) X' F12 N12 (hmx (by k_mem) (by k_mem)) (.tail _ (.tail _ (.tail _ (.tail _ (.tail _ (.tail _ (.tail _ hmd2))))))) (by k_dflt k_is) (.inl (by k_dflt k_is)) (by k_dflt k_get) ?_
  (try dsimp only); (try k_fold)
  k_steps
  unfold Halt
  refine count_spec (x := xr) (dx := dr) (items := ir) (n := nr) (es := [sizeE w zr (.int 0 tr)]) (k := 1) hprog K' F12 X' N12 T' rfl rfl rfl (by simp only [depth_in1, depth_deeper, depth_caller]; decide) (Nat.le_of_ble_eq_true rfl) (hmx (by k_mem) (by k_mem)) (.tail _ (.tail _ (.tail _ (.tail _ (.tail _ (.tail _ (.tail _ hmd2))))))) ?_
  intro h13 tk13 t13 F13 N13
  clear F12 N12
  (try dsimp only); (try k_fold)
  k_steps
  rename_i nl h14 F14 N14 l14
  show TurnEnd _ _ _ _ _ _ _ _ _ _ _ _ _
  have hsz2 : (ir.size : Int) = rr.length := by rw [hRr.1]
  rw [hsz2] at N14
  obtain ⟨b1, b2, b3, b4, b5, b6, b7, b8⟩ := l14
  have bo : ∀ p ∈ ow, p.1 < nl := allLt_mem b8
  have e9 : (((deal Dn).1 :: [(deal Dn).2]).getD i []) = rr := hrr.symm
  refine ⟨h14, _, gs12, oC, m₂, (63, tabO ps11) :: (70, tabO ps12) :: (x0, accO d0 i0 n0) :: (x1, accO d1 i1 n1) :: (nl, _) :: ow, rfl, F14, nC, newsSub N14 (by walk_at "my sub"), ?_, hG12, ps11, ps12, _, ht11, ht12, rfl, fun p hp => .tail _ (hs p hp), ?_, ?_⟩
  · refine List.forall_mem_cons.mpr ⟨o63, List.forall_mem_cons.mpr ⟨o70, List.forall_mem_cons.mpr ⟨ox0, List.forall_mem_cons.mpr ⟨ox1, List.forall_mem_cons.mpr ⟨?_, fun p hp => off p (by simp [hp])⟩⟩⟩⟩⟩
    exact ⟨Nat.ne_of_gt b3, Nat.ne_of_gt b4, Nat.ne_of_gt b5⟩
  · exact List.forall_mem_cons.mpr ⟨⟨Nat.ne_of_gt b2, Nat.ne_of_gt b1, Nat.ne_of_gt b6, Nat.ne_of_gt b7⟩, hoff8⟩
  · refine hla.snoc (t := tk11) (u := t12) (v := t13) hyl (fun p hp => .tail _ hp) ?_
    rw [e9]
    exact .head _
end
theorem reset_LM : True := by w_top off; trivial
section
theorem textOf_eq (r : List Str) : textOf r = Txt.join "" (r.map fun w => " " ++ w) := by
  unfold textOf
  congr 1
  apply List.ext_getElem
  · simp
  · intro i h1 h2
    simp at h1
    simp [h1]
def TextsJ (g0 : List (Addr × Obj)) (G : Array GenState) (t63 t70 : Array Value) (rs : List (List Str)) (i : Nat) (ys : List Value) (g : Array GenState) (nw : List (Addr × Obj)) : Prop :=
  g = G ∧ ∃ own, nw = (63, tabO t63) :: (70, tabO t70) :: own ∧ (∀ p ∈ g0, p ∈ own) ∧ (∀ p ∈ own, p.1 ≠ 63 ∧ p.1 ≠ 70) ∧ StrsAre ys ((rs.take i).map textOf)
set_option maxHeartbeats 8000000 in
noncomputable def cutLM : CutTwo (cutLI).P2 := by
  apply CutTwo.mk
  case f =>
    intro hq1 hq2
    intro w s₀ mg mb fa cd ns la xs h1 gh X' T' K' hx L prog dr os E0 hcx y9 y6 y5 y3 y2 lw vs0 h2 l3 vals hvl hlen D g ys k hyl ws hws hyw hwl hwr R x0 d0 x1 d1 q1 i0 i1 n1 own Dn hperm hsort ek own7 mW7 D' ys' k' hyl t63 t70 ow hs hla h10 tk10 qk ek o63 o70 D2 C h tk g' m' yy k2 hyl hG8 e0 e1 oo hs9 hoff9 hda off hn C0 hCL hCD h11 tk11 F11 N11
    dsimp only
    (try k_fold)
    k_steps
    unfold Halt
    refine Assign_ListComp_G (cl := []) (by with_unfolding_all rfl) (by with_unfolding_all rfl) (by rfl) (by decide) ?_ (by with_unfolding_all exact fun _ => rfl)
    have oD2 : ∀ p ∈ oo, p.1 ≠ D2 := fun p hp => (off p (by simp [hp])).2
    have u63 := (off (63, tabO t63) (by k_mem)).2
    have u70 := (off (70, tabO t70) (by k_mem)).2
    have N12 : News gh L h11 ((63, tabO t63) :: (70, tabO t70) :: (D2, listOf yy.toArray k2) :: oo) := newsSub N11 (by walk_at "my sub")
    have hoff12 : ∀ p ∈ (D2, listOf yy.toArray k2) :: oo, p.1 ≠ 63 ∧ p.1 ≠ 70 := List.forall_mem_cons.mpr ⟨⟨u63.symm, u70.symm⟩, fun p hp => ⟨(hoff9 p hp).1, (hoff9 p hp).2.1⟩⟩
    have hyy : yy.length = 2 := hyl
    clear N11 hn hoff9 off
    k_steps
    refine comp_name (l := D2) (its := yy.toArray) (J := TextsJ ((D2, listOf yy.toArray k2) :: oo) g' t63 t70 [(deal Dn).1, (deal Dn).2]) hcx F11 N12 ⟨rfl, _, rfl, fun p hp => hp, hoff12, .nil⟩ (by simp; omega) ?_ (by decide) rfl (by decide) ?_ ?_
    · rintro i ys2 g nw ⟨_, o2, rfl, hs12, _⟩
      exact ⟨k2, .tail _ (.tail _ (hs12 _ (.head _)))⟩
    · rintro I i ys2 v g nw C2 oC D3 oI m₂ h tk k3 E' hi hyl2 hv ⟨rfl, o2, rfl, hs12, hoff13, hst⟩ nC hxv F13 N13 off ne
      (rename_i zz0 zz1 zz2 zz3 zz4 zz5; clear E0 l3 zz0 k zz1 hws hyw d0 d1 q1 i0 i1 n1 own hsort zz2 own7 mW7 k' zz3 ow hs hla h10 tk10 qk ek o63 o70 C zz4 zz5 m' hyl e0 e1 hs9 C0 hCL hCD F11 oD2 u63 u70 N12 hoff12 ne; revert w s₀ mg mb fa cd ns la xs h1 gh X' T' K' hx L prog dr os hcx y9 y6 y5 y3 y2 lw vs0 h2 vals hvl hlen D ys ws hwl hwr R x0 x1 Dn hperm D' ys' t63 t70 D2 yy k2 oo hda h11 tk11 hyy I i ys2 v g C2 oC D3 oI m₂ h tk k3 E' hi hyl2 hv hG8 o2 hs12 hoff13 hst nC hxv F13 N13 off; exact no_implicit_lambda% (@PLift.down _ hq1))
    · rintro D3 C2 h tk g m2 ys2 nw k3 hyl2 ⟨rfl, o2, rfl, hs12, hoff13, hst⟩ F13 N13 off hn C0 hCL hCD
      refine post_A2 F13 N13 off hn C0 hCL hCD (fun h14 tk14 F14 N14 => ?_) (by rfl) (by rfl) (by rfl)
      (rename_i zz0 zz1 zz2 zz3 zz4 zz5 zz6 zz7 zz8; clear y5 y3 y2 d0 d1 i0 i1 zz4 zz5 m' e0 zz6 zz7 zz8 F11 oD2 u63 u70 N12 hoff12 F13 N13 hn; revert w s₀ mg mb fa cd ns la xs h1 gh X' T' K' hx L prog dr os E0 hcx y9 y6 lw vs0 h2 l3 vals hvl hlen D zz0 ys k zz1 ws hws hyw hwl hwr R x0 x1 q1 n1 own Dn hperm hsort zz2 own7 mW7 D' ys' k' zz3 t63 t70 ow hs hla h10 tk10 qk ek o63 o70 D2 C yy k2 hyl e1 oo hs9 hda h11 tk11 hyy D3 C2 h tk g m2 ys2 k3 hyl2 hG8 o2 hs12 hoff13 hst off C0 hCL hCD h14 tk14 F14 N14; exact no_implicit_lambda% (@PLift.down _ hq2))
end
theorem reset_LN : True := by w_top off; trivial
section
set_option maxHeartbeats 8000000 in
theorem done_GL9 : (cutLM).P1 := by
  intro w s₀ mg mb fa cd ns la xs h1 gh X' T' K' hx L prog dr os hcx y9 y6 y5 y3 y2 lw vs0 h2 vals hvl hlen D ys ws hwl hwr R x0 x1 Dn hperm D' ys' t63 t70 D2 yy k2 oo hda h11 tk11 hyy I i ys2 v g C2 oC D3 oI m₂ h tk k3 E' hi hyl2 hv hG8 o2 hs12 hoff13 hst nC hxv F13 N13 off
  have hi2 : i < 2 := by simpa [hyy] using hi
  obtain ⟨a, na, vs, hya, hma, hvs⟩ := hda i (by omega)
  have hv' : v = .ref a := by
    have : yy[i]? = some v := by simpa using hv
    rw [hya] at this
    exact (Option.some.inj this).symm
  subst hv'
  have hma2 := hs12 _ (.tail _ hma)
  have hrrD : ∀ x ∈ [(deal Dn).1, (deal Dn).2].getD i [], x ∈ Dn := by
    match i, hi2 with
    | 0, _ => exact fun x hx => (deal_perm Dn).subset (List.mem_append_left _ hx)
    | 1, _ => exact fun x hx => (deal_perm Dn).subset (List.mem_append_right _ hx)
  have hrrl : ([(deal Dn).1, (deal Dn).2].getD i []).length ≤ 10 := by
    have h1 := (deal_perm Dn).length_eq
    have h2 := hperm.length_eq
    rw [List.length_append] at h1
    match i, hi2 with
    | 0, _ => show (deal Dn).1.length ≤ 10; omega
    | 1, _ => show (deal Dn).2.length ≤ 10; omega
  obtain ⟨rr, hrr⟩ : ∃ rr, rr = [(deal Dn).1, (deal Dn).2].getD i [] := ⟨_, rfl⟩
  rw [← hrr] at hvs hrrD hrrl
  have hvl := hvs.length
  (try dsimp only); (try k_fold)
  k_steps
  unfold Halt
  refine ListComp_G (cl := []) (by with_unfolding_all rfl) (by rfl) (by decide) ?_ (by with_unfolding_all exact fun _ => rfl)
  k_steps
  refine comp_name (l := a) (its := vs.toArray) (J := fun j y2 gg nw => gg = g ∧ nw = (I, oI) :: (C2, oC) :: (D3, listOf ys2.toArray k3) :: (63, tabO t63) :: (70, tabO t70) :: o2 ∧ StrsAre y2 ((rr.take j).map fun w => " " ++ w)) hcx F13 N13 ⟨rfl, rfl, .nil⟩ (by simp; omega) (fun j ys gg nw hj => ⟨na, by rw [hj.2.1]; exact .tail _ (.tail _ (.tail _ (.tail _ (.tail _ hma2))))⟩) (by decide) rfl (by decide) ?_ ?_
  · rintro I2 j y2 v g nw C3 oC2 D4 oI2 m3 h3 tk3 k4 E3 hj hyl3 hvj ⟨rfl, rfl, hys3⟩ nC2 hxv3 F14 N14 off3 ne3
    obtain ⟨x, tx, rfl, hx⟩ := hvs.item j v (by simpa using hvj)
    have hx9 := (hwr x (hperm.subset (hrrD x (List.mem_of_getElem? hx)))).1.2
    (try dsimp only); (try k_fold)
    k_steps
    refine ⟨h3, _, _, oC2, m3, _, rfl, F14, nC2, N14, off3, rfl, rfl, ?_⟩
    rw [List.take_add_one, hx, List.map_append]
    exact StrsAre.append' hys3 (.cons _ _ .nil)
  · rintro D4 C3 h3 tk3 g m3 y3 nw k4 hyl3 ⟨rfl, rfl, hys3⟩ F14 N14 off3 hn3 C30 hCL3 hCD3
    refine post_E F14 N14 off3 hn3 C30 hCL3 hCD3 fun h15 F15 N15 => ?_
    have hys4 : StrsAre y3 (rr.map fun w => " " ++ w) := by
      rw [List.take_of_length_le (by simp; omega)] at hys3
      exact hys3
    clear N13 F13 N14 F14
    (try dsimp only); (try k_fold)
    k_steps
    have hsum : ((rr.map fun w => (" " : Str) ++ w).map (·.length)).sum ≤ 100 := by
      have h1 := load_small (l := rr) fun x hx => (hwr x (hperm.subset (hrrD x hx))).1.2
      have h2 : ((rr.map fun w => (" " : Str) ++ w).map (·.length)).sum = load rr := by
        unfold load
        rw [List.map_map]
        congr 1
        apply List.map_congr_left
        intro x _
        show ((" " : Str) ++ x).length = _
        rw [Str.length_append, blank_len]
        omega
      rw [h2]
      omega
    refine join_listW (ys := rr.map fun w => " " ++ w) (newsLst N15 (.head _)) hys4 (by decide +kernel) (by rw [List.length_map]; omega) fun t16 k16 => ?_
    have o4 : ∀ p ∈ (I, oI) :: (C2, oC) :: (D3, listOf ys2.toArray k3) :: (63, tabO t63) :: (70, tabO t70) :: o2, p.1 ≠ D4 := fun p hp => (off3 p hp).2
    have hoff14 : ∀ p ∈ (D4, listOf y3.toArray k4) :: o2, p.1 ≠ 63 ∧ p.1 ≠ 70 := List.forall_mem_cons.mpr ⟨⟨(o4 (63, _) (by k_mem)).symm, (o4 (70, _) (by k_mem)).symm⟩, hoff13⟩
    show TurnEnd _ _ _ _ _ _ _ _ _ _ _ _ _
    refine ⟨h15, _, _, oC, m₂, (63, tabO t63) :: (70, tabO t70) :: (D4, listOf y3.toArray k4) :: o2, rfl, F15, nC, newsSub N15 (by walk_at "my sub"), ?_, rfl, _, rfl, fun p hp => .tail _ (hs12 p hp), hoff14, ?_⟩
    · exact List.forall_mem_cons.mpr ⟨off (63, _) (by k_mem), List.forall_mem_cons.mpr ⟨off (70, _) (by k_mem), List.forall_mem_cons.mpr ⟨⟨(o4 (I, _) (by k_mem)).symm, (o4 (C2, _) (by k_mem)).symm, (o4 (D3, _) (by k_mem)).symm⟩, fun p hp => off p (by simp [hp])⟩⟩⟩
    · rw [← textOf_eq, hrr]
      have e9 : ([(deal Dn).1, (deal Dn).2].take (i + 1)).map textOf = ([(deal Dn).1, (deal Dn).2].take i).map textOf ++ [textOf ([(deal Dn).1, (deal Dn).2].getD i [])] := by
        match i, hi2 with
        | 0, _ => rfl
        | 1, _ => rfl
      rw [e9]
      exact StrsAre.append' hst (.cons _ _ .nil)
end
theorem reset_LO : True := by w_top off; trivial
section
set_option maxHeartbeats 8000000 in
noncomputable def cutLO : CutOne (cutLM).P2 := by
  apply CutOne.mk
  case f =>
    intro hq1
    intro w s₀ mg mb fa cd ns la xs h1 gh X' T' K' hx L prog dr os E0 hcx y9 y6 lw vs0 h2 l3 vals hvl hlen D g ys k hyl ws hws hyw hwl hwr R x0 x1 q1 n1 own Dn hperm hsort ek own7 mW7 D' ys' k' hyl t63 t70 ow hs hla h10 tk10 qk ek o63 o70 D2 C yy k2 hyl e1 oo hs9 hda h11 tk11 hyy D3 C2 h tk g m2 ys2 k3 hyl2 hG8 o2 hs12 hoff13 hst off C0 hCL hCD h14 tk14 F14 N14
    dsimp only
    have oD3 : ∀ p ∈ (63, tabO t63) :: (70, tabO t70) :: o2, p.1 ≠ D3 := fun p hp => (off p hp).2
    have v63 := oD3 (63, _) (by k_mem)
    have v70 := oD3 (70, _) (by k_mem)
    have hoff15 : ∀ p ∈ (D3, listOf ys2.toArray k3) :: o2, p.1 ≠ 63 ∧ p.1 ≠ 70 := List.forall_mem_cons.mpr ⟨⟨v63.symm, v70.symm⟩, hoff13⟩
    have hst2 : StrsAre ys2 [textOf (deal Dn).1, textOf (deal Dn).2] := by
      rw [List.take_of_length_le (by show 2 ≤ yy.toArray.size; simp [hyy])] at hst
      exact hst
    have m2 : (D2, listOf yy.toArray k2) ∈ o2 := hs12 _ (.head _)
    have m3 : (D', listOf ys'.toArray k') ∈ o2 := hs12 _ (.tail _ (hs9 _ (.head _)))
    (try k_fold)
    skip
    k_steps
    unfold Halt
    refine ListComp_G (cl := []) (by with_unfolding_all rfl) (by rfl) (by decide) ?_ (by with_unfolding_all exact fun _ => rfl)
    k_steps
    (rename_i zz0 zz1 zz2 zz3 zz4; clear zz4 hst off oD3 v63 v70 hoff15; revert w s₀ mg mb fa cd ns la xs h1 gh X' T' K' hx L prog dr os E0 hcx y9 y6 lw vs0 h2 l3 vals hvl hlen D zz0 ys k zz1 ws hws hyw hwl hwr R x0 x1 q1 n1 own Dn hperm hsort zz2 own7 mW7 D' ys' k' zz3 t63 t70 ow hs hla h10 tk10 qk ek o63 o70 D2 C yy k2 hyl e1 oo hs9 hda h11 tk11 hyy D3 C2 h tk g ys2 k3 hyl2 hG8 o2 hs12 hoff13 C0 hCL hCD h14 tk14 F14 N14 hst2 m2 m3; exact no_implicit_lambda% (@PLift.down _ hq1))
end
theorem reset_LP : True := by w_top off; trivial
section
theorem join_len : ∀ r : List Str, (Str.join "" r).length = (r.map (·.length)).sum
  | [] => by decide +kernel
  | [x] => by show x.length = _; simp
  | x :: y :: r => by
    show (x ++ "" ++ Str.join "" (y :: r)).length = _
    rw [Str.length_append, Str.length_append, join_len (y :: r)]
    have : (Str.ofString "").length = 0 := by decide +kernel
    rw [this]
    simp
theorem textOf_join (r : List Str) : textOf r = Str.join "" (r.map fun w => " " ++ w) := by
  rw [textOf_eq]; exact StrLaws.glued_eq_join _ _
theorem textOf_len (r : List Str) : (textOf r).length = load r := by
  rw [textOf_join, join_len, List.map_map]
  unfold load
  congr 1
  apply List.map_congr_left
  intro x _
  show ((" " : Str) ++ x).length = _
  rw [Str.length_append, blank_len]
  omega
theorem strOk_join (r : List Str) (h : ∀ x ∈ r, PySem.PyData.strOk x = true) : PySem.PyData.strOk (Str.join "" r) = true := by
  unfold PySem.PyData.strOk
  rw [Array.all_eq_true_iff_forall_mem]
  intro c hc
  have := (mem_join "" c r).mp (Array.mem_toList_iff.mpr hc)
  rcases this with ⟨t, ht, hc⟩ | ⟨_, hc⟩
  · have h2 := h t ht
    unfold PySem.PyData.strOk at h2
    rw [Array.all_eq_true_iff_forall_mem] at h2
    exact h2 c (Array.mem_toList_iff.mp hc)
  · rw [show (Str.ofString "").cps.toList = [] by decide +kernel] at hc; cases hc
theorem strOk_app (x y : Str) (hx : PySem.PyData.strOk x = true) (hy : PySem.PyData.strOk y = true) : PySem.PyData.strOk (x ++ y) = true := by
  unfold PySem.PyData.strOk at *
  rw [Str.cps_append, Array.all_append, hx, hy]; rfl
theorem strOk_wd (z : Int) : PySem.PyData.strOk (wd z) = true := by
  obtain ⟨r, hr, e⟩ := wd_cases z
  rw [e]
  have : ∀ r : Nat, r < 9 → PySem.PyData.strOk (Txt.slice "abcdefghi" none (some (1 + (r : Int)))) = true := by decide +kernel
  exact this r hr
theorem strOk_text (r : List Str) (h : ∀ x ∈ r, PySem.PyData.strOk x = true) : PySem.PyData.strOk (textOf r) = true := by
  rw [textOf_join]
  refine strOk_join _ fun x hx => ?_
  obtain ⟨y, hy, rfl⟩ := List.mem_map.mp hx
  exact strOk_app _ _ (by decide +kernel) (h y hy)
theorem ne_same {prog : Program} {w : World} {A : Around} {E : Value → Shared → Prop} {s : Shared} {a b : Value} {d : PyData} {as bs : List Addr} {Q : Value → Shared → Prop} (ra : Reads s.heap a d as) (rb : Reads s.heap b d bs) (hd : SeqAt.shaped d = true) (hu : A.units + 64 < cLine)
    (h : Q (.bool false) s) : wpAny (model prog w) A (compareOp .NotEq a b) Q E s :=
  ne_dataH ra rb hd hd hu (by rw [SeqAt.eqv_refl d (SeqAt.canLay_of_shaped hd)]; exact h)
set_option maxHeartbeats 8000000 in
noncomputable def cutLP : CutTwo (cutLO).P1 := by
  apply CutTwo.mk
  case f =>
    intro hq1 hq2
    intro w s₀ mg mb fa cd ns la xs h1 gh X' T' K' hx L prog dr os E0 hcx y9 y6 lw vs0 h2 l3 vals hvl hlen D g ys k hyl ws hws hyw hwl hwr R x0 x1 q1 n1 own Dn hperm hsort ek own7 mW7 D' ys' k' hyl t63 t70 ow hs hla h10 tk10 qk ek o63 o70 D2 C yy k2 hyl e1 oo hs9 hda h11 tk11 hyy D3 C2 h tk g ys2 k3 hyl2 hG8 o2 hs12 hoff13 C0 hCL hCD h14 tk14 F14 N14 hst2 m2 m3
    have hyl2 : ys2.length = 2 := hst2.length
    refine comp_zip (c1 := k3) (c2 := k2) (xs := ys2.toArray) (ys0 := yy.toArray) (news := (D3, listOf ys2.toArray k3) :: (63, tabO t63) :: (70, tabO t70) :: o2)
      (J := fun i y9 gg nw => gg = g ∧ (∀ p ∈ (D3, listOf ys2.toArray k3) :: (63, tabO t63) :: (70, tabO t70) :: o2, p ∈ nw) ∧ LookAt nw y9 [(deal Dn).1, (deal Dn).2]) hcx (by simp; omega) (by decide) rfl (by decide) (by decide) (by decide) F14 N14 (.head _) (by k_mem) ⟨rfl, fun p hp => hp, fun j hj => absurd hj (by simp)⟩ ?_ ?_
    · rintro i y9 x y gg nw C3 oC D4 src m₂ h tk k4 E' hi hyl9 hx hy ⟨rfl, hsub9, hlk⟩ nC hma hmb F15 N15 off15 hCD9
      (rename_i zz0 zz1 zz2 zz3 zz4 zz5 zz6 zz7; clear xs zz0 E0 hcx l3 g k zz2 hws hyw q1 n1 own hsort zz3 own7 mW7 k' zz4 ow hs hla h10 tk10 qk ek o63 o70 C hyl e1 hs9 h11 tk11 C2 zz5 zz6 hoff13 C0 hCL hCD F14 N14 m2 m3 hG8 off15 hCD9; revert w s₀ mg mb fa cd ns la h1 gh X' T' K' L prog dr os zz1 y6 lw vs0 h2 vals hvl hlen D ys ws hwl hwr R x0 x1 Dn hperm D' ys' t63 t70 D2 yy k2 oo hda hyy D3 ys2 k3 zz7 o2 hs12 h14 tk14 hst2 hyl2 i y9 x y gg nw C3 oC D4 src m₂ h tk k4 E' hi hyl9 hx hy hsub9 hlk nC hma hmb F15 N15; exact no_implicit_lambda% (@PLift.down _ hq1))
    · rintro D4 C3 h tk gg m3 y9 nw k4 hyl9 ⟨rfl, hsub9, hlk⟩ F15 N15 off15 hn C0 hCL hCD
      refine post_E F15 N15 off15 hn C0 hCL hCD fun h16 F16 N16 => ?_
      (rename_i zz0 zz1 zz2 zz3 zz4 zz5 zz6 zz7 zz8 zz9 zz10; clear zz4 zz5 zz7 zz8 zz9 F14 N14 hst2 m2 F15 N15 off15 hn; revert w s₀ mg mb fa cd ns la xs h1 gh X' T' K' hx L prog dr os E0 hcx zz0 y6 lw vs0 h2 l3 vals hvl hlen D g ys k zz1 ws hws hyw hwl hwr R x0 x1 q1 n1 own Dn hperm hsort zz2 own7 mW7 D' ys' k' zz3 t63 t70 ow hs hla h10 tk10 qk ek o63 o70 D2 C yy k2 hyl e1 oo hs9 hda h11 tk11 hyy D3 C2 ys2 k3 zz6 o2 hs12 hoff13 h14 tk14 zz10 hyl2 D4 C3 h tk gg m3 y9 nw k4 hyl9 hG8 hsub9 hlk C0 hCL hCD h16 F16 N16; exact no_implicit_lambda% (@PLift.down _ hq2))
end
theorem reset_LQ : True := by w_top off; trivial
section
def HidQ (Q : Value → Shared → Prop) (v : Value) (s : Shared) : Prop := Q v s
theorem hidQ {M : Model} {A : Around} {E : Value → Shared → Prop} {s : Shared} {t : Sem Value} {Q : Value → Shared → Prop} (h : wpAny M A t (HidQ Q) E s) : wpAny M A t Q E s := h
set_option maxHeartbeats 8000000 in
theorem done_GL12 : (cutLP).P1 := by
  intro w s₀ mg mb fa cd ns la h1 gh X' T' K' L prog dr os y9 y6 lw vs0 h2 vals hvl hlen D ys ws hwl hwr R x0 x1 Dn hperm D' ys' t63 t70 D2 yy k2 oo hda hyy D3 ys2 k3 hyl2 o2 hs12 h14 tk14 hst2 hyl2 i y9 x y gg nw C3 oC D4 src m₂ h tk k4 E' hi hyl9 hx hy hsub9 hlk nC hma hmb F15 N15
  have hi2 : i < 2 := by simp at hi; omega
  obtain ⟨a, na, vs, hya, hma2, hvs⟩ := hda i (by omega)
  have hy' : y = .ref a := by
    have : yy[i]? = some y := by simpa using hy
    rw [hya] at this
    exact (Option.some.inj this).symm
  subst hy'
  obtain ⟨tx, utx, rfl, htx⟩ := hst2.item i x (by simpa using hx)
  have e9 : tx = textOf ([(deal Dn).1, (deal Dn).2].getD i []) := by
    match i, hi2 with
    | 0, _ => exact (Option.some.inj htx).symm
    | 1, _ => exact (Option.some.inj htx).symm
  have hrrD : ∀ x ∈ [(deal Dn).1, (deal Dn).2].getD i [], x ∈ Dn := by
    match i, hi2 with
    | 0, _ => exact fun x hx => (deal_perm Dn).subset (List.mem_append_left _ hx)
    | 1, _ => exact fun x hx => (deal_perm Dn).subset (List.mem_append_right _ hx)
  have hrrl : ([(deal Dn).1, (deal Dn).2].getD i []).length ≤ 10 := by
    have h1 := (deal_perm Dn).length_eq
    have h2 := hperm.length_eq
    rw [List.length_append] at h1
    match i, hi2 with
    | 0, _ => show (deal Dn).1.length ≤ 10; omega
    | 1, _ => show (deal Dn).2.length ≤ 10; omega
  have hld9 := load_small (l := [(deal Dn).1, (deal Dn).2].getD i []) fun x hx => (hwr x (hperm.subset (hrrD x hx))).1.2
  obtain ⟨rr, hrr⟩ : ∃ rr, rr = [(deal Dn).1, (deal Dn).2].getD i [] := ⟨_, rfl⟩
  rw [← hrr] at hvs hrrD hrrl hld9 e9
  have hvl := hvs.length
  have htl := textOf_len rr
  rw [← e9] at htl
  have hma3 : (a, listOf vs.toArray na) ∈ src ++ nw := List.mem_append_right _ (hsub9 _ (.tail _ (.tail _ (.tail _ (hs12 _ (.tail _ hma2))))))
  refine hidQ ?_
  (try dsimp only); (try k_fold)
  k_steps
  rename_i nl h16 F16 N16 l16
  show HidQ _ _ _
  unfold HidQ
  obtain ⟨b1, b2, b3⟩ := l16
  have htz : (tx.length : Int) = (load rr : Int) := by rw [htl]
  have hvz : (vs.length : Int) = (rr.length : Int) := by rw [hvl]
  rw [hvz, htz, e9] at N16
  refine ⟨h16, _, _, oC, m₂, _, nl, rfl, F16, nC, N16, List.forall_mem_cons.mpr ⟨b1, List.forall_mem_cons.mpr ⟨b2, allLt_mem b3⟩⟩, rfl, fun p hp => .tail _ (hsub9 p hp), ?_⟩
  exact hlk.snoc hyl9 (fun p hp => .tail _ hp) (by rw [← hrr]; exact .head _)
end
theorem reset_LR : True := by w_top off; trivial
section
def lookD (r : List Str) : PyData := .list [.int (load r : Int), .str (textOf r), .int (r.length : Int)]
theorem look_reads {h₀ h : Heap} {L : Addr} {own all : List (Addr × Obj)} {ys : List Value} {r0 r1 : List Str} (N : News h₀ L h all) (sub : ∀ p ∈ own, p ∈ all) (hl : ys.length = 2) (H : LookAt own ys [r0, r1]) : ∃ as, ReadsAll h ys [lookD r0, lookD r1] as := by
  have one : ∀ j r, j < 2 → [r0, r1].getD j [] = r → ∃ v as, ys[j]? = some v ∧ Reads h v (lookD r) as := fun j r hj e => by
    obtain ⟨a, t, u, v, e1, e2⟩ := H j (by omega)
    rw [e] at e2
    exact ⟨_, _, e1, reads_list_at (N _ (sub _ e2)).1 rfl rfl (.cons (.int _ _) (.cons (.str _ _) (.cons (.int _ _) .nil)))⟩
  obtain ⟨v0, a0, e0, q0⟩ := one 0 r0 (by decide) rfl
  obtain ⟨v1, a1, e1, q1⟩ := one 1 r1 (by decide) rfl
  match ys, hl with
  | [x, y], _ =>
    have e0 : x = v0 := Option.some.inj e0
    have e1 : y = v1 := Option.some.inj e1
    subst e0 e1
    exact ⟨_, .cons q0 (.cons q1 .nil)⟩
theorem lookD_shaped {r0 r1 : List Str} (h0 : ∀ x ∈ r0, PySem.PyData.strOk x = true) (h1 : ∀ x ∈ r1, PySem.PyData.strOk x = true) : SeqAt.shaped (.list [lookD r0, lookD r1]) = true := by
  unfold SeqAt.shaped lookD
  simp only [PyData.canLay0, PyData.canLayAll0, PyData.depth, PyData.depthAll, strOk_text _ h0, strOk_text _ h1]
  rfl
set_option maxHeartbeats 8000000 in
noncomputable def cutLR : CutOne (cutLP).P2 := by
  apply CutOne.mk
  case f =>
    intro hq1
    intro w s₀ mg mb fa cd ns la xs h1 gh X' T' K' hx L prog dr os E0 hcx y9 y6 lw vs0 h2 l3 vals hvl hlen D g ys k hyl ws hws hyw hwl hwr R x0 x1 q1 n1 own Dn hperm hsort ek own7 mW7 D' ys' k' hyl t63 t70 ow hs hla h10 tk10 qk ek o63 o70 D2 C yy k2 hyl e1 oo hs9 hda h11 tk11 hyy D3 C2 ys2 k3 hyl2 o2 hs12 hoff13 h14 tk14 m3 hyl2 D4 C3 h tk gg m3 y9 nw k4 hyl9 hG8 hsub9 hlk C0 hCL hCD h16 F16 N16
    dsimp only
    have hmn : min ys2.toArray.size yy.toArray.size = 2 := by simp [hyl2, hyy]
    have hy9 : y9.length = 2 := by omega
    have hy' : ys'.length = 2 := by assumption
    have hstr : ∀ x ∈ ws, PySem.PyData.strOk x = true := by
      intro x hx
      rw [hws] at hx
      obtain ⟨z, _, rfl⟩ := List.mem_map.mp hx
      exact strOk_wd z
    have hs0 : ∀ x ∈ (deal Dn).1, PySem.PyData.strOk x = true := fun x hx => hstr x (hperm.subset ((deal_perm Dn).subset (List.mem_append_left _ hx)))
    have hs1 : ∀ x ∈ (deal Dn).2, PySem.PyData.strOk x = true := fun x hx => hstr x (hperm.subset ((deal_perm Dn).subset (List.mem_append_right _ hx)))
    obtain ⟨as1, ra1⟩ := look_reads N16 (fun p hp => .tail _ hp) hy9 hlk
    obtain ⟨as2, ra2⟩ := look_reads (own := ow) N16 (fun p hp => .tail _ (hsub9 _ (.tail _ (.tail _ (.tail _ (hs12 _ (.tail _ (hs9 _ (.tail _ hp))))))))) hy' hla
    have mL : (D', listOf ys'.toArray k') ∈ nw := hsub9 _ (by k_mem)
    refine ne_same (reads_list_at (N16 (D', listOf ys'.toArray k') (.tail _ mL)).1 rfl rfl ra2) (reads_list_at (N16 _ (.head _)).1 rfl rfl ra1) (lookD_shaped hs0 hs1) (Nat.le_of_ble_eq_true rfl) ?_
    have N17 : News gh L h16 ((63, tabO t63) :: (70, tabO t70) :: o2) := newsSub N16 (fun p hp => .tail _ (hsub9 p (.tail _ hp)))
    clear N16
    (try dsimp only); (try k_fold)
    k_steps
    rename_i lj h17 F17 N18 l17
    have mD : (D, listOf ys.toArray k) ∈ o2 := hs12 _ (.tail _ (hs9 _ (.tail _ (hs _ mW7))))
    have mD2 : (D2, listOf yy.toArray k2) ∈ o2 := hs12 _ (.head _)
    have hoo2 : ∀ p ∈ oo, p ∈ o2 := fun p hp => hs12 _ (.tail _ hp)
    have mLK : (D', listOf ys'.toArray k') ∈ o2 := by assumption
    have how2 : ∀ p ∈ ow, p ∈ o2 := fun p hp => hs12 _ (.tail _ (hs9 _ (.tail _ hp)))
    (rename_i zz0 zz1 zz2 zz3 zz4 zz5; clear hws own mW7 hs9 hs12 h14 tk14 zz5 k4 hlk hmn hstr hs0 hs1 mL l17; revert w s₀ mg mb fa cd ns la xs h1 gh X' T' K' hx L prog dr os E0 hcx zz0 y6 lw vs0 h2 l3 vals hvl hlen D g ys k zz1 ws hyw hwl hwr R x0 x1 q1 n1 Dn hperm hsort zz2 own7 D' ys' k' zz3 t63 t70 ow hs hla h10 tk10 qk ek o63 o70 D2 C yy k2 hyl e1 oo hda h11 tk11 hyy D3 C2 ys2 k3 zz4 o2 hoff13 hyl2 D4 C3 h tk gg m3 y9 nw hyl9 hG8 hsub9 C0 hCL hCD h16 hy9 hy' as1 ra1 as2 ra2 lj h17 F17 N18 mD mD2 hoo2 mLK how2; exact no_implicit_lambda% (@PLift.down _ hq1))
end
theorem reset_LS : True := by w_top off; trivial
section
set_option maxHeartbeats 8000000 in
noncomputable def cutLS : CutOne (cutLR).P1 := by
  apply CutOne.mk
  case f =>
    intro hq1
    intro w s₀ mg mb fa cd ns la xs h1 gh X' T' K' hx L prog dr os E0 hcx y9 y6 lw vs0 h2 l3 vals hvl hlen D g ys k hyl ws hyw hwl hwr R x0 x1 q1 n1 Dn hperm hsort ek own7 D' ys' k' hyl t63 t70 ow hs hla h10 tk10 qk ek o63 o70 D2 C yy k2 hyl e1 oo hda h11 tk11 hyy D3 C2 ys2 k3 hyl2 o2 hoff13 hyl2 D4 C3 h tk gg m3 y9 nw hyl9 hG8 hsub9 C0 hCL hCD h16 hy9 hy' as1 ra1 as2 ra2 lj h17 F17 N18 mD mD2 hoo2 mLK how2
    dsimp only
    have hyl3 : ys.length = ws.length := hyw.length
    refine add_lists (vs := ys) F17 N18 (newsLst N18 (n := k) (.tail _ (.tail _ (.tail _ mD)))) (newsLst N18 (.head _)) (fun h18 F18 N19 => ?_) (by rw [sizeLine_eq]; simp; omega)
    have l18 : ∀ p ∈ (lj, listOf #[.str "j" tk] 0) :: (63, tabO t63) :: (70, tabO t70) :: o2, p.1 < h17.objs.size := fun p hp => Heap.lt_size (N18 p hp).1
    generalize h17.objs.size = W1 at *
    clear F17 N18
    obtain ⟨a0, na0, va, ea, ma, hva⟩ := hda 0 (by omega)
    obtain ⟨b0, nb0, vb, eb, mb, hvb⟩ := hda 1 (by omega)
    have hva : StrsAre va (deal Dn).1 := hva
    have hvb : StrsAre vb (deal Dn).2 := hvb
    have hal := hva.length
    have hbl := hvb.length
    have hdl := (deal_perm Dn).length_eq
    have hpl := hperm.length_eq
    rw [List.length_append] at hdl
    have mma := hoo2 _ ma
    have mmb := hoo2 _ mb
    (try dsimp only); (try k_fold)
    k_steps
    unfold Halt
    refine subV N19 (l := D2) (its := yy.toArray) (by k_mem) (by decide) (by decide) (v := .ref a0) (by simpa using ea) ?_
    (try dsimp only); (try k_fold)
    k_steps
    unfold Halt
    refine subV N19 (l := D2) (its := yy.toArray) (by k_mem) (by decide) (by decide) (v := .ref b0) (by simpa using eb) ?_
    (try dsimp only); (try k_fold)
    refine add_lists (vs := va) (ws := vb) F18 N19 (newsLst N19 (n := na0) (by k_mem)) (newsLst N19 (n := nb0) (by k_mem)) (fun h20 F20 N20 => ?_) (by rw [sizeLine_eq]; omega)
    have l20 : ∀ p ∈ (W1, listOf (ys ++ [Value.str "j" tk]).toArray 0) :: (lj, listOf #[.str "j" tk] 0) :: (63, tabO t63) :: (70, tabO t70) :: o2, p.1 < h18.objs.size := fun p hp => Heap.lt_size (N19 p hp).1
    generalize h18.objs.size = W2 at *
    clear F18 N19
    k_steps
    rename_i hsa lk h21 F21 N21 l21 h22 F22 N22
    unfold Halt
    have l22 : ∀ p ∈ (63, tabO t63) :: (70, tabO t70) :: o2, p.1 < h21.objs.size := fun p hp => Heap.lt_size (N21 p (by simp only [List.mem_cons] at hp ⊢; simp [hp])).1
    have l23 : W1 < h21.objs.size := Heap.lt_size (N21 (W1, listOf (ys ++ [Value.str "j" tk]).toArray 0) (by k_mem)).1
    generalize h21.objs.size = W3 at *
    clear F21 N21
    (rename_i zz0 zz1 zz2 zz3 zz4 zz5 zz6 zz7 zz8; clear h17 h18 a0 na0 ea ma zz8 b0 nb0 eb mb hsa mma mmb qk ek h20 l20 h21 l21; revert w s₀ mg zz0 fa cd ns la xs h1 gh X' T' K' hx L prog dr os E0 hcx zz1 y6 lw vs0 h2 l3 vals hvl hlen D g ys k zz2 ws hyw hwl hwr R x0 x1 q1 n1 Dn hperm hsort zz3 own7 D' ys' k' zz4 t63 t70 ow hs hla h10 tk10 zz5 zz6 o63 o70 D2 C yy k2 hyl e1 oo hda h11 tk11 hyy D3 C2 ys2 k3 zz7 o2 hoff13 hyl2 D4 C3 h tk gg m3 y9 nw hyl9 hG8 hsub9 C0 hCL hCD h16 hy9 hy' as1 ra1 as2 ra2 lj mD mD2 hoo2 mLK how2 hyl3 W1 l18 va vb hvb hva hal hbl hdl hpl W2 lk h22 F22 W3 N22 l22 l23; exact no_implicit_lambda% (@PLift.down _ hq1))
end
theorem reset_LT : True := by w_top off; trivial
section
theorem strOf_map {vs : List Value} {ss : List Str} (h : StrsAre vs ss) : vs.map Mine.strOf = ss := by
  induction h with
  | nil => rfl
  | cons y t _ ih => rw [List.map_cons, ih]; rfl
theorem isStr_all {vs : List Value} {ss : List Str} (h : StrsAre vs ss) : ∀ v ∈ vs, IsStr v := by
  induction h with
  | nil => intro v hv; cases hv
  | cons y t _ ih =>
    intro v hv
    rcases List.mem_cons.mp hv with rfl | hv
    · exact ⟨y, t, rfl⟩
    · exact ih v hv
theorem strs_of_map {vs : List Value} {ss : List Str} (hs : ∀ v ∈ vs, IsStr v) (h : vs.map Mine.strOf = ss) : StrsAre vs ss := by
  induction vs generalizing ss with
  | nil => subst h; exact .nil
  | cons v r ih =>
    obtain ⟨x, t, rfl⟩ := hs v (.head _)
    subst h
    exact .cons x t (ih (fun v hv => hs v (.tail _ hv)) rfl)
theorem uld_all (k : Str) : ∀ (r act mis : List Str), act.Perm (r ++ [k]) → uldP r act mis = (mis, [k])
  | [], act, mis, h => by
    have : act = [k] := List.perm_singleton.mp h
    subst this; rfl
  | y :: r, act, mis, h => by
    have hy : y ∈ act := h.symm.subset (by simp)
    rw [uldP, if_pos hy]
    refine uld_all k r _ mis ?_
    have h2 : (act.erase y).Perm ((y :: r ++ [k]).erase y) := h.erase y
    rw [List.erase_eq_eraseIdx_of_idxOf rfl] at h2
    have h3 : (y :: r ++ [k]).erase y = r ++ [k] := by simp
    rw [h3] at h2
    exact h2
theorem uld_law (ws act : List Str) (j k : Str) (hp : act.Perm ws) (hj : j ∉ ws) (hjk : j ≠ k) : uldP (ws ++ [j]).reverse (act ++ [k]) [] = ([j], [k]) := by
  rw [List.reverse_append]
  show uldP (j :: ws.reverse) (act ++ [k]) [] = _
  have h1 : j ∉ act ++ [k] := by
    intro h
    rcases List.mem_append.mp h with h | h
    · exact hj (hp.subset h)
    · exact hjk (List.mem_singleton.mp h)
  rw [uldP, if_neg h1]
  exact uld_all k _ _ _ ((hp.trans (List.reverse_perm ws).symm).append_right [k])
set_option maxHeartbeats 8000000 in
noncomputable def cutLT : CutOne (cutLS).P1 := by
  apply CutOne.mk
  case f =>
    intro hq1
    intro w s₀ mg mb fa cd ns la xs h1 gh X' T' K' hx L prog dr os E0 hcx y9 y6 lw vs0 h2 l3 vals hvl hlen D g ys k hyl ws hyw hwl hwr R x0 x1 q1 n1 Dn hperm hsort ek own7 D' ys' k' hyl t63 t70 ow hs hla h10 tk10 qk ek o63 o70 D2 C yy k2 hyl e1 oo hda h11 tk11 hyy D3 C2 ys2 k3 hyl2 o2 hoff13 hyl2 D4 C3 h tk gg m3 y9 nw hyl9 hG8 hsub9 C0 hCL hCD h16 hy9 hy' as1 ra1 as2 ra2 lj mD mD2 hoo2 mLK how2 hyl3 W1 l18 va vb hvb hva hal hbl hdl hpl W2 lk h22 F22 W3 N22 l22 l23
    have hX : StrsAre (ys ++ [Value.str "j" tk]) (ws ++ [("j" : Str)]) := StrsAre.append' hyw (.cons _ _ .nil)
    have hY : StrsAre ((va ++ vb) ++ [Value.str "k" (tk + 1 + 1 + 1)]) (((deal Dn).1 ++ (deal Dn).2) ++ [("k" : Str)]) := StrsAre.append' (StrsAre.append' hva hvb) (.cons _ _ .nil)
    refine uld_spec (l1 := W1) (l2 := W3) (xs := ys ++ [Value.str "j" tk]) (ys := (va ++ vb) ++ [Value.str "k" (tk + 1 + 1 + 1)]) (n1 := 0) (n2 := 0) (rest := (63, tabO t63) :: (70, tabO t70) :: o2) F22 X' (newsSub N22 ?_) T' rfl rfl (by simp only [depth_deeper, depth_caller]; decide) (Nat.le_of_ble_eq_true rfl) rfl ?_ ?_ (Nat.ne_of_lt l23) (by simp; omega) (by simp; omega) (isStr_all hX) (isStr_all hY) ?_
    · refine List.forall_mem_cons.mpr ⟨by k_mem, List.forall_mem_cons.mpr ⟨by simp, ?_⟩⟩
      walk_at "my sub"
    · exact fun p hp => Nat.ne_of_lt (l18 p (.tail _ hp))
    · exact fun p hp => Nat.ne_of_lt (l22 p hp)
    intro P l3 h23 tk23 c1 c2 c3 ms yf hms hyf he F23 N23
    rw [strOf_map hX, strOf_map hY, uld_law ws _ "j" "k" ((deal_perm Dn).trans hperm) (fun h => (hwr _ h).2.1 rfl) (by decide +kernel)] at he
    have hm2 := strs_of_map hms (congrArg Prod.fst he)
    have hy2 := strs_of_map hyf (congrArg Prod.snd he)
    clear F22 N22
    dsimp only
    (try k_fold)
    k_steps
    (rename_i zz0 zz1 zz2 zz3 zz4 zz5 zz6 zz7 zz8 zz9 zz10 zz11 zz12 zz13 zz14 zz15 zz16; clear zz1 n1 tk l18 hvb hva hal hbl h22 l22 l23 hX hY h23 hms hyf he zz7 zz8 zz11 zz16; revert w s₀ mg mb fa cd ns la xs h1 gh X' T' K' hx L prog dr os E0 hcx zz0 y6 lw vs0 h2 vals hvl hlen D g ys k zz2 ws hyw hwl hwr R x0 x1 q1 Dn hperm hsort zz3 own7 D' ys' k' zz4 t63 t70 ow hs hla h10 tk10 qk ek o63 o70 D2 C yy k2 hyl e1 oo hda h11 tk11 hyy D3 C2 ys2 k3 zz5 o2 hoff13 hyl2 D4 C3 h gg m3 y9 nw hyl9 hG8 hsub9 C0 hCL hCD h16 hy9 hy' as1 ra1 as2 ra2 lj mD mD2 hoo2 mLK how2 hyl3 W1 va vb hdl hpl W2 lk W3 P l3 tk23 c1 c2 c3 ms yf hm2 hy2 zz6 zz9 zz10 zz12 zz13 zz14 zz15; exact no_implicit_lambda% (@PLift.down _ hq1))
end
theorem reset_LU : True := by w_top off; trivial
section
set_option maxHeartbeats 8000000 in
noncomputable def cutLU : CutOne (cutLT).P1 := by
  apply CutOne.mk
  case f =>
    intro hq1
    intro w s₀ mg mb fa cd ns la xs h1 gh X' T' K' hx L prog dr os E0 hcx y9 y6 lw vs0 h2 vals hvl hlen D g ys k hyl ws hyw hwl hwr R x0 x1 q1 Dn hperm hsort ek own7 D' ys' k' hyl t63 t70 ow hs hla h10 tk10 qk ek o63 o70 D2 C yy k2 hyl e1 oo hda h11 tk11 hyy D3 C2 ys2 k3 hyl2 o2 hoff13 hyl2 D4 C3 h gg m3 y9 nw hyl9 hG8 hsub9 C0 hCL hCD h16 hy9 hy' as1 ra1 as2 ra2 lj mD mD2 hoo2 mLK how2 hyl3 W1 va vb hdl hpl W2 lk W3 P l3 tk23 c1 c2 c3 ms yf hm2 hy2 lj2 lk2 _ D6 h24 F24 N24
    have mP : (P, ({ cls := .type "tuple", dict := none, data := .seq #[.ref l3, .ref W3] 0, slots := #[] } : Obj)) ∈ (P, ({ cls := .type "tuple", dict := none, data := .seq #[.ref l3, .ref W3] 0, slots := #[] } : Obj)) :: (l3, listOf ms.toArray c3) :: (W1, listOf #[] c1) :: (W3, listOf yf.toArray c2) :: (63, tabO t63) :: (70, tabO t70) :: o2 := .head _
    have r1 : Reads h24 (.ref P) (.tuple [.list [.str "j"], .list [.str "k"]]) _ := reads_tuple_at (vs := #[.ref l3, .ref W3]) (N24 (P, _) (by k_mem)).1 rfl rfl (.cons (reads_list_at (vs := ms.toArray) (N24 (l3, listOf ms.toArray c3) (by k_mem)).1 rfl rfl (by simpa using hm2.reads h24)) (.cons (reads_list_at (vs := yf.toArray) (N24 (W3, listOf yf.toArray c2) (by k_mem)).1 rfl rfl (by simpa using hy2.reads h24)) .nil))
    have r2 : Reads h24 (.ref D6) (.tuple [.list [.str "j"], .list [.str "k"]]) _ := reads_tuple_at (vs := #[.ref lj2, .ref lk2]) (N24 (D6, _) (by k_mem)).1 rfl rfl (.cons (reads_list_at (vs := #[_]) (N24 (lj2, listOf #[_] 0) (by k_mem)).1 rfl rfl (.cons (.str _ _) .nil)) (.cons (reads_list_at (vs := #[_]) (N24 (lk2, listOf #[_] 0) (by k_mem)).1 rfl rfl (.cons (.str _ _) .nil)) .nil))
    refine ne_same r1 r2 (by decide +kernel) (Nat.le_of_ble_eq_true rfl) ?_
    have N25 : News gh L h24 ((63, tabO t63) :: (70, tabO t70) :: o2) := newsSub N24 (by walk_at "my sub")
    clear N24 r1 r2 mP
    (try dsimp only); (try k_fold)
    k_steps
    (rename_i zz0 zz1 zz2 zz3 zz4 zz5; clear tk23 c1 c2 c3 ms yf hm2 hy2 zz5; revert w s₀ mg mb fa cd ns la xs h1 gh X' T' K' hx L prog dr os E0 hcx zz0 y6 lw vs0 h2 vals hvl hlen D g ys k zz1 ws hyw hwl hwr R x0 x1 q1 Dn hperm hsort zz2 own7 D' ys' k' zz3 t63 t70 ow hs hla h10 tk10 qk ek o63 o70 D2 C yy k2 hyl e1 oo hda h11 tk11 hyy D3 C2 ys2 k3 zz4 o2 hoff13 hyl2 D4 C3 h gg m3 y9 nw hyl9 hG8 hsub9 C0 hCL hCD h16 hy9 hy' as1 ra1 as2 ra2 lj mD mD2 hoo2 mLK how2 hyl3 W1 va vb hdl hpl W2 lk W3 P l3 lj2 lk2 D6 h24 F24 N25 tk; exact no_implicit_lambda% (@PLift.down _ hq1))
end
theorem reset_LV : True := by w_top off; trivial
section
theorem foldDeal_ne (D : List Str) : ∀ st : List Str × List Str, st.1 ≠ [] → st.2 ≠ [] → (D.foldl dealStep st).1 ≠ [] ∧ (D.foldl dealStep st).2 ≠ [] := by
  induction D with
  | nil => exact fun st a b => ⟨a, b⟩
  | cons w D ih =>
    intro st a b
    rw [List.foldl_cons]
    apply ih
    · unfold dealStep; split
      · simp
      · exact a
    · unfold dealStep; split
      · exact b
      · simp
theorem deal_ne (D : List Str) (h : 2 ≤ D.length) : (deal D).1 ≠ [] ∧ (deal D).2 ≠ [] := by
  match D, h with
  | x :: y :: D, _ =>
    unfold deal
    have e : List.foldl dealStep ([], []) (x :: y :: D) = List.foldl dealStep ([x], [y]) D := by
      rw [List.foldl_cons, List.foldl_cons]
      congr 1
    rw [e]
    exact foldDeal_ne D _ (by simp) (by simp)
def CoupAt (own : List (Addr × Obj)) (ys : List Value) (ps : List (Int × Int)) (xa xb : Nat → Value) : Prop :=
  ps.length = ys.length ∧ ∀ j, j < ys.length → (∃ t u, xa j = .int (ps.getD j (0, 0)).1 t ∧ xb j = .int (ps.getD j (0, 0)).2 u) ∧ ∃ a n, ys[j]? = some (.ref a) ∧ (a, listOf #[xa j, xb j] n) ∈ own
theorem CoupAt.snoc {own own' : List (Addr × Obj)} {ys : List Value} {ps : List (Int × Int)} {xa xb : Nat → Value} {a : Addr} {n : Nat} {x y : Int} {t u : Tok} (H : CoupAt own ys ps xa xb) (hs : ∀ p ∈ own, p ∈ own') (hm : (a, listOf #[.int x t, .int y u] n) ∈ own') :
    CoupAt own' (ys ++ [.ref a]) (ps ++ [(x, y)]) (fun j => if j = ys.length then .int x t else xa j) (fun j => if j = ys.length then .int y u else xb j) := by
  refine ⟨by simp [H.1], fun j hj => ?_⟩
  dsimp only
  rw [List.length_append, List.length_singleton] at hj
  by_cases e : j = ys.length
  · subst e
    rw [if_pos rfl, if_pos rfl]
    refine ⟨⟨t, u, ?_, ?_⟩, a, n, by simp, hm⟩
    · rw [← H.1]; simp
    · rw [← H.1]; simp
  · rw [if_neg e, if_neg e]
    obtain ⟨q1, a', n', q2, q3⟩ := H.2 j (by omega)
    refine ⟨?_, a', n', by rw [List.getElem?_append_left (by omega)]; exact q2, hs _ q3⟩
    have : (ps ++ [(x, y)]).getD j (0, 0) = ps.getD j (0, 0) := by
      rw [List.getD_eq_getElem?_getD, List.getD_eq_getElem?_getD, List.getElem?_append_left (by rw [H.1]; omega)]
    rw [this]; exact q1
def CoupJ (g0 : List (Addr × Obj)) (G : Array GenState) (t63 t70 : Array Value) (i j : Nat) (ys : List Value) (g : Array GenState) (nw : List (Addr × Obj)) : Prop :=
  g = G ∧ i ≤ 2 ∧ j ≤ 10 ∧ ys.length ≤ 10 * i + j ∧ ∃ own ps xa xb, (∀ p ∈ (63, tabO t63) :: (70, tabO t70) :: own, p ∈ nw) ∧ (∀ p ∈ g0, p ∈ own) ∧ (∀ p ∈ own, p.1 ≠ 63 ∧ p.1 ≠ 70) ∧ CoupAt own ys ps xa xb ∧ ∀ p ∈ ps, 0 ≤ p.2 ∧ p.2 ≤ p.1 ∧ p.1 < 100
set_option maxHeartbeats 8000000 in
noncomputable def cutLV : CutThree (cutLU).P1 := by
  apply CutThree.mk
  case f =>
    intro hq1 hq2 hq3
    intro w s₀ mg mb fa cd ns la xs h1 gh X' T' K' hx L prog dr os E0 hcx y9 y6 lw vs0 h2 vals hvl hlen D g ys k hyl ws hyw hwl hwr R x0 x1 q1 Dn hperm hsort ek own7 D' ys' k' hyl t63 t70 ow hs hla h10 tk10 qk ek o63 o70 D2 C yy k2 hyl e1 oo hda h11 tk11 hyy D3 C2 ys2 k3 hyl2 o2 hoff13 hyl2 D4 C3 h gg m3 y9 nw hyl9 hG8 hsub9 C0 hCL hCD h16 hy9 hy' as1 ra1 as2 ra2 lj mD mD2 hoo2 mLK how2 hyl3 W1 va vb hdl hpl W2 lk W3 P l3 lj2 lk2 D6 h24 F24 N25 tk
    obtain ⟨hna, hnb⟩ := deal_ne Dn (by omega)
    have hna := List.length_pos_iff.mpr hna
    have hnb := List.length_pos_iff.mpr hnb
    (try dsimp only)
    (try k_fold)
    unfold Halt
    refine Assign_ListComp_G2 (cl := []) (by with_unfolding_all rfl) (by with_unfolding_all rfl) (by rfl) (by decide) ?_ (by with_unfolding_all exact fun _ => rfl)
    k_steps
    refine comp_nest (l := D2) (its := yy.toArray) (fun i => ([(deal Dn).1, (deal Dn).2].getD i []).length - 1) (CoupJ o2 gg t63 t70) hcx F24 N25 ⟨rfl, by decide, by decide, by decide, o2, [], fun _ => .none, fun _ => .none, fun p hp => hp, fun p hp => hp, by assumption, ⟨rfl, fun j hj => absurd hj (by simp)⟩, by simp⟩ ?_ ?_ ?_ ?_ ?_ (by decide) rfl (by decide) (by decide) (by decide) ?_ ?_ ?_
    · rintro i j ys g nw ⟨_, h1, h2, h3, _⟩
      omega
    · rintro i j ys g nw ⟨_, _, _, _, o3, ps, xa, xb, hsn, hs, _⟩
      exact ⟨k2, hsn _ (.tail _ (.tail _ (hs _ mD2)))⟩
    · rintro i ys g nw hi ⟨e1, e2, e3, e4, o3, ps, xa, xb, hsn, hs, q1, q2, q3⟩
      have hi2 : i < 2 := by simp at hi; omega
      exact ⟨e1, by omega, by omega, by omega, o3, ps, xa, xb, hsn, hs, q1, q2, q3⟩
    · intro i hi
      have hi2 : i < 2 := by simp at hi; omega
      match i, hi2 with
      | 0, _ => show (deal Dn).1.length - 1 < 900; omega
      | 1, _ => show (deal Dn).2.length - 1 < 900; omega
    · with_unfolding_all exact fun _ _ => rfl
    · rintro I i ys v g nw C oC D oI m₂ h tk k E' hi hv ⟨rfl, e2, e3, e4, o3, ps, xa, xb, hsn, hs, q1, q2, q3⟩ nC hxv F26 N26
      (rename_i zz0 zz1 zz2 zz3 zz4 zz5 zz6 zz7 zz8 zz9 zz10 zz11 zz12 zz13 zz14 zz15 zz16; clear xs h1 hx E0 hcx h2 zz2 zz4 zz5 hyw hwr zz6 hperm hsort zz7 own7 k' zz8 ow zz9 hla h10 tk10 qk ek o63 o70 zz10 k2 hyl e1 h11 tk11 C2 k3 zz11 hoff13 hyl2 D4 C3 zz12 m3 zz13 hyl9 hsub9 C0 hCL hCD h16 hy9 as1 ra1 as2 ra2 mD mD2 mLK how2 hyl3 F24 N25 zz15 zz16 hG8 e3 ps xa xb q1 q2 q3; revert w s₀ mg mb fa cd ns la gh X' T' K' L prog dr os zz0 y6 lw vs0 vals hvl hlen zz1 zz3 ws hwl R x0 x1 Dn D' ys' t63 t70 D2 yy oo hda hyy D3 ys2 o2 y9 hy' lj hoo2 W1 va vb hdl hpl W2 lk W3 P l3 lj2 lk2 D6 h24 zz14 hna hnb I i ys v g nw C oC D oI m₂ h tk k E' hi hv e2 e4 o3 hsn hs nC hxv F26 N26; exact no_implicit_lambda% (@PLift.down _ hq1))
    · rintro I I1 i j ys v tv g nw C oC D oI oI1 m₂ h tk k E' hi hj hv ⟨rfl, e2, e3, e4, o3, ps, xa, xb, hsn, hs, q1, q2, q3⟩ nC hxv hyv F26 N26
      (rename_i zz0 zz1 zz2 zz3 zz4 zz5 zz6 zz7 zz8 zz9 zz10 zz11 zz12 zz13 zz14 zz15 zz16; clear h1 E0 hcx h2 zz2 zz4 zz5 hyw zz6 zz7 own7 k' zz8 ow zz9 hla h10 tk10 qk ek zz10 k2 hyl e1 h11 tk11 C2 k3 zz11 hoff13 hyl2 D4 C3 zz12 m3 zz13 hyl9 hsub9 C0 hCL hCD h16 hy9 as1 ra1 as2 ra2 mD mD2 mLK how2 hyl3 F24 N25 zz15 zz16 hG8; revert w s₀ mg mb fa cd ns la xs gh X' T' K' hx L prog dr os zz0 y6 lw vs0 vals hvl hlen zz1 zz3 ws hwl hwr R x0 x1 Dn hperm hsort D' ys' t63 t70 o63 o70 D2 yy oo hda hyy D3 ys2 o2 y9 hy' lj hoo2 W1 va vb hdl hpl W2 lk W3 P l3 lj2 lk2 D6 h24 zz14 hna hnb I I1 i j ys v tv g nw C oC D oI oI1 m₂ h tk k E' hi hj hv e2 e3 e4 o3 ps xa xb hsn hs q1 q2 q3 nC hxv hyv F26 N26; exact no_implicit_lambda% (@PLift.down _ hq2))
    · rintro D C h tk g m3 ys nw k ⟨rfl, e2, e3, e4, o3, ps, xa, xb, hsn, hs, q1, q2, q3⟩ F26 N26 off26 hn C0 hCL hCD
      refine post_A2 F26 N26 off26 hn C0 hCL hCD (fun h27 tk27 F27 N27 => ?_) (by rfl) (by rfl) (by rfl)
      (rename_i zz0 zz1 zz2 zz3 zz4 zz5 zz6 zz7 zz8 zz9 zz10 zz11 zz12 zz13 zz14 zz15 zz16 zz17 zz18 zz19 zz20; clear h1 h2 hvl zz2 zz6 own7 zz9 o63 o70 zz10 k2 oo hda hoff13 D4 zz12 zz13 zz15 zz16 zz17 mD2 hoo2 hdl F24 N25 zz19 zz20 hna hnb e3 q1 F26 N26 off26; revert w s₀ mg mb fa cd ns la xs gh X' T' K' hx L prog dr os E0 hcx zz0 y6 lw vs0 vals hlen zz1 zz3 zz4 zz5 ws hyw hwl hwr R x0 x1 Dn hperm hsort zz7 D' ys' k' zz8 t63 t70 ow hla h10 tk10 qk ek D2 yy hyl e1 h11 tk11 hyy D3 C2 ys2 k3 zz11 o2 hyl2 C3 y9 zz14 hyl9 hsub9 h16 hy9 hy' as1 ra1 as2 ra2 lj mD mLK how2 hyl3 W1 va vb hpl W2 lk W3 P l3 lj2 lk2 D6 h24 zz18 D C h tk g m3 ys nw k hG8 e2 e4 o3 ps xa xb hsn hs q2 q3 hn C0 hCL hCD h27 tk27 F27 N27; exact no_implicit_lambda% (@PLift.down _ hq3))
end
theorem reset_LW : True := by w_top off; trivial
section
set_option maxHeartbeats 8000000 in
theorem done_GL18 : (cutLV).P1 := by
  intro w s₀ mg mb fa cd ns la gh X' T' K' L prog dr os y9 y6 lw vs0 vals hvl hlen D ys ws hwl R x0 x1 Dn D' ys' t63 t70 D2 yy oo hda hyy D3 ys2 o2 y9 hy' lj hoo2 W1 va vb hdl hpl W2 lk W3 P l3 lj2 lk2 D6 h24 tk hna hnb I i ys v g nw C oC D oI m₂ h tk k E' hi hv e2 e4 o3 hsn hs nC hxv F26 N26
  have hi2 : i < 2 := by simp at hi; omega
  obtain ⟨a, na, vs, hya, hma2, hvs⟩ := hda i (by omega)
  have hy' : v = .ref a := by
    have : yy[i]? = some v := by simpa using hv
    rw [hya] at this
    exact (Option.some.inj this).symm
  subst hy'
  have hma3 : (a, listOf vs.toArray na) ∈ nw := hsn _ (.tail _ (.tail _ (hs _ (hoo2 _ hma2))))
  have hvl := hvs.length
  have hrl : 1 ≤ ([(deal Dn).1, (deal Dn).2].getD i []).length ∧ ([(deal Dn).1, (deal Dn).2].getD i []).length ≤ 10 := by
    match i, hi2 with
    | 0, _ => exact ⟨hna, (by omega : (deal Dn).1.length ≤ 10)⟩
    | 1, _ => exact ⟨hnb, (by omega : (deal Dn).2.length ≤ 10)⟩
  obtain ⟨rr, hrr⟩ : ∃ rr, rr = [(deal Dn).1, (deal Dn).2].getD i [] := ⟨_, rfl⟩
  rw [← hrr] at hvs hrl hvl
  refine hidQ ?_
  (try dsimp only); (try k_fold)
  k_steps
  rename_i hR hF hN hx9
  show HidQ _ _ _
  unfold HidQ
  have hz : (vs.length : Int) = 1 + ((([(deal Dn).1, (deal Dn).2].getD i []).length - 1 : Nat) : Int) := by rw [← hrr]; omega
  rw [hz] at hR
  exact ⟨_, _, _, _, _, _, rfl, rfl, hF, newsSub hN (by walk_at "my sub"), hR⟩
set_option maxHeartbeats 8000000 in
theorem done_GL19 : (cutLV).P2 := by
  intro w s₀ mg mb fa cd ns la xs gh X' T' K' hx L prog dr os y9 y6 lw vs0 vals hvl hlen D ys ws hwl hwr R x0 x1 Dn hperm hsort D' ys' t63 t70 o63 o70 D2 yy oo hda hyy D3 ys2 o2 y9 hy' lj hoo2 W1 va vb hdl hpl W2 lk W3 P l3 lj2 lk2 D6 h24 tk hna hnb I I1 i j ys v tv g nw C oC D oI oI1 m₂ h tk k E' hi hj hv e2 e3 e4 o3 ps xa xb hsn hs q1 q2 q3 nC hxv hyv F26 N26
  have hi2 : i < 2 := by simp at hi; omega
  obtain ⟨a, na, vs, hya, hma2, hvs⟩ := hda i (by omega)
  have hy' : v = .ref a := by
    have : yy[i]? = some v := by simpa using hv
    rw [hya] at this
    exact (Option.some.inj this).symm
  subst hy'
  have hma3 : (a, listOf vs.toArray na) ∈ nw := hsn _ (.tail _ (.tail _ (hs _ (hoo2 _ hma2))))
  have hvl := hvs.length
  have hrl : 1 ≤ ([(deal Dn).1, (deal Dn).2].getD i []).length ∧ ([(deal Dn).1, (deal Dn).2].getD i []).length ≤ 10 := by
    match i, hi2 with
    | 0, _ => exact ⟨hna, (by omega : (deal Dn).1.length ≤ 10)⟩
    | 1, _ => exact ⟨hnb, (by omega : (deal Dn).2.length ≤ 10)⟩
  have hsr : ([(deal Dn).1, (deal Dn).2].getD i []).Pairwise fun a b => b.length ≤ a.length := by
    match i, hi2 with
    | 0, _ => exact (deal_sorted Dn hsort).1
    | 1, _ => exact (deal_sorted Dn hsort).2
  have hrrD : ∀ x ∈ [(deal Dn).1, (deal Dn).2].getD i [], x ∈ Dn := by
    match i, hi2 with
    | 0, _ => exact fun x hx => (deal_perm Dn).subset (List.mem_append_left _ hx)
    | 1, _ => exact fun x hx => (deal_perm Dn).subset (List.mem_append_right _ hx)
  obtain ⟨rr, hrr⟩ : ∃ rr, rr = [(deal Dn).1, (deal Dn).2].getD i [] := ⟨_, rfl⟩
  rw [← hrr] at hvs hrl hvl hsr hrrD hj
  have hj1 : j + 1 < vs.length := by omega
  obtain ⟨tx, utx, ex, htx⟩ := hvs.item j vs[j] (by simp)
  obtain ⟨ty, uty, ey, hty⟩ := hvs.item (j + 1) vs[j + 1] (by simp)
  have bx : tx.length ≤ 9 := (hwr tx (hperm.subset (hrrD tx (List.mem_of_getElem? htx)))).1.2
  have bxy : ty.length ≤ tx.length := by
    obtain ⟨p1, p2⟩ := List.getElem?_eq_some_iff.mp htx
    obtain ⟨p3, p4⟩ := List.getElem?_eq_some_iff.mp hty
    rw [← p2, ← p4]
    exact List.pairwise_iff_getElem.mp hsr j (j + 1) p1 p3 (by omega)
  refine hidQ ?_
  (try dsimp only); (try k_fold)
  k_steps
  unfold Halt
  refine subV N26 (l := a) (its := vs.toArray) (by k_mem) (by omega) (by omega) (v := .str tx utx) (by rw [show (1 + (j : Int) - 1).toNat = j by omega, ← ex]; simp) ?_
  (try dsimp only); (try k_fold)
  k_steps
  unfold Halt
  refine subV N26 (l := a) (its := vs.toArray) (by k_mem) (by omega) (by omega) (v := .str ty uty) (by rw [show (1 + (j : Int)).toNat = j + 1 by omega, ← ey]; simp) ?_
  (try dsimp only); (try k_fold)
  k_steps
  rename_i l9 h9 F9 N9 lt9
  show HidQ _ _ _
  unfold HidQ
  obtain ⟨b1, b2, b3, b5, b4⟩ := lt9
  have lt9 : ∀ p ∈ nw, p.1 < l9 := allLt_mem b4
  refine ⟨h9, _, _, _, l9, rfl, F9, N9, List.forall_mem_cons.mpr ⟨b1, List.forall_mem_cons.mpr ⟨b2, List.forall_mem_cons.mpr ⟨b3, List.forall_mem_cons.mpr ⟨b5, allLt_mem b4⟩⟩⟩⟩, ?_⟩
  have o63 := lt9 _ (hsn (63, tabO t63) (.head _))
  have o70 := lt9 _ (hsn (70, tabO t70) (.tail _ (.head _)))
  have q4 := q2.snoc (own' := (l9, listOf #[.int (tx.length : Int) (tk + 1 + 1 + 1), .int (ty.length : Int) (tk + 1 + 1 + 1 + 1 + 1)] 0) :: o3) (fun p hp => .tail _ hp) (.head _)
  refine ⟨rfl, by omega, by omega, by simp; omega, _, _, _, _, ?_, fun p hp => .tail _ (hs p hp), List.forall_mem_cons.mpr ⟨⟨Nat.ne_of_gt o63, Nat.ne_of_gt o70⟩, q1⟩, q4, ?_⟩
  · intro p hp
    rcases List.mem_cons.mp hp with rfl | hp
    · exact .tail _ (hsn _ (.head _))
    rcases List.mem_cons.mp hp with rfl | hp
    · exact .tail _ (hsn _ (.tail _ (.head _)))
    rcases List.mem_cons.mp hp with rfl | hp
    · exact .head _
    · exact .tail _ (hsn _ (.tail _ (.tail _ hp)))
  · intro p hp
    rcases List.mem_append.mp hp with hp | hp
    · exact q3 p hp
    · obtain rfl := List.mem_singleton.mp hp
      dsimp only
      omega
end
theorem reset_LX : True := by w_top off; trivial
section
def cmpP (p : Int × Int) : Int × Int := (cmp3 p.1 p.2, cmp3 p.2 p.1)
def CmpAt (own : List (Addr × Obj)) (ys : List Value) (ps : List (Int × Int)) : Prop :=
  ∀ j, j < ys.length → ∃ a t u n, ys[j]? = some (.ref a) ∧ (a, listOf #[.int (cmpP (ps.getD j (0, 0))).1 t, .int (cmpP (ps.getD j (0, 0))).2 u] n) ∈ own
theorem CmpAt.snoc {own own' : List (Addr × Obj)} {ys : List Value} {ps : List (Int × Int)} {i : Nat} {a : Addr} {n : Nat} {t u : Tok} (H : CmpAt own ys ps) (hl : ys.length = i) (hs : ∀ p ∈ own, p ∈ own')
    (hm : (a, listOf #[.int (cmpP (ps.getD i (0, 0))).1 t, .int (cmpP (ps.getD i (0, 0))).2 u] n) ∈ own') : CmpAt own' (ys ++ [.ref a]) ps := fun j hj => by
  rw [List.length_append, List.length_singleton] at hj
  by_cases e : j = ys.length
  · subst e
    rw [← hl] at hm
    exact ⟨a, t, u, n, by simp, hm⟩
  · obtain ⟨a', t', u', n', q1, q2⟩ := H j (by omega)
    exact ⟨a', t', u', n', by rw [List.getElem?_append_left (by omega)]; exact q1, hs _ q2⟩
set_option maxHeartbeats 8000000 in
noncomputable def cutLX : CutTwo (cutLV).P3 := by
  apply CutTwo.mk
  case f =>
    intro hq1 hq2
    intro w s₀ mg mb fa cd ns la xs gh X' T' K' hx L prog dr os E0 hcx y9 y6 lw vs0 vals hlen D ys k hyl ws hyw hwl hwr R x0 x1 Dn hperm hsort ek D' ys' k' hyl t63 t70 ow hla h10 tk10 qk ek D2 yy hyl e1 h11 tk11 hyy D3 C2 ys2 k3 hyl2 o2 hyl2 C3 y9 nw hyl9 hsub9 h16 hy9 hy' as1 ra1 as2 ra2 lj mD mLK how2 hyl3 W1 va vb hpl W2 lk W3 P l3 lj2 lk2 D6 h24 tk D C h tk g m3 ys nw k hG8 e2 e4 o3 ps xa xb hsn hs q2 q3 hn C0 hCL hCD h27 tk27 F27 N27
    have N28 : News gh L h27 ((D, listOf ys.toArray k) :: (63, tabO t63) :: (70, tabO t70) :: o3) := newsSub N27 (List.forall_mem_cons.mpr ⟨.head _, fun p hp => .tail _ (hsn p hp)⟩)
    clear N27
    (try dsimp only); (try k_fold)
    k_steps
    unfold Halt
    refine ListComp_G (cl := []) (by with_unfolding_all rfl) (by rfl) (by decide) ?_ (by with_unfolding_all exact fun _ => rfl)
    k_steps
    have hpl : ys.length ≤ 20 := by omega
    refine comp_pair (l := D) (its := ys.toArray) (J := fun i y9 gg nw => gg = g ∧ (∀ p ∈ (D, listOf ys.toArray k) :: (63, tabO t63) :: (70, tabO t70) :: o3, p ∈ nw) ∧ CmpAt nw y9 ps)
      xa xb hcx F27 N28 ⟨rfl, fun p hp => hp, fun j hj => absurd hj (by simp)⟩ (by simp; omega) (fun i y9 gg nw hj => ⟨k, hj.2.1 _ (.head _)⟩) (by decide) rfl (by decide) (by decide) (by decide) ?_ ?_ ?_
    · rintro i y9 gg nw v hi hv ⟨rfl, hsub, _⟩
      have hi2 : i < ys.length := by simpa using hi
      obtain ⟨_, a, n, e1, e2⟩ := q2.2 i hi2
      have : ys[i]? = some v := by simpa using hv
      rw [e1] at this
      exact ⟨a, (Option.some.inj this).symm, .inr ⟨n, hsub _ (.tail _ (.tail _ (.tail _ e2)))⟩⟩
    · rintro I i y9 gg nw C2 oC D3 oI m₂ h tk k9 E' hi hyl9 ⟨rfl, hsub9, hcm⟩ nC hma hmb F28 N29 off9 ne9
      (rename_i zz0 zz1 zz2 zz3 zz4 zz5 zz6 zz7 zz8 zz9 zz10 zz11 zz12 zz13 zz14 zz15 zz16 zz17 zz18; clear xs hx E0 hcx hlen zz3 zz4 hyw hwl hwr hperm hsort zz5 k' zz6 ow hla qk ek hyl hyy zz8 k3 zz9 o2 hyl2 C3 zz11 zz12 zz13 h16 hy9 hy' as1 ra1 as2 ra2 mD mLK how2 hyl3 zz14 h24 zz15 C zz16 zz17 m3 zz18 e4 hsn hs q3 hn C0 hCL hCD F27 N28 hpl hG8 ne9; revert w s₀ mg mb fa cd ns la gh X' T' K' L prog dr os zz0 y6 lw vs0 vals zz1 zz2 ws R x0 x1 Dn D' ys' t63 t70 h10 tk10 D2 yy e1 h11 tk11 zz7 ys2 zz10 lj W1 va vb W2 lk W3 P l3 lj2 lk2 D6 D ys k e2 o3 ps xa xb q2 h27 tk27 I i y9 gg nw C2 oC D3 oI m₂ h tk k9 E' hi hyl9 hsub9 hcm nC hma hmb F28 N29 off9; exact no_implicit_lambda% (@PLift.down _ hq1))
    · rintro D3 C3 h tk gg m3 y9 nw k9 hyl9 ⟨rfl, hsub9, hcm⟩ F28 N29 off29 hn C0 hCL hCD
      refine post_E F28 N29 off29 hn C0 hCL hCD fun h30 F30 N30 => ?_
      (rename_i zz0 zz1 zz2 zz3 zz4 zz5 zz6 zz7 zz8 zz9 zz10 zz11 zz12 zz13 zz14 zz15 zz16 zz17 zz18 zz19 zz20 zz21 zz22 zz23; clear h11 tk11 C2 k3 zz9 zz11 zz12 zz13 h24 zz15 zz16 zz17 zz18 zz19 hsn zz20 zz21 zz22 zz23 F27 N28 hpl F28 N29 off29; revert w s₀ mg mb fa cd ns la xs gh X' T' K' hx L prog dr os E0 hcx zz0 y6 lw vs0 vals hlen zz1 zz2 zz3 zz4 ws hyw hwl hwr R x0 x1 Dn hperm hsort zz5 D' ys' k' zz6 t63 t70 ow hla h10 tk10 qk ek D2 yy hyl e1 hyy zz7 ys2 zz8 o2 hyl2 zz10 h16 hy9 hy' as1 ra1 as2 ra2 lj mD mLK how2 hyl3 W1 va vb zz14 W2 lk W3 P l3 lj2 lk2 D6 D C ys k e2 e4 o3 ps xa xb hs q2 q3 h27 tk27 D3 C3 h tk gg m3 y9 nw k9 hyl9 hG8 hsub9 hcm hn C0 hCL hCD h30 F30 N30; exact no_implicit_lambda% (@PLift.down _ hq2))
end
theorem reset_LZ : True := by w_top off; trivial
section
set_option maxHeartbeats 8000000 in
noncomputable def cutLZ : CutTwo (cutLX).P2 := by
  apply CutTwo.mk
  case f =>
    intro hq1 hq2
    intro w s₀ mg mb fa cd ns la xs gh X' T' K' hx L prog dr os E0 hcx y9 y6 lw vs0 vals hlen D ys k hyl ws hyw hwl hwr R x0 x1 Dn hperm hsort ek D' ys' k' hyl t63 t70 ow hla h10 tk10 qk ek D2 yy hyl e1 hyy D3 ys2 hyl2 o2 hyl2 y9 h16 hy9 hy' as1 ra1 as2 ra2 lj mD mLK how2 hyl3 W1 va vb hpl W2 lk W3 P l3 lj2 lk2 D6 D C ys k e2 e4 o3 ps xa xb hs q2 q3 h27 tk27 D3 C3 h tk gg m3 y9 nw k9 hyl9 hG8 hsub9 hcm hn C0 hCL hCD h30 F30 N30
    (try dsimp only); (try k_fold)
    have N31 : News gh L h30 ((D, listOf ys.toArray k) :: (D3, listOf y9.toArray k9) :: (63, tabO t63) :: (70, tabO t70) :: nw) := newsSub N30 (List.forall_mem_cons.mpr ⟨.tail _ (hsub9 _ (.head _)), List.forall_mem_cons.mpr ⟨.head _, List.forall_mem_cons.mpr ⟨.tail _ (hsub9 _ (.tail _ (.head _))), List.forall_mem_cons.mpr ⟨.tail _ (hsub9 _ (.tail _ (.tail _ (.head _)))), fun p hp => .tail _ hp⟩⟩⟩⟩)
    clear N30
    k_steps
    unfold Halt
    refine ListComp_G (cl := []) (by with_unfolding_all rfl) (by rfl) (by decide) ?_ (by with_unfolding_all exact fun _ => rfl)
    k_steps
    refine comp_pair (l := D) (its := ys.toArray) (J := fun i yb g2 n2 => g2 = gg ∧ (∀ p ∈ (D, listOf ys.toArray k) :: (D3, listOf y9.toArray k9) :: (63, tabO t63) :: (70, tabO t70) :: nw, p ∈ n2) ∧ CmpAt n2 yb ps)
      xa xb hcx F30 N31 ⟨rfl, fun p hp => hp, fun j hj => absurd hj (by simp)⟩ (by simp; omega) (fun i yb g2 n2 hj => ⟨k, hj.2.1 _ (.head _)⟩) (by decide) rfl (by decide) (by decide) (by decide) ?_ ?_ ?_
    · rintro i yb g2 n2 v hi hv ⟨rfl, hsub, _⟩
      have hi2 : i < ys.length := by simpa using hi
      obtain ⟨_, a, n, e1, e2⟩ := q2.2 i hi2
      have : ys[i]? = some v := by simpa using hv
      rw [e1] at this
      exact ⟨a, (Option.some.inj this).symm, .inr ⟨n, hsub _ (.tail _ (.tail _ (.tail _ (.tail _ (hsub9 _ (.tail _ (.tail _ (.tail _ e2))))))))⟩⟩
    · rintro I i yb g2 n2 C5 oC D5 oI m₂ h tk k5 E' hi hylb ⟨rfl, hsub, hcm2⟩ nC hma hmb F32 N32 off32 ne32
      (rename_i zz0 zz1 zz2 zz3 zz4 zz5 zz6 zz7 zz8 zz9 zz10 zz11 zz12 zz13; clear xs hx E0 hcx hlen zz3 zz4 hyw hwl hwr hperm hsort zz5 k' zz6 ow hla h10 tk10 zz7 zz8 hyl hyy zz10 o2 hyl2 h16 hy9 hy' as1 ra1 as2 ra2 mD mLK how2 hyl3 hpl C e4 hs h27 tk27 C3 zz12 m3 hyl9 hsub9 hcm hn C0 hCL hCD F30 qk ek N31 hG8 ne32; revert w s₀ mg mb fa cd ns la gh X' T' K' L prog dr os zz0 y6 lw vs0 vals zz1 zz2 ws R x0 x1 Dn D' ys' t63 t70 D2 yy e1 zz9 ys2 zz11 lj W1 va vb W2 lk W3 P l3 lj2 lk2 D6 D ys k e2 o3 ps xa xb q2 q3 D3 zz13 y9 nw k9 h30 I i yb g2 n2 C5 oC D5 oI m₂ h tk k5 E' hi hylb hsub hcm2 nC hma hmb F32 N32 off32; exact no_implicit_lambda% (@PLift.down _ hq1))
    · rintro D5 C5 h tk g2 m5 yb n2 k5 hylb ⟨rfl, hsub, hcm2⟩ F32 N32 off32 hn C0 hCL hCD
      refine post_E F32 N32 off32 hn C0 hCL hCD fun h33 F33 N33 => ?_
      (rename_i zz0 zz1 zz2 zz3 zz4 zz5 zz6 zz7 zz8 zz9 zz10 zz11 zz12 zz13 zz14 zz15 zz16 zz17; clear zz5 e1 zz10 hyl2 e2 e4 q3 h27 tk27 zz15 zz16 zz17 F30 N31 h F32 N32 off32 hn; revert w s₀ mg mb fa cd ns la xs gh X' T' K' hx L prog dr os E0 hcx zz0 y6 lw vs0 vals hlen zz1 zz2 zz3 zz4 ws hyw hwl hwr R x0 x1 Dn hperm hsort D' ys' k' zz6 t63 t70 ow hla h10 tk10 zz7 zz8 D2 yy hyl hyy zz9 ys2 o2 zz11 h16 hy9 hy' as1 ra1 as2 ra2 lj mD mLK how2 hyl3 W1 va vb hpl W2 lk W3 P l3 lj2 lk2 D6 D C ys k o3 ps xa xb hs q2 D3 C3 zz12 zz13 m3 y9 nw k9 hyl9 hsub9 hcm zz14 h30 qk ek D5 C5 tk g2 m5 yb n2 k5 hylb hG8 hsub hcm2 C0 hCL hCD h33 F33 N33; exact no_implicit_lambda% (@PLift.down _ hq2))
end
theorem reset_MA : True := by w_top off; trivial
section
set_option maxHeartbeats 8000000 in
theorem done_GL25 : (cutLZ).P1 := by
  intro w s₀ mg mb fa cd ns la gh X' T' K' L prog dr os y9 y6 lw vs0 vals D ys ws R x0 x1 Dn D' ys' t63 t70 D2 yy e1 D3 ys2 y9 lj W1 va vb W2 lk W3 P l3 lj2 lk2 D6 D ys k e2 o3 ps xa xb q2 q3 D3 tk y9 nw k9 h30 I i yb g2 n2 C5 oC D5 oI m₂ h tk k5 E' hi hylb hsub hcm2 nC hma hmb F32 N32 off32
  have hi2 : i < ys.length := by simpa using hi
  obtain ⟨⟨t1, u1, e1, e2⟩, _⟩ := q2.2 i hi2
  obtain ⟨c, hc⟩ : ∃ c, c = ps.getD i (0, 0) := ⟨_, rfl⟩
  have hcb : 0 ≤ c.2 ∧ c.2 ≤ c.1 ∧ c.1 < 100 := by
    refine q3 c ?_
    rw [hc, List.getD_eq_getElem?_getD, List.getElem?_eq_getElem (by rw [q2.1]; exact hi2)]
    exact List.getElem_mem _
  rw [← hc] at e1 e2
  rw [e1] at hma
  rw [e2] at hmb
  refine hidQ ?_
  (try dsimp only); (try k_fold)
  k_steps
  · rename_i hab l12 h12 F12 N12 lt12
    show HidQ _ _ _
    unfold HidQ
    obtain ⟨b1, b2, b3, b4⟩ := lt12
    have lt := allLt_mem b4
    have e5 : cmpP c = (0, 0) := by unfold cmpP cmp3 b2i; rw [hab]; simp
    exact ⟨h12, _, _, oC, m₂, _, rfl, F12, nC, newsSub N12 (l := (I, oI) :: (C5, oC) :: (D5, listOf yb.toArray k5) :: (l12, _) :: n2) (by walk_at "my sub"), List.forall_mem_cons.mpr ⟨⟨Nat.ne_of_gt b1, Nat.ne_of_gt b2, Nat.ne_of_gt b3⟩, off32⟩, rfl, fun p hp => .tail _ (hsub p hp), hcm2.snoc hylb (fun p hp => .tail _ hp) (by rw [← hc, e5]; exact .head _)⟩
  · rename_i hab l12 h12 F12 N12 lt12
    show HidQ _ _ _
    unfold HidQ
    obtain ⟨b1, b2, b3, b4⟩ := lt12
    have lt := allLt_mem b4
    have e5 : cmpP c = (1, -1) := by unfold cmpP cmp3 b2i; rw [decide_eq_true (by omega : c.2 < c.1), decide_eq_false (by omega : ¬ c.1 < c.2)]; rfl
    exact ⟨h12, _, _, oC, m₂, _, rfl, F12, nC, newsSub N12 (l := (I, oI) :: (C5, oC) :: (D5, listOf yb.toArray k5) :: (l12, _) :: n2) (by walk_at "my sub"), List.forall_mem_cons.mpr ⟨⟨Nat.ne_of_gt b1, Nat.ne_of_gt b2, Nat.ne_of_gt b3⟩, off32⟩, rfl, fun p hp => .tail _ (hsub p hp), hcm2.snoc hylb (fun p hp => .tail _ hp) (by rw [← hc, e5]; exact .head _)⟩
end
theorem reset_LY : True := by w_top off; trivial
section
set_option maxHeartbeats 8000000 in
theorem done_GL23 : (cutLX).P1 := by
  intro w s₀ mg mb fa cd ns la gh X' T' K' L prog dr os y9 y6 lw vs0 vals D ys ws R x0 x1 Dn D' ys' t63 t70 h10 tk10 D2 yy e1 h11 tk11 D3 ys2 y9 lj W1 va vb W2 lk W3 P l3 lj2 lk2 D6 D ys k e2 o3 ps xa xb q2 h27 tk27 I i y9 gg nw C2 oC D3 oI m₂ h tk k9 E' hi hyl9 hsub9 hcm nC hma hmb F28 N29 off9
  have hi2 : i < ys.length := by simpa using hi
  obtain ⟨⟨t1, u1, e1, e2⟩, _⟩ := q2.2 i hi2
  obtain ⟨c, hc⟩ : ∃ c, c = ps.getD i (0, 0) := ⟨_, rfl⟩
  rw [← hc] at e1 e2
  rw [e1] at hma
  rw [e2] at hmb
  refine hidQ ?_
  (try dsimp only); (try k_fold)
  k_steps
  unfold Halt
  refine twc_spec (a := c.1) (b := c.2) K' F28 X' N29 T' rfl rfl rfl (by simp only [depth_in1, depth_deeper, depth_caller]; decide) (Nat.le_of_ble_eq_true rfl) ?_
  intro h10 t10 tk10 F10 N10
  clear F28 N29
  (try dsimp only); (try k_fold)
  k_steps
  unfold Halt
  refine twc_spec (a := c.2) (b := c.1) K' F10 X' N10 T' rfl rfl rfl (by simp only [depth_in1, depth_deeper, depth_caller]; decide) (Nat.le_of_ble_eq_true rfl) ?_
  intro h11 t11 tk11 F11 N11
  clear F10 N10
  (try dsimp only); (try k_fold)
  k_steps
  rename_i l12 h12 F12 N12 lt12
  show HidQ _ _ _
  unfold HidQ
  obtain ⟨b1, b2, b3, b4⟩ := lt12
  have lt := allLt_mem b4
  refine ⟨h12, _, _, oC, m₂, _, rfl, F12, nC, newsSub N12 (l := (I, oI) :: (C2, oC) :: (D3, listOf y9.toArray k9) :: (l12, listOf #[.int (cmp3 c.1 c.2) t10, .int (cmp3 c.2 c.1) t11] 0) :: nw) ?_, List.forall_mem_cons.mpr ⟨⟨Nat.ne_of_gt b1, Nat.ne_of_gt b2, Nat.ne_of_gt b3⟩, off9⟩, rfl, fun p hp => .tail _ (hsub9 p hp), hcm.snoc hyl9 (fun p hp => .tail _ hp) (by rw [← hc]; exact .head _)⟩
  walk_at "my sub"
end
theorem reset_MB : True := by w_top off; trivial
section
theorem cmpR {h : Heap} {own : List (Addr × Obj)} {h₀ : Heap} {L : Addr} {all : List (Addr × Obj)} (N : News h₀ L h all) (sub : ∀ p ∈ own, p ∈ all) : ∀ (ys : List Value) (ps : List (Int × Int)), ps.length = ys.length → CmpAt own ys ps → ∃ as, ReadsAll h ys (ps.map fun p => .list [.int (cmpP p).1, .int (cmpP p).2]) as
  | [], [], _, _ => ⟨_, .nil⟩
  | y :: ys, p :: ps, hl, H => by
    obtain ⟨a, t, u, n, e1, e2⟩ := H 0 (by simp)
    obtain ⟨as, r⟩ := cmpR N sub ys ps (by simpa using hl) fun j hj => by
      obtain ⟨a, t, u, n, e1, e2⟩ := H (j + 1) (by simp; omega)
      exact ⟨a, t, u, n, by simpa using e1, by simpa using e2⟩
    have e1 : y = .ref a := Option.some.inj e1
    subst e1
    exact ⟨_, .cons (reads_list_at (N _ (sub _ e2)).1 rfl rfl (.cons (.int _ _) (.cons (.int _ _) .nil))) r⟩
theorem cmpLay : ∀ ps : List (Int × Int), PyData.canLayAll0 (ps.map fun p => .list [.int (cmpP p).1, .int (cmpP p).2]) = true
  | [] => rfl
  | p :: ps => by
    rw [List.map_cons]
    have := cmpLay ps
    simp only [PyData.canLayAll0, PyData.canLay0, this]
    rfl
theorem cmpDep : ∀ ps : List (Int × Int), PyData.depthAll (ps.map fun p => .list [.int (cmpP p).1, .int (cmpP p).2]) ≤ 1
  | [] => by simp [PyData.depthAll]
  | p :: ps => by
    rw [List.map_cons]
    have := cmpDep ps
    simp only [PyData.depthAll, PyData.depth]
    omega
theorem cmpShaped (ps : List (Int × Int)) : SeqAt.shaped (.list (ps.map fun p => .list [.int (cmpP p).1, .int (cmpP p).2])) = true := by
  unfold SeqAt.shaped
  have h1 := cmpLay ps
  have h2 := cmpDep ps
  simp only [PyData.canLay0, PyData.depth, h1, Bool.true_and]
  exact decide_eq_true (by omega)
set_option maxHeartbeats 8000000 in
noncomputable def cutMB : CutOne (cutLZ).P2 := by
  apply CutOne.mk
  case f =>
    intro hq1
    intro w s₀ mg mb fa cd ns la xs gh X' T' K' hx L prog dr os E0 hcx y9 y6 lw vs0 vals hlen D ys k hyl ws hyw hwl hwr R x0 x1 Dn hperm hsort D' ys' k' hyl t63 t70 ow hla h10 tk10 qk ek D2 yy hyl hyy D3 ys2 o2 y9 h16 hy9 hy' as1 ra1 as2 ra2 lj mD mLK how2 hyl3 W1 va vb hpl W2 lk W3 P l3 lj2 lk2 D6 D C ys k o3 ps xa xb hs q2 D3 C3 h tk m3 y9 nw k9 hyl9 hsub9 hcm hn h30 qk ek D5 C5 tk g2 m5 yb n2 k5 hylb hG8 hsub hcm2 C0 hCL hCD h33 F33 N33
    (try dsimp only); (try k_fold)
    have hy9 : y9.length = ys.length := by simpa using hyl9
    have hyb : yb.length = ys.length := by simpa using hylb
    obtain ⟨as1, ra1⟩ := cmpR N33 (fun p hp => .tail _ (hsub _ (.tail _ (.tail _ (.tail _ (.tail _ hp)))))) y9 ps (by rw [q2.1, hy9]) hcm
    obtain ⟨as2, ra2⟩ := cmpR N33 (fun p hp => .tail _ hp) yb ps (by rw [q2.1, hyb]) hcm2
    refine ne_same (reads_list_at (N33 (D3, listOf y9.toArray k9) (.tail _ (hsub _ (.tail _ (.head _))))).1 rfl rfl ra1) (reads_list_at (N33 _ (.head _)).1 rfl rfl ra2) (cmpShaped ps) (Nat.le_of_ble_eq_true rfl) ?_
    have N34 : News gh L h33 ((63, tabO t63) :: (70, tabO t70) :: o2) := newsSub N33 (List.forall_mem_cons.mpr ⟨.tail _ (hsub _ (.tail _ (.tail _ (.head _)))), List.forall_mem_cons.mpr ⟨.tail _ (hsub _ (.tail _ (.tail _ (.tail _ (.head _))))), fun p hp => .tail _ (hsub _ (.tail _ (.tail _ (.tail _ (.tail _ (hsub9 _ (.tail _ (.tail _ (.tail _ (hs p hp)))))))))) ⟩⟩)
    clear N33
    (try dsimp only); (try k_fold)
    k_steps
    unfold Halt
    have mLK4 : (D', listOf ys'.toArray k') ∈ (63, tabO t63) :: (70, tabO t70) :: o2 := .tail _ (.tail _ mLK)
    have hy' : ys'.length = 2 := by assumption
    obtain ⟨A0, t0, u0, v0, f0, g0⟩ := hla 0 (by omega)
    obtain ⟨A1, t1, u1, v1, f1, g1⟩ := hla 1 (by omega)
    have g0 := how2 _ g0
    have g1 := how2 _ g1
    refine subV N34 (l := D') (its := ys'.toArray) mLK4 (by decide) (by decide) (v := .ref A0) (by simpa using f0) ?_
    (try dsimp only); (try k_fold)
    k_steps
    unfold Halt
    refine subV N34 (l := A0) (.tail _ (.tail _ g0)) (by decide) (by decide) rfl ?_
    (try dsimp only); (try k_fold)
    k_steps
    unfold Halt
    refine subV N34 (l := D') (its := ys'.toArray) mLK4 (by decide) (by decide) (v := .ref A1) (by simpa using f1) ?_
    (try dsimp only); (try k_fold)
    k_steps
    unfold Halt
    refine subV N34 (l := A1) (.tail _ (.tail _ g1)) (by decide) (by decide) rfl ?_
    (try dsimp only); (try k_fold)
    k_steps
    (try unfold Halt)
    refine max_two_N hcx F33 N34 fun h35 tk35 F35 N35 => ?_
    clear F33 N34
    (try dsimp only); (try k_fold)
    k_steps
    (rename_i zz0 zz1 zz2 zz3 zz4 zz5 zz6 zz7 zz8 zz9 zz10 zz11 zz12 zz13 zz14 zz15 zz16 zz17 zz18 zz19 zz20 zz21 zz22 zz23 zz24 zz25 zz26 zz27 zz28; clear k' zz5 ow hla hyl hyy h16 zz10 zz11 zz12 zz13 zz14 zz15 mLK how2 k o3 ps xa xb hs q2 D3 C3 h zz16 m3 nw k9 hyl9 hsub9 hcm hn h30 zz17 zz18 tk n2 k5 hylb hsub hcm2 h33 hy9 hyb as1 ra1 as2 ra2 mLK4 hy' A0 u0 v0 f0 zz19 A1 u1 v1 f1 zz20 g0 g1 zz21 zz22 zz23 zz25 zz26 zz27; revert w s₀ mg mb fa cd ns la xs gh X' T' K' hx L prog dr os E0 hcx zz0 y6 lw vs0 vals hlen zz1 zz2 zz3 zz4 ws hyw hwl hwr R x0 x1 Dn hperm hsort D' ys' t63 t70 h10 tk10 zz6 zz7 D2 yy zz8 ys2 o2 zz9 lj mD hyl3 W1 va vb hpl W2 lk W3 P l3 lj2 lk2 D6 D C ys y9 D5 C5 g2 m5 yb hG8 C0 hCL hCD t0 t1 zz24 zz28 h35 tk35 F35 N35 qk ek; exact no_implicit_lambda% (@PLift.down _ hq1))
end
theorem reset_GR : True := by w_top off; trivial
section
def PartOf : List Nat → Nat → Nat → Prop
  | [], o, k => o = 0 ∧ k = 0
  | x :: S, o, k => PartOf S o k ∨ (x ≤ o ∧ 1 ≤ k ∧ PartOf S (o - x) (k - 1))
def lptN (S : List Nat) : Nat × Nat := S.foldl (fun st p => if st.1 ≤ st.2 then (st.1 + p, st.2) else (st.1, st.2 + p)) (0, 0)
theorem lptN_snoc (S : List Nat) (p : Nat) : lptN (S ++ [p]) = if (lptN S).1 ≤ (lptN S).2 then ((lptN S).1 + p, (lptN S).2) else ((lptN S).1, (lptN S).2 + p) := by
  unfold lptN; rw [List.foldl_append]; rfl
theorem load_lpt (D : List Str) : lptN (D.map fun w => w.length + 1) = (load (deal D).1, load (deal D).2) := by
  induction D using snoc_ind with
  | h0 => rfl
  | h1 D w ih =>
    rw [List.map_append, List.map_singleton, lptN_snoc, ih, deal_snoc]
    unfold dealStep
    dsimp only
    split
    · rw [load_snoc]
    · rw [load_snoc]
theorem lptN_sum (S : List Nat) : (lptN S).1 + (lptN S).2 = S.sum := by
  induction S using snoc_ind with
  | h0 => rfl
  | h1 S p ih =>
    rw [lptN_snoc, List.sum_append, List.sum_singleton]
    split
    · dsimp only; omega
    · dsimp only; omega
theorem part_snoc : ∀ (S : List Nat) (p o k : Nat), PartOf (S ++ [p]) o k → PartOf S o k ∨ (p ≤ o ∧ 1 ≤ k ∧ PartOf S (o - p) (k - 1))
  | [], p, o, k, h => h
  | x :: S, p, o, k, h => by
    rcases h with h | ⟨h1, h2, h3⟩
    · rcases part_snoc S p o k h with h | ⟨a, b, c⟩
      · exact .inl (.inl h)
      · exact .inr ⟨a, b, .inl c⟩
    · rcases part_snoc S p _ _ h3 with h | ⟨a, b, c⟩
      · exact .inl (.inr ⟨h1, h2, h⟩)
      · refine .inr ⟨by omega, by omega, .inr ⟨by omega, by omega, ?_⟩⟩
        rw [show o - p - x = o - x - p by omega]; exact c
theorem part_bound (p : Nat) : ∀ (S : List Nat) (o k : Nat), (∀ x ∈ S, p ≤ x) → PartOf S o k → k * p ≤ o ∧ o ≤ S.sum ∧ k ≤ S.length ∧ (S.length - k) * p ≤ S.sum - o
  | [], o, k, _, h => by
    obtain ⟨rfl, rfl⟩ := h
    simp
  | x :: S, o, k, hp, h => by
    have hx := hp x (List.mem_cons_self ..)
    rcases h with h | ⟨h1, h2, h3⟩
    · obtain ⟨a, b, c, d⟩ := part_bound p S o k (fun y hy => hp y (.tail _ hy)) h
      refine ⟨a, by rw [List.sum_cons]; omega, by rw [List.length_cons]; omega, ?_⟩
      rw [List.sum_cons, List.length_cons, show S.length + 1 - k = (S.length - k) + 1 by omega, Nat.succ_mul]
      omega
    · obtain ⟨a, b, c, d⟩ := part_bound p S _ _ (fun y hy => hp y (.tail _ hy)) h3
      obtain ⟨j, rfl⟩ : ∃ j, k = j + 1 := ⟨k - 1, by omega⟩
      rw [Nat.add_sub_cancel] at a c d
      refine ⟨by rw [Nat.succ_mul]; omega, by rw [List.sum_cons]; omega, by rw [List.length_cons]; omega, ?_⟩
      rw [List.sum_cons, List.length_cons, show S.length + 1 - (j + 1) = S.length - j by omega]
      omega
theorem part_perm {S S' : List Nat} (h : S.Perm S') : ∀ o k, PartOf S o k → PartOf S' o k := by
  induction h with
  | nil => exact fun _ _ h => h
  | cons x _ ih =>
    rintro o k (h | ⟨a, b, c⟩)
    · exact .inl (ih _ _ h)
    · exact .inr ⟨a, b, ih _ _ c⟩
  | swap x y S =>
    rintro o k ((h | ⟨a, b, c⟩) | ⟨a, b, (c | ⟨d, e, f⟩)⟩)
    · exact .inl (.inl h)
    · exact .inr ⟨a, b, .inl c⟩
    · exact .inl (.inr ⟨a, b, c⟩)
    · refine .inr ⟨by omega, by omega, .inr ⟨by omega, by omega, ?_⟩⟩
      rw [show o - x - y = o - y - x by omega]; exact f
  | trans _ _ ih1 ih2 => exact fun o k h => ih2 _ _ (ih1 _ _ h)
def Two : List Nat → Nat → Nat → Prop
  | [], a, b => a = 0 ∧ b = 0
  | x :: S, a, b => (∃ c, a = x + c ∧ Two S c b) ∨ (∃ c, b = x + c ∧ Two S a c)
theorem two_of : ∀ (S : List Nat) (o k : Nat), PartOf S o k → ∃ b, Two S o b ∧ o + b = S.sum
  | [], o, k, h => ⟨0, ⟨h.1, rfl⟩, by rw [h.1]; rfl⟩
  | x :: S, o, k, h => by
    rw [List.sum_cons]
    rcases h with h | ⟨h1, _, h⟩
    · obtain ⟨b, h2, e⟩ := two_of S _ _ h
      exact ⟨x + b, .inr ⟨b, rfl, h2⟩, by omega⟩
    · obtain ⟨b, h2, e⟩ := two_of S _ _ h
      exact ⟨b, .inl ⟨o - x, by omega, h2⟩, by omega⟩
theorem two_zero : ∀ (S : List Nat) (a b : Nat), Two S a b → Two (S ++ [0]) a b
  | [], a, b, h => .inl ⟨0, h.1, rfl, h.2⟩
  | x :: S, a, b, h => h.elim (fun ⟨c, e, h⟩ => .inl ⟨c, e, two_zero S _ _ h⟩) fun ⟨c, e, h⟩ => .inr ⟨c, e, two_zero S _ _ h⟩
theorem lpt_zero (S : List Nat) : lptN (S ++ [0]) = lptN S := by
  rw [lptN_snoc]
  split <;> rfl
theorem two_swap : ∀ (S : List Nat) (a b : Nat), Two S a b → Two S b a
  | [], _, _, h => ⟨h.2, h.1⟩
  | _ :: S, _, _, h => h.elim (fun ⟨c, e, h⟩ => .inr ⟨c, e, two_swap S _ _ h⟩) fun ⟨c, e, h⟩ => .inl ⟨c, e, two_swap S _ _ h⟩
theorem four_a (x y z v c b M : Nat) (hxy : y ≤ x) (hyz : z ≤ y) (hzv : v ≤ z) (h : Two [y, z, v] c b) (ha : x + c ≤ M) (hb : b ≤ M) : x ≤ M ∧ y + z ≤ M ∧ (x + v ≤ M ∨ y + z + v ≤ M) := by
  have hx : x ≤ M := Nat.le_trans (Nat.le_add_right _ _) ha
  refine ⟨hx, ?_⟩
  rcases h with ⟨c, rfl, h⟩ | ⟨b, rfl, h⟩
  · have hc := Nat.le_trans (Nat.add_le_add_left (Nat.le_add_right y c) x) ha
    clear h ha hb
    exact ⟨by omega, .inl (by omega)⟩
  · rcases h with ⟨c, rfl, h⟩ | ⟨b, rfl, h⟩
    · have hc := Nat.le_trans (Nat.add_le_add_left (Nat.le_add_right z c) x) ha
      clear h ha hb
      exact ⟨by omega, .inl (by omega)⟩
    · rcases h with ⟨c, rfl, h⟩ | ⟨b, rfl, h⟩
      · exact ⟨by omega, .inl (by omega)⟩
      · exact ⟨by omega, .inr (by omega)⟩
theorem four (x y z v a b M : Nat) (hxy : y ≤ x) (hyz : z ≤ y) (hzv : v ≤ z) (h : Two [x, y, z, v] a b) (ha : a ≤ M) (hb : b ≤ M) : (lptN [x, y, z, v]).1 ≤ M ∧ (lptN [x, y, z, v]).2 ≤ M := by
  have H : x ≤ M ∧ y + z ≤ M ∧ (x + v ≤ M ∨ y + z + v ≤ M) := by
    rcases h with ⟨c, rfl, h⟩ | ⟨c, rfl, h⟩
    · exact four_a x y z v c b M hxy hyz hzv h ha hb
    · exact four_a x y z v c a M hxy hyz hzv (two_swap _ _ _ h) hb ha
  have e2 : lptN [x, y] = (x, y) := by
    show (if 0 + x ≤ 0 then (0 + x + y, 0) else (0 + x, 0 + y)) = (x, y)
    rw [Nat.zero_add, Nat.zero_add]
    split
    · obtain rfl : x = 0 := Nat.le_zero.mp (by assumption)
      obtain rfl : y = 0 := Nat.le_zero.mp hxy
      rfl
    · rfl
  rw [show [x, y, z, v] = ([x, y] ++ [z]) ++ [v] from rfl, lptN_snoc, lptN_snoc, e2]
  clear e2 h ha hb
  obtain ⟨h1, h2, h3⟩ := H
  dsimp only
  split
  · dsimp only
    split
    · exact ⟨by omega, by omega⟩
    · exact ⟨by omega, by omega⟩
  · dsimp only
    split
    · exact ⟨by omega, h2⟩
    · exact ⟨h1, by omega⟩
theorem small (S : List Nat) (hs : S.Pairwise fun a b => b ≤ a) (a b M : Nat) (h : Two S a b) (ha : a ≤ M) (hb : b ≤ M) (hl : S.length ≤ 4) : (lptN S).1 ≤ M ∧ (lptN S).2 ≤ M := by
  have z := Nat.zero_le
  match S, hs, h with
  | [], _, _ => exact ⟨z _, z _⟩
  | [x], _, h =>
    rw [← lpt_zero [x], ← lpt_zero ([x] ++ [0]), ← lpt_zero (([x] ++ [0]) ++ [0])]
    exact four x 0 0 0 a b M (z _) (z _) (z _) (two_zero _ _ _ (two_zero _ _ _ (two_zero _ _ _ h))) ha hb
  | [x, y], r, h =>
    rw [← lpt_zero [x, y], ← lpt_zero ([x, y] ++ [0])]
    exact four x y 0 0 a b M ((List.pairwise_cons.mp r).1 y (.head _)) (z _) (z _) (two_zero _ _ _ (two_zero _ _ _ h)) ha hb
  | [x, y, w], r, h =>
    rw [← lpt_zero [x, y, w]]
    exact four x y w 0 a b M ((List.pairwise_cons.mp r).1 y (.head _)) ((List.pairwise_cons.mp (List.pairwise_cons.mp r).2).1 w (.head _)) (z _) (two_zero _ _ _ h) ha hb
  | [x, y, w, v], r, h =>
    exact four x y w v a b M ((List.pairwise_cons.mp r).1 y (.head _)) ((List.pairwise_cons.mp (List.pairwise_cons.mp r).2).1 w (.head _)) ((List.pairwise_cons.mp (List.pairwise_cons.mp (List.pairwise_cons.mp r).2).2).1 v (.head _)) h ha hb
  | _ :: _ :: _ :: _ :: _ :: _, _, _ => exact absurd hl (by simp)
theorem lpt76 (S : List Nat) : ∀ (hs : S.Pairwise fun a b => b ≤ a) (o k : Nat), PartOf S o k → 6 * max (lptN S).1 (lptN S).2 ≤ 7 * max o (S.sum - o) := by
  induction S using snoc_ind with
  | h0 => intro _ o k _; exact Nat.zero_le _
  | h1 S p ih =>
    intro hs o k h
    obtain ⟨hs1, _, hs2⟩ := List.pairwise_append.mp hs
    have hge : ∀ x ∈ S ++ [p], p ≤ x := by
      intro x hx
      rcases List.mem_append.mp hx with hx | hx
      · exact hs2 x hx p (.head _)
      · rw [List.mem_singleton.mp hx]; exact Nat.le_refl _
    obtain ⟨b1, b2, b3, b4⟩ := part_bound p _ o k hge h
    have hsum : (S ++ [p]).sum = S.sum + p := by rw [List.sum_append, List.sum_singleton]
    have hl := lptN_sum S
    have hM1 := Nat.le_max_left o ((S ++ [p]).sum - o)
    have hM2 := Nat.le_max_right o ((S ++ [p]).sum - o)
    generalize hM : max o ((S ++ [p]).sum - o) = M at *
    by_cases hbig : 3 * p ≤ M
    · have hold : 6 * max (lptN S).1 (lptN S).2 ≤ 7 * M := by
        rcases part_snoc S p o k h with h | ⟨h1, _, h⟩
        · refine Nat.le_trans (ih hs1 _ _ h) (Nat.mul_le_mul_left _ (Nat.max_le.mpr ⟨hM1, Nat.le_trans ?_ hM2⟩))
          rw [hsum]
          exact Nat.sub_le_sub_right (Nat.le_add_right _ _) _
        · refine Nat.le_trans (ih hs1 _ _ h) (Nat.mul_le_mul_left _ (Nat.max_le.mpr ⟨Nat.le_trans (Nat.sub_le _ _) hM1, Nat.le_trans ?_ hM2⟩))
          rw [hsum]
          clear hM hl ih
          omega
      have hT : S.sum + p ≤ 2 * M := by rw [hsum] at hM2; clear hold ih hM; omega
      have h1 : 6 * (lptN S).1 ≤ 7 * M := Nat.le_trans (Nat.mul_le_mul_left _ (Nat.le_max_left _ _)) hold
      have h2 : 6 * (lptN S).2 ≤ 7 * M := Nat.le_trans (Nat.mul_le_mul_left _ (Nat.le_max_right _ _)) hold
      clear hold ih hM hM1 hM2 b1 b2 b3 b4 hsum
      have hmx : ∀ {a b : Nat}, 6 * a ≤ 7 * M → 6 * b ≤ 7 * M → 6 * max a b ≤ 7 * M := fun {a b} p q => by
        rcases Nat.le_total a b with e | e
        · rw [Nat.max_eq_right e]; exact q
        · rw [Nat.max_eq_left e]; exact p
      rw [lptN_snoc]
      split
      · refine hmx ?_ h2
        dsimp only
        omega
      · refine hmx h1 ?_
        dsimp only
        omega
    · have hk : k < 3 := Nat.lt_of_not_le fun hk => hbig (Nat.le_trans (Nat.mul_le_mul_right p hk) (Nat.le_trans b1 hM1))
      have hnk : (S ++ [p]).length - k < 3 := Nat.lt_of_not_le fun hk => hbig (Nat.le_trans (Nat.mul_le_mul_right p hk) (Nat.le_trans b4 hM2))
      obtain ⟨b, h2, e⟩ := two_of _ _ _ h
      obtain ⟨q1, q2⟩ := small _ hs o b M h2 hM1 (Nat.le_trans (Nat.le_sub_of_add_le (by rw [Nat.add_comm]; exact Nat.le_of_eq e)) hM2) (by omega)
      exact Nat.mul_le_mul (by decide) (Nat.max_le.mpr ⟨q1, q2⟩)
end
theorem reset_GS : True := by w_top off; trivial
section
theorem part_old : ∀ (S : List Nat) (p o k : Nat), PartOf S o k → PartOf (S ++ [p]) o k
  | [], p, o, k, h => .inl h
  | x :: S, p, o, k, h => by
    rcases h with h | ⟨h1, h2, h3⟩
    · exact .inl (part_old S p o k h)
    · exact .inr ⟨h1, h2, part_old S p _ _ h3⟩
theorem part_new : ∀ (S : List Nat) (p o k : Nat), PartOf S o k → PartOf (S ++ [p]) (o + p) (k + 1)
  | [], p, o, k, h => by
    obtain ⟨rfl, rfl⟩ := h
    exact .inr ⟨by omega, by omega, by simp [PartOf]⟩
  | x :: S, p, o, k, h => by
    rcases h with h | ⟨h1, h2, h3⟩
    · exact .inl (part_new S p o k h)
    · refine .inr ⟨by omega, by omega, ?_⟩
      have := part_new S p _ _ h3
      rw [show o + p - x = o - x + p by omega, show k + 1 - 1 = k - 1 + 1 by omega]; exact this
theorem sums_part (S : List Nat) : ∀ o ∈ sumsP (S.map fun (n : Nat) => (n : Int)), ∃ o' k : Nat, o = (o' : Int) ∧ PartOf S o' k := by
  induction S using snoc_ind with
  | h0 =>
    intro o ho
    rw [List.mem_singleton.mp ho]
    exact ⟨0, 0, rfl, rfl, rfl⟩
  | h1 S p ih =>
    intro o ho
    rw [List.map_append, List.map_singleton, sumsP_snoc] at ho
    rcases List.mem_append.mp ho with ho | ho
    · obtain ⟨o', k, e, h⟩ := ih o ho
      exact ⟨o', k, e, part_old S p _ _ h⟩
    · obtain ⟨r, hr, rfl⟩ := List.mem_map.mp ho
      obtain ⟨o', k, rfl, h⟩ := ih r hr
      exact ⟨o' + p, k + 1, by omega, part_new S p _ _ h⟩
theorem sum_cast (S : List Nat) : (S.map fun (n : Nat) => (n : Int)).sum = ((S.sum : Nat) : Int) := by
  induction S with
  | nil => rfl
  | cons x S ih => rw [List.map_cons, List.sum_cons, List.sum_cons, ih]; omega
theorem graham_law (Dn ws : List Str) (hp : Dn.Perm ws) (hs : Dn.Pairwise fun a b => b.length ≤ a.length) (M : Int)
    (hM : M ∈ (sumsP (ws.map fun x => (x.length : Int) + 1)).map fun o => max o ((ws.map fun x => (x.length : Int) + 1).sum - o)) :
    6 * (if (load (deal Dn).2 : Int) > (load (deal Dn).1 : Int) then (load (deal Dn).2 : Int) else (load (deal Dn).1 : Int)) ≤ 7 * M := by
  have e : (ws.map fun x => (x.length : Int) + 1) = (ws.map fun x => x.length + 1).map fun (n : Nat) => (n : Int) := by
    rw [List.map_map]; rfl
  rw [e, sum_cast] at hM
  obtain ⟨o, ho, rfl⟩ := List.mem_map.mp hM
  obtain ⟨o', k, rfl, h⟩ := sums_part _ o ho
  have hpp : (Dn.map fun x => x.length + 1).Perm (ws.map fun x => x.length + 1) := hp.map _
  have hb := part_bound 0 _ _ _ (fun _ _ => Nat.zero_le _) h
  have hsum : (Dn.map fun x => x.length + 1).sum = (ws.map fun x => x.length + 1).sum := hpp.sum_nat
  have := lpt76 (Dn.map fun x => x.length + 1) (List.pairwise_map.mpr (hs.imp fun h => by omega)) o' k (part_perm hpp.symm _ _ h)
  rw [load_lpt, hsum] at this
  dsimp only at this
  split <;> omega
end
theorem reset_MC : True := by w_top off; trivial
section
set_option maxHeartbeats 8000000 in
theorem done_GL27 : (cutMB).P1 := by
  intro w s₀ mg mb fa cd ns la xs gh X' T' K' hx L prog dr os E0 hcx y9 y6 lw vs0 vals hlen D ys k hyl ws hyw hwl hwr R x0 x1 Dn hperm hsort D' ys' t63 t70 h10 tk10 qk ek D2 yy D3 ys2 o2 y9 lj mD hyl3 W1 va vb hpl W2 lk W3 P l3 lj2 lk2 D6 D C ys y9 D5 C5 g2 m5 yb hG8 C0 hCL hCD t0 t1 ek ek h35 tk35 F35 N35 qk ek
  (try dsimp only)
  unfold Halt
  refine ListComp_G (cl := []) (by with_unfolding_all rfl) (by rfl) (by decide) ?_ (by with_unfolding_all exact fun _ => rfl)
  k_steps
  have hwl := hyw.length
  have hw10 : ws.length ≤ 10 := by omega
  refine comp_ints (ws.map fun x => (x.length : Int) + 1) hcx F35 N35 (.tail _ (.tail _ mD)) (by simp; omega) (by simp; omega) (by decide) rfl (by decide) ?_ ?_
  · rintro I' j yc v' C oC D5 oI' m₂ h10 tk10 k10 E10 hj hv' nC hxv F36 N36
    obtain ⟨tx, utx, rfl, htx⟩ := hyw.item j v' (by simpa using hv')
    have btx : tx.length ≤ 9 := (hwr tx (List.mem_of_getElem? htx)).1.2
    refine hidQ ?_
    (try dsimp only); (try k_fold)
    k_steps
    show HidQ _ _ _
    unfold HidQ
    refine ⟨_, _, _, _, rfl, ?_, rfl, F36, N36⟩
    rw [List.getElem?_map, htx]
    rfl
  · rintro D5 C h10 tk10 m5 yc k10 hys F36 N36 off36 hn C0 hCL hCD
    refine post_E F36 N36 off36 hn C0 hCL hCD fun h37 F37 N37 => ?_
    clear F35 N35 F36 N36
    k_steps
    unfold Halt
    refine even_spec (l := D5) (vs := yc) (ns := ws.map fun x => (x.length : Int) + 1) (n := k10) K' F37 X' N37 T' rfl rfl rfl (by simp only [depth_deeper, depth_caller]; decide) (Nat.le_of_ble_eq_true rfl) hcx (.head _) hys (by simpa using hw10) ?_
    intro h38 t38 tk38 M38 F38 N38 hM1 hM2
    clear F37 N37
    have hl0 := load_small (l := (deal Dn).1) fun x hx => (hwr x (hperm.subset ((deal_perm Dn).subset (List.mem_append_left _ hx)))).1.2
    have hl1 := load_small (l := (deal Dn).2) fun x hx => (hwr x (hperm.subset ((deal_perm Dn).subset (List.mem_append_right _ hx)))).1.2
    (try dsimp only); (try k_fold)
    k_steps
    rename_i hF hN
    show LawEnd _ _ _ _
    unfold LawEnd
    refine ⟨congrArg (fun b => Flow.ret (.bool b)) (decide_eq_true (graham_law Dn ws hperm hsort M38 hM1)), ⟨_, _, hF⟩, ⟨_, _, (hN (63, tabO t63) (by k_mem)).1, (hN (70, tabO t70) (by k_mem)).1⟩, rfl, ?_⟩
    assumption
end
end
theorem done_GL26 : (cutLZ).P2 := no_implicit_lambda% (@CutOne.run _ cutMB (no_implicit_lambda% @done_GL27))
theorem done_GL24 : (cutLX).P2 := no_implicit_lambda% (@CutTwo.run _ cutLZ (no_implicit_lambda% @done_GL25) (no_implicit_lambda% @done_GL26))
theorem done_GL20 : (cutLV).P3 := no_implicit_lambda% (@CutTwo.run _ cutLX (no_implicit_lambda% @done_GL23) (no_implicit_lambda% @done_GL24))
theorem done_GL17 : (cutLU).P1 := no_implicit_lambda% (@CutThree.run _ cutLV (no_implicit_lambda% @done_GL18) (no_implicit_lambda% @done_GL19) (no_implicit_lambda% @done_GL20))
theorem done_GL16 : (cutLT).P1 := no_implicit_lambda% (@CutOne.run _ cutLU (no_implicit_lambda% @done_GL17))
theorem done_GL15 : (cutLS).P1 := no_implicit_lambda% (@CutOne.run _ cutLT (no_implicit_lambda% @done_GL16))
theorem done_GL14 : (cutLR).P1 := no_implicit_lambda% (@CutOne.run _ cutLS (no_implicit_lambda% @done_GL15))
theorem done_GL13 : (cutLP).P2 := no_implicit_lambda% (@CutOne.run _ cutLR (no_implicit_lambda% @done_GL14))
theorem done_GL11 : (cutLO).P1 := no_implicit_lambda% (@CutTwo.run _ cutLP (no_implicit_lambda% @done_GL12) (no_implicit_lambda% @done_GL13))
theorem done_GL10 : (cutLM).P2 := no_implicit_lambda% (@CutOne.run _ cutLO (no_implicit_lambda% @done_GL11))
theorem done_GL7 : (cutLI).P2 := no_implicit_lambda% (@CutTwo.run _ cutLM (no_implicit_lambda% @done_GL9) (no_implicit_lambda% @done_GL10))
theorem done_GL6 : (cutLI).P1 := no_implicit_lambda% (@CutOne.run _ cutLJ (no_implicit_lambda% @done_GL8))
theorem done_GL5 : (cutLG).P2 := no_implicit_lambda% (@CutTwo.run _ cutLI (no_implicit_lambda% @done_GL6) (no_implicit_lambda% @done_GL7))
theorem done_GL3 : (cutLF).P1 := no_implicit_lambda% (@CutTwo.run _ cutLG (no_implicit_lambda% @done_GL4) (no_implicit_lambda% @done_GL5))
theorem done_GL2 : (cutLE).P1 := no_implicit_lambda% (@CutOne.run _ cutLF (no_implicit_lambda% @done_GL3))
theorem done_GL1 : (cutLD).P1 := no_implicit_lambda% (@CutOne.run _ cutLE (no_implicit_lambda% @done_GL2))
theorem done_GL0 : (cutLC).P1 := no_implicit_lambda% (@CutOne.run _ cutLD (no_implicit_lambda% @done_GL1))
theorem done_LawRoot : PySem.Challenge.rw_oy0082_01.Holds := no_implicit_lambda% (@CutOne.run _ cutLC (no_implicit_lambda% @done_GL0))
end Mine
end
theorem PySem.Challenge.cw_oy0082_01_holds : PySem.Challenge.rw_oy0082_01.Holds :=
  Mine.done_LawRoot
