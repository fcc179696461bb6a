import PyProof.Rows.All
import Wide.All
import OpenK.AllK
import Wide.FinOn
import PySem.Challenge.RW_ny0078_01
open PySem PySem.W PyProof.Rows
set_option Elab.async false
set_option maxRecDepth 100000
set_option maxHeartbeats 8000000
namespace Mine
open_top hd for PySem.Challenge.rw_ny0078_01
end Mine
theorem Mine.off_now : True := by
  w_top off
  trivial
namespace Mine
open PySem.SeqAt PySem.MeetsSeq PySem.MeetsSeq3
open AutoSeq1 (wpAny_loadPart')
abbrev Pt := Int × Int
def plt (x y : Pt) : Bool := if x.1 = y.1 then decide (x.2 < y.2) else decide (x.1 < y.1)
/-- a row: a list of two ints -/
def RowAt (h : Heap) (a : Addr) (x : Pt) : Prop := ∃ t u, h.IsList a #[.int x.1 t, .int x.2 u]
theorem RowAt.keeps {h h' : Heap} {a : Addr} {x : Pt} (r : RowAt h a x) (k : ∀ b o, h.get? b = some o → h'.get? b = some o) : RowAt h' a x := by
  obtain ⟨t, u, o, e, q⟩ := r
  exact ⟨t, u, o, k _ _ e, q⟩
section
variable {l b : Addr} {p q p' q' : Int} {t u t' u' : Tok} {n n2 : Nat} {dd dd2 : Option Addr} {sl sl2 : Array (Option Value)} {items items2 : Array Value}
theorem lt_loop2 (h1 : items.size = 2) (h2 : items2.size = 2) : Meets (Builtin.«list.__eq__.loop» ⟨[.ref l, .ref b, rawInt (1 + 1), rawInt 0], []⟩)
      (fun _ R s => s.heap.get? l = some { cls := .type "list", dict := dd, data := .seq items n, slots := sl } ∧ s.heap.get? b = some { cls := .type "list", dict := dd2, data := .seq items2 n2, slots := sl2 } ∧
        R (.ok (.ret (.bool false))) s) := by
  intro prog w A R s h
  obtain ⟨hp, g, d, tk, os⟩ := s; obtain ⟨hl, hb, h⟩ := h
  have hi1 : items[Int.toNat (1 + 1)]? = none := by simp [h1]
  have hi2 : items2[Int.toNat (1 + 1)]? = none := by simp [h2]
  wp_walk using wpAny_loadPart' hl, wpAny_loadPart' hb
  rw [hi1, hi2]
  wp_walk using wpAny_loadPart' hl, wpAny_loadPart' hb
  show R (.ok (.ret (.bool (decide (items.size < items2.size))))) _
  rw [h1, h2]
  exact h
theorem lt_loop1 (h1 : items.size = 2) (h2 : items2.size = 2) (e1 : items[1]? = some (.int q u)) (e2 : items2[1]? = some (.int q' u')) :
    Meets (Builtin.«list.__eq__.loop» ⟨[.ref l, .ref b, rawInt (0 + 1), rawInt 0], []⟩)
      (fun _ R s => s.heap.get? l = some { cls := .type "list", dict := dd, data := .seq items n, slots := sl } ∧ s.heap.get? b = some { cls := .type "list", dict := dd2, data := .seq items2 n2, slots := sl2 } ∧
        R (.ok (.ret (.bool (decide (q < q'))))) s) := by
  intro prog w A R s h
  obtain ⟨hp, g, d, tk, os⟩ := s; obtain ⟨hl, hb, h⟩ := h
  have hi1 : items[Int.toNat (0 + 1)]? = some (.int q u) := e1
  have hi2 : items2[Int.toNat (0 + 1)]? = some (.int q' u') := e2
  wp_walk using wpAny_loadPart' hl, wpAny_loadPart' hb
  rw [hi1, hi2]
  refine wpAny_bind (EqGives.int _ _ _ _ prog w _ _ _ _ ?_)
  cases hq : (q == q') with
  | true =>
    wp_walk
    have : q = q' := by simpa using hq
    subst this
    exact ⟨plainId_quiet plain_eq_loop _, codeAny_builtin entry_eq_loop (by
        rw [Around.under_plainId plain_eq_loop _]
        exact lt_loop2 h1 h2 prog w A R _ ⟨hl, hb, by simpa using h⟩)⟩
  | false =>
    wp_walk using wpAny_loadPart' hl, wpAny_loadPart' hb
    rw [hi1, hi2]
    refine wpAny_bind (wpAny_lt_int ?_)
    wp_walk
    exact h
theorem lt_loop0 (h1 : items.size = 2) (h2 : items2.size = 2) (e1 : items[1]? = some (.int q u)) (e2 : items2[1]? = some (.int q' u')) (f1 : items[0]? = some (.int p t)) (f2 : items2[0]? = some (.int p' t')) :
    Meets (Builtin.«list.__eq__.loop» ⟨[.ref l, .ref b, rawInt 0, rawInt 0], []⟩)
      (fun _ R s => s.heap.get? l = some { cls := .type "list", dict := dd, data := .seq items n, slots := sl } ∧ s.heap.get? b = some { cls := .type "list", dict := dd2, data := .seq items2 n2, slots := sl2 } ∧
        R (.ok (.ret (.bool (plt (p, q) (p', q'))))) s) := by
  intro prog w A R s h
  obtain ⟨hp, g, d, tk, os⟩ := s; obtain ⟨hl, hb, h⟩ := h
  have hi1 : items[Int.toNat 0]? = some (.int p t) := f1
  have hi2 : items2[Int.toNat 0]? = some (.int p' t') := f2
  wp_walk using wpAny_loadPart' hl, wpAny_loadPart' hb
  rw [hi1, hi2]
  refine wpAny_bind (EqGives.int _ _ _ _ prog w _ _ _ _ ?_)
  cases hq : (p == p') with
  | true =>
    wp_walk
    have : p = p' := by simpa using hq
    subst this
    exact ⟨plainId_quiet plain_eq_loop _, codeAny_builtin entry_eq_loop (by
        rw [Around.under_plainId plain_eq_loop _]
        exact lt_loop1 h1 h2 e1 e2 prog w A R _ ⟨hl, hb, by simpa [plt] using h⟩)⟩
  | false =>
    have : p ≠ p' := by simpa using hq
    wp_walk using wpAny_loadPart' hl, wpAny_loadPart' hb
    rw [hi1, hi2]
    refine wpAny_bind (wpAny_lt_int ?_)
    wp_walk
    simpa [plt, this] using h
theorem list_lt2 (h1 : items.size = 2) (h2 : items2.size = 2) (e1 : items[1]? = some (.int q u)) (e2 : items2[1]? = some (.int q' u')) (f1 : items[0]? = some (.int p t)) (f2 : items2[0]? = some (.int p' t')) :
    Meets (Builtin.«list.__lt__» ⟨[.ref l, .ref b], []⟩)
      (fun _ R s => s.heap.get? l = some { cls := .type "list", dict := dd, data := .seq items n, slots := sl } ∧ s.heap.get? b = some { cls := .type "list", dict := dd2, data := .seq items2 n2, slots := sl2 } ∧
        R (.ok (.ret (.bool (plt (p, q) (p', q'))))) s) := by
  intro prog w A R s h
  obtain ⟨hp, g, d, tk, os⟩ := s; obtain ⟨hl, hb, h⟩ := h
  have f3 := AutoSeq1.sub_list_list
  wp_walk using wpAny_loadPart' hl, wpAny_loadPart' hb
  exact ⟨plainId_quiet plain_eq_loop _, codeAny_builtin entry_eq_loop (by
    rw [Around.under_plainId plain_eq_loop _]
    exact lt_loop0 h1 h2 e1 e2 f1 f2 prog w A R _ ⟨hl, hb, by simpa using h⟩)⟩
end
section
variable {prog : Program} {w : World} {A : Around} {E : Value → Shared → Prop} {s : Shared} {a b : Addr} {x y : Pt}
theorem rc_lt {Q : Value → Shared → Prop} (ha : RowAt s.heap a x) (hb : RowAt s.heap b y) (hu : A.units < cLine) (h : Q (.bool (plt x y)) s) : wpAny (model prog w) A (richCompare .Lt (.ref a) (.ref b)) Q E s := by
  obtain ⟨t, u, ⟨cls, dd, data, sl⟩, ho, hc, n, hd⟩ := ha
  obtain ⟨t', u', ⟨cls2, dd2, data2, sl2⟩, ho2, hc2, n2, hd2⟩ := hb
  simp only at hc hd hc2 hd2
  subst hc hd hc2 hd2
  exact richCompare_meets_room (op := .Lt) ⟨_, ho, rfl⟩ ⟨_, ho2, rfl⟩ F.slot_list_lt F.entry_list_lt (F.args_list_lt_2 _ _) (list_lt2 (p := x.1) (q := x.2) (p' := y.1) (q' := y.2) rfl rfl rfl rfl rfl rfl)
    ⟨ho, ho2, show Value.bool (plt x y) ≠ Value.notImplemented ∧ Q (.bool (plt x y)) s from ⟨(fun x => nomatch x), h⟩⟩ hu
theorem cmp_lt {Q : Value → Shared → Prop} (ha : RowAt s.heap a x) (hb : RowAt s.heap b y) (hu : A.units < cLine) (h : Q (.bool (plt x y)) s) : wpAny (model prog w) A (compareOp .Lt (.ref a) (.ref b)) Q E s :=
  cmp_ofLt (rc_lt ha hb hu h)
/-- the test that the sort asks -/
theorem key_lt {Q : Bool → Shared → Prop} (ha : RowAt s.heap a x) (hb : RowAt s.heap b y) (hu : A.units < cLine) (h : Q (plt x y) s) : wpAny (model prog w) A (keyLt' oneType' (.ref a) (.ref b)) Q E s := by
  rw [keyLt'_oneType, oneLt'_eq]
  simp only [if_true]
  refine wpAny_bind (wpAny_cRoomFor hu ?_)
  obtain ⟨t, u, ⟨cls, dd, data, sl⟩, ho, hc, n, hd⟩ := ha
  obtain ⟨t', u', ⟨cls2, dd2, data2, sl2⟩, ho2, hc2, n2, hd2⟩ := hb
  simp only at hc hd hc2 hd2
  subst hc hd hc2 hd2
  refine wpAny_bind (wpAny_callSpecialIfBound?_slot ⟨_, ho, rfl⟩ F.slot_list_lt (call_meets F.slot_list_lt ⟨_, ho, rfl⟩ F.entry_list_lt (F.args_list_lt_2 _ _)
    (list_lt2 (p := x.1) (q := x.2) (p' := y.1) (q' := y.2) rfl rfl rfl rfl rfl rfl) ⟨ho, ho2, ?_⟩))
  exact wpAny_truthy_bool h
theorem row_rc (ha : RowAt s.heap a x) (hb : RowAt s.heap b y) (hu : A.units < cLine) : RcAt A s (.ref a) (.ref b) (decide (x = y)) := by
  obtain ⟨t, u, ha⟩ := ha
  obtain ⟨t', u', hb⟩ := hb
  have r := RcAt.lists (e := fun j => if j = 0 then x.1 == y.1 else x.2 == y.2) ha hb rfl hu (fun j h1 h2 => by
    have h1' : j < 2 := h1
    match j, h1' with
    | 0, _ => exact (EqGives.int _ _ _ _).at _ _
    | 1, _ => exact (EqGives.int _ _ _ _).at _ _)
  have e : ((List.range (#[Value.int x.1 t, Value.int x.2 u] : Array Value).size).all fun j => if j = 0 then x.1 == y.1 else x.2 == y.2) = decide (x = y) := by
    obtain ⟨x1, x2⟩ := x
    obtain ⟨y1, y2⟩ := y
    show ((List.range 2).all fun j => if j = 0 then x1 == y1 else x2 == y2) = _
    simp only [List.range, List.range.loop, List.all_cons, List.all_nil]
    by_cases h1 : x1 = y1 <;> by_cases h2 : x2 = y2 <;> simp [h1, h2]
  rw [e] at r
  exact r
theorem row_eq (ha : RowAt s.heap a x) (hb : RowAt s.heap b y) (hu : A.units < cLine) : EqAt A s (.ref a) (.ref b) (decide (x = y)) := by
  by_cases hab : a = b
  · subst hab
    have : x = y := by
      obtain ⟨t, u, o, e, _, _, d⟩ := ha
      obtain ⟨t', u', o', e', _, _, d'⟩ := hb
      rw [e] at e'; cases e'
      rw [d] at d'
      simp only [Data.seq.injEq, Array.mk.injEq, List.cons.injEq, Value.int.injEq] at d'
      exact Prod.ext d'.1.1.1 d'.1.2.1.1
    subst this
    simpa using EqAt.same _
  · exact EqAt.of_refs hab (row_rc ha hb hu)
theorem cmp_eq {Q : Value → Shared → Prop} (ha : RowAt s.heap a x) (hb : RowAt s.heap b y) (hu : A.units < cLine) (h : Q (.bool (decide (x = y))) s) : wpAny (model prog w) A (compareOp .Eq (.ref a) (.ref b)) Q E s :=
  cmp_ofEq (row_rc ha hb hu _ _ _ _ h)
end
theorem plain_remove_loop : plainId "list.remove.loop" = true := by decide +kernel
theorem entry_remove_loop : entryFor table "list.remove.loop" = some Builtin.«list.remove.loop» := entryFor_of_tree (by kernel_rfl)
def RmSays (e : Value → Bool) (items : Array Value) (l : Addr) (i : Nat) (R : Result → Shared → Prop) (s : Shared) : Prop :=
  match (items.toList.drop i).findIdx? e with
  | some j => R (.ok (.ret .none)) { s with heap := s.heap.update l (Obj.mapSeq (·.eraseIdxIfInBounds (i + j))) }
  | none => ∀ h' tk a, Heap.NewExc s.heap h' a "ValueError" → R (.error (.ref a)) { s with heap := h', toks := tk }
theorem remove_loop (l : Addr) (items : Array Value) (n : Nat) (dd : Option Addr) (sl : Array (Option Value)) (x : Value) (e : Value → Bool) (k : Nat) (hz : items.size ≤ sizeLine) :
    ∀ i : Nat, items.size - i = k → Meets (Builtin.«list.remove.loop» ⟨[.ref l, x, rawInt i], []⟩)
      (fun A R s => A.handled = none ∧ s.heap.get? l = some { cls := .type "list", dict := dd, data := .seq items n, slots := sl } ∧ (∀ y, y ∈ items → EqAt A.in1 s y x (e y)) ∧ RmSays e items l i R s) := by
  induction k with
  | zero =>
    intro i hk prog w A R s h
    obtain ⟨hp, g, d, tk, os⟩ := s; obtain ⟨hh, hl, he, h⟩ := h
    wp_walk using wpAny_loadPart' hl
    have hi : items[((i : Nat) : Int).toNat]? = none := by simp; omega
    have hd : items.toList.drop i = [] := by simp; omega
    unfold RmSays at h
    rw [hd] at h
    rw [hi]
    refine wpAny_bind (wpAny_rule (wpAny_raiseErrorWords plainExc_ValueError hh fun h' tk e hn => ?_))
    exact h _ _ _ hn
  | succ k ih =>
    intro i hk prog w A R s h
    obtain ⟨hp, g, d, tk, os⟩ := s; obtain ⟨hh, hl, he, h⟩ := h
    wp_walk using wpAny_loadPart' hl
    have hlt : i < items.size := by omega
    have hi : items[((i : Nat) : Int).toNat]? = some items[i] := by simp [hlt]
    have hd : items.toList.drop i = items[i] :: items.toList.drop (i + 1) := by simp [List.drop_eq_getElem_cons, hlt]
    unfold RmSays at h
    rw [hd, List.findIdx?_cons] at h
    rw [hi]
    refine wpAny_bind (he _ (Array.getElem_mem hlt) prog w _ _ ?_)
    cases hb : e items[i] with
    | true =>
      rw [hb] at h
      simp only [if_true]
      refine wpAny_bind (listUpdate_at hl rfl ?_ hz ?_)
      · refine wpAny_pure ?_
        simpa using h
      · rw [Int.toNat_natCast]
        have : (items.eraseIdxIfInBounds i).size ≤ items.size := by
          unfold Array.eraseIdxIfInBounds
          rw [dif_pos hlt, Array.size_eraseIdx]; omega
        omega
    | false =>
      rw [hb] at h
      have hc : ((i : Int) + 1) = ((i + 1 : Nat) : Int) := by push_cast; rfl
      wp_walk
      rw [hc]
      exact ⟨plainId_quiet plain_remove_loop _, codeAny_builtin entry_remove_loop (by
        rw [Around.under_plainId plain_remove_loop _]
        refine ih (i + 1) (by omega) prog w A R _ ⟨hh, hl, he, ?_⟩
        unfold RmSays
        cases hf : (items.toList.drop (i + 1)).findIdx? e with
        | none => rw [hf] at h; exact h
        | some j =>
          rw [hf] at h
          have : i + (j + 1) = i + 1 + j := by omega
          simp only [Bool.false_eq_true, if_false, Option.map_some, this] at h
          exact h)⟩
theorem list_remove (l : Addr) (items : Array Value) (n : Nat) (dd : Option Addr) (sl : Array (Option Value)) (x : Value) (e : Value → Bool) (hz : items.size ≤ sizeLine) :
    Meets (Builtin.«list.remove» ⟨[.ref l, x], []⟩)
      (fun A R s => A.handled = none ∧ s.heap.get? l = some { cls := .type "list", dict := dd, data := .seq items n, slots := sl } ∧ (∀ y, y ∈ items → EqAt A.in1 s y x (e y)) ∧ RmSays e items l 0 R s) := by
  intro prog w A R s h
  obtain ⟨hp, g, d, tk, os⟩ := s; obtain ⟨hh, hl, he, h⟩ := h
  wp_walk using wpAny_loadPart' hl
  exact ⟨plainId_quiet plain_remove_loop _, codeAny_builtin entry_remove_loop (by
    rw [Around.under_plainId plain_remove_loop _]
    exact remove_loop l items n dd sl x e _ hz 0 rfl prog w A R _ ⟨hh, hl, he, h⟩)⟩
end Mine
namespace Mine
noncomputable abbrev PR : Program := PySem.Challenge.rw_ny0078_01.row.prog
noncomputable abbrev KH (w : World) : Frag := Mine.hd.heap_39 w.params
noncomputable abbrev TopH (mean : ExcName → Option Value) (mg mb : Str → Option Value) (h : Heap) : Prop := Top Mine.hd.view_39 (looseW Mine.hd.view_39 []) mean mg mb h
end Mine
namespace Mine
open PySem.Calls
section
variable {prog : Program} {w : World} {A : Around} {s : Shared} {h₀ : Heap} {outer : List Env} {L : Addr} {m : Str → Option Value} {news : List (Addr × Obj)} {K : Frag} {p : Program} {loose : List Str} {mean : ExcName → Option Value} {mg mb : Str → Option Value}
  {R : Result → Shared → Prop} {name qual : Str} {params : Arguments} {body : List Stmt} {scope : Scope} {dV kV doc pm cdv ct oc : Value} {an od : Option Addr} {osl : Array (Option Value)} {f : Addr} {args : Args} {binds : List (Str × Value)}
theorem hide_news (N : News h₀ L s.heap news) (F : Fr h₀ L s.heap m) : Fr h₀ L (hideAll s.heap (news.map (·.1))) m := by
  have nm : ∀ b o, h₀.get? b = some o → b ∉ news.map (·.1) := fun b o e q => by
    obtain ⟨p, hp, rfl⟩ := List.mem_map.mp q
    rw [(N p hp).2.2] at e; cases e
  have nL : L ∉ news.map (·.1) := fun q => by
    obtain ⟨p, hp, e⟩ := List.mem_map.mp q
    exact (N p hp).2.1 e
  obtain ⟨oL, es, ep, hL, r⟩ := F.ns
  exact ⟨⟨oL, es, ep, hideAll_get _ hL nL, r⟩, fun b o e => hideAll_get _ (F.keep b o e) (nm b o e), F.above⟩
/-- a def called: what stands, but for the ledger, is the callee's ground -/
theorem code_def2 (F : Fr h₀ L s.heap m) (X₀ : K.In h₀) (N : News h₀ L s.heap news) (T : Top p loose mean mg mb h₀)
    (ho : K.lookup f = some ⟨oc, od, .func (fnOf name qual params body scope dV kV doc pm an cdv ct), osl⟩) (hcd : codeIn K cdv qual = true) (hroom : A.depth < recursionLimit)
    (hbind : BindsTo s (fnOf name qual params body scope dV kV doc pm an cdv ct) args binds) (hloc : ∀ y ∈ binds, scope.names.lookup y.1 = some .local)
    (h : ∀ g L' h₁, Fr h₀ L g m → Fr g L' h₁ (fun y => binds.reverse.lookup y) → News g L' h₁ news → K.In g → Top p loose mean mg mb g → (∀ b o, s.heap.get? b = some o → b ∉ news.map (·.1) → g.get? b = some o) →
      wpAny (model prog w) (A.deeper (envOf qual scope L' f cdv)) (execs body (envOf qual scope L' f cdv))
        (fun fl s' => LeaveK h₀ L m g R (match fl with | .ret v => v | _ => .none) s')
        (fun e s' => wpAny (model prog w) (A.deeper (envOf qual scope L' f cdv)) (leaving (envOf qual scope L' f cdv) e) (fun _ s'' => R (.error e) s'') (fun e' s'' => R (.error e') s'') s')
        { s with heap := h₁, toks := s.toks + binds.length })
    (hco : scope.isCoroutine = false) (hgen : scope.isGenerator = false) (hk : scope.kind = .function)
    (hcell : ∀ x ∈ scope.names, x.2 ≠ .cell) : codeAny (model prog w) A (.call (.ref f) args) R s := by
  have FG := hide_news N F
  refine codeAny_call_def (fd := fnOf name qual params body scope dV kV doc pm an cdv ct) (body := body) (binds := binds) hroom ((X₀.keeps F.keep) _ _ ho) rfl (T.nolimit.keeps F.keep) (codeRec_of (X₀.keeps F.keep) hcd) rfl hbind hcell hloc (fun h₁ hns hk₁ => ?_) hco hgen hk
  refine wpAny_mono (h _ s.heap.objs.size h₁ FG ⟨hns, fun b o e => hk₁ b o (of_hideAll _ e), Nat.le_of_eq (hideAll_size _ _)⟩
    (fun p hp => ⟨hk₁ _ _ (N p hp).1, Nat.ne_of_lt (Heap.lt_size (N p hp).1), hideAll_none _ (List.mem_map_of_mem hp)⟩) (X₀.keeps FG.keep) (T.keeps FG.keep) (fun b o e n => hideAll_get _ e n)) (fun fl s' hl => ?_) fun _ _ y => y
  obtain ⟨L', m', news', F', N', k⟩ := hl
  obtain ⟨oL, es, ep, hL, r⟩ := FG.ns
  refine k ⟨⟨oL, es, ep, F'.keep L oL hL, r⟩, fun b o e => F'.keep b o (FG.keep b o e), F.above⟩ fun p hp => ⟨(N' p hp).1, fun q => ?_, ?_⟩
  · have := (N' p hp).2.2; rw [q, hL] at this; cases this
  · cases q : h₀.get? p.1 with
    | none => rfl
    | some o => have := (N' p hp).2.2; rw [FG.keep _ _ q] at this; cases this
open PyProof.Rows.TI in
/-- a def that catches: the ground stays, the caller's frame goes to the ledger's end -/
theorem code_defT {cn : Str} {cs : Scope} {a : Addr} {ccd : Value} {cl : List (Str × Addr)} {frs : List (Addr × Obj)} (F : Fr h₀ L s.heap m) (X₀ : K.In h₀) (N : News h₀ L s.heap (news ++ frs)) (T : Top p loose mean mg mb h₀) (Fs : Frs outer frs) (hck : cs.kind = .function)
    (ho : K.lookup f = some ⟨oc, od, .func (fnOf name qual params body scope dV kV doc pm an cdv ct), osl⟩) (hcd : codeIn K cdv qual = true) (hroom : A.depth < recursionLimit)
    (hbind : BindsTo s (fnOf name qual params body scope dV kV doc pm an cdv ct) args binds) (hloc : ∀ y ∈ binds, scope.names.lookup y.1 = some .local)
    (h : ∀ oL L' h₁, TI.Caller h₀ L m oL → Frs (envX cn cs L a ccd cl :: outer) ((L, oL) :: frs) → Fr h₀ L' h₁ (fun y => binds.reverse.lookup y) → News h₀ L' h₁ (news ++ (L, oL) :: frs) → (∀ p ∈ news ++ (L, oL) :: frs, p.1 < L') →
      wpAny (model prog w) (A.deeper (envOf qual scope L' f cdv)) (execs body (envOf qual scope L' f cdv))
        (fun fl s' => R (.ok (.ret (match fl with | .ret v => v | _ => .none))) s')
        (fun e s' => wpAny (model prog w) (A.deeper (envOf qual scope L' f cdv)) (leaving (envOf qual scope L' f cdv) e) (fun _ s'' => R (.error e) s'') (fun e' s'' => R (.error e') s'') s')
        { s with heap := h₁, toks := s.toks + binds.length })
    (hco : scope.isCoroutine = false) (hgen : scope.isGenerator = false) (hk : scope.kind = .function)
    (hcell : ∀ x ∈ scope.names, x.2 ≠ .cell) : codeAny (model prog w) A (.call (.ref f) args) R s := by
  obtain ⟨oL, es, ep, hL, hLd, hLk, hLf⟩ := F.ns
  have hLt := Heap.lt_size hL
  have all : ∀ q ∈ news ++ (L, oL) :: frs, s.heap.get? q.1 = some q.2 ∧ h₀.get? q.1 = none := fun q hq => by
    rcases List.mem_append.mp hq with hq | hq
    · exact ⟨(N q (List.mem_append_left _ hq)).1, (N q (List.mem_append_left _ hq)).2.2⟩
    · rcases List.mem_cons.mp hq with rfl | hq
      · exact ⟨hL, Heap.get?_none_of_le F.above⟩
      · exact ⟨(N q (List.mem_append_right _ hq)).1, (N q (List.mem_append_right _ hq)).2.2⟩
  refine codeAny_call_def (fd := fnOf name qual params body scope dV kV doc pm an cdv ct) (body := body) (binds := binds) hroom ((X₀.keeps F.keep) _ _ ho) rfl (T.nolimit.keeps F.keep) (codeRec_of (X₀.keeps F.keep) hcd) rfl hbind hcell hloc (fun h₁ hns hk₁ => ?_) hco hgen hk
  exact h oL s.heap.objs.size h₁ ⟨fun h' sl e => ⟨_, es, ep, e, hLd, hLk, hLf⟩, ⟨es, ep, hLd⟩, F.above⟩ ⟨by show cs.kind ≠ .module; rw [hck]; decide, rfl, ⟨es, ep, hLd⟩, Fs⟩
    ⟨hns, fun b o e => hk₁ b o (F.keep b o e), Nat.le_trans F.above (Nat.le_of_lt hLt)⟩ (fun q hq => ⟨hk₁ _ _ (all q hq).1, Nat.ne_of_lt (Heap.lt_size (all q hq).1), (all q hq).2⟩)
    fun q hq => Heap.lt_size (all q hq).1
open PyProof.Rows.TI in
/-- and back -/
theorem back_T {h : Heap} {L' : Addr} {m' : Str → Option Value} {oL oL' : Obj} {news' frs' : List (Addr × Obj)} (C : TI.Caller h₀ L m oL) (up : ∃ sl, oL' = { oL with slots := sl }) (F' : Fr h₀ L' h m') (N' : News h₀ L' h (news' ++ (L, oL') :: frs'))
    (hne : ∀ q ∈ news' ++ frs', q.1 ≠ L) : Fr h₀ L h m ∧ News h₀ L h (news' ++ frs') := by
  obtain ⟨sl, rfl⟩ := up
  have hL := (N' _ (List.mem_append_right _ (.head _))).1
  refine ⟨⟨C.ns h sl hL, F'.keep, C.above⟩, fun q hq => ?_⟩
  have n := N' q (by
    rcases List.mem_append.mp hq with hq | hq
    · exact List.mem_append_left _ hq
    · exact List.mem_append_right _ (.tail _ hq))
  exact ⟨n.1, hne q hq, n.2.2⟩
end
end Mine
namespace Mine
def alt (v : Addr → Pt) (a b : Addr) : Bool := plt (v a) (v b)
def up3 (v : Addr → Pt) (x b c : Addr) : List Addr := if alt v b c then (if alt v x b then [x, b, c] else [b, x, c]) else (if alt v x c then [x, b, c] else [c, b, x])
def push (v : Addr → Pt) (hs : List Addr) (x : Addr) : List Addr := match hs with
  | [] => [x]
  | [a] => if alt v x a then [x, a] else [a, x]
  | [a, b] => if alt v x a then [x, b, a] else [a, b, x]
  | l => l
def popH (v : Addr → Pt) (hs : List Addr) (x : Addr) : List Addr := match hs with
  | [a, b, c] => if alt v a x then up3 v x b c else [a, b, c]
  | l => l
def popV (v : Addr → Pt) (hs : List Addr) (x : Addr) : Addr := match hs with
  | a :: _ => if alt v a x then a else x
  | [] => x
abbrev refs (l : List Addr) : Array Value := (l.map Value.ref).toArray
theorem news_tl {h₀ h : Heap} {L : Addr} {q : Addr × Obj} {r : List (Addr × Obj)} (N : News h₀ L h (q :: r)) : News h₀ L h r := fun p hp => N p (List.mem_cons_of_mem _ hp)
local macro_rules | `(tactic| k_room) => `(tactic| ktr_room)
local macro_rules | `(tactic| k_units) => `(tactic| ktr_units)
local macro_rules | `(tactic| k_enter) => `(tactic| (refine' code_def2 ?k2 ?k3 ?k4 ?k5 ?k6 ?k7 ?k8 ?k9 ?kB ?_ ?c2 ?c3 ?c4 ?c5; (case k2 => k_asm); (case k3 => k_asm); (case k4 => k_asm); (case k5 => k_asm); (case k6 => k_is); (case k7 => k_is); (case k8 => k_room); (case k9 => exact BindsTo.of_eq rfl); (case c5 => decide); (case kB => exact locs rfl); (case c2 => exact rfl); (case c3 => exact rfl); (case c4 => exact rfl); k_whole; intro g' L' h' FG' F' N' X' T' kp'; (try dsimp only); (try k_fold)))
local macro_rules | `(tactic| ktr_rel) => `(tactic| first | (with_reducible assumption) | (refine' RowAt.keeps ?kx (Fr.keep ?ky); (case ky => with_reducible assumption); (case kx => ktr_rel)))
local macro_rules | `(tactic| walk_at "compareOp Lt ref") => `(tactic| (k_here; (with_reducible show wpAny _ _ (compareOp CmpOp.Lt (Value.ref _) (Value.ref _)) _ _ _); k_dflt (refine' cmp_lt ?k2 ?k3 ?k4 ?_; (case k2 => ktr_rel); (case k3 => ktr_rel); (case k4 => k_units); k_whole)))
section
variable (w : World) {mean : ExcName → Option Value} {mg mb : Str → Option Value} {dp un : Nat} {gd : Option (List Code)} {cn : Str} {cs : Scope} {a : Addr} {ccd : Value} {cl : List (Str × Addr)} {outer : List Env} {h₀ : Heap} {L : Addr} {m : Str → Option Value} {rest : List (Addr × Obj)} {s : Shared}
    {Q E : Value → Shared → Prop} {H x y0 y1 y2 : Addr} {n : Nat} {v : Addr → Pt}
theorem heappush_0 
    (F : Fr h₀ L s.heap m) (X : (Mine.hd.heap_39 w.params).In h₀) (N : News h₀ L s.heap ((H, listOf #[] n) :: rest)) (hO : OwnOff rest [H]) (T : Top Mine.hd.view_39 (looseW Mine.hd.view_39 []) mean mg mb h₀) (hk : cs.kind = .function)
    (rx : RowAt h₀ x (v x)) (hd : dp + 8 < recursionLimit) (hu : un + 100 < cLine)
    (ret : ∀ h' tk' n', Fr h₀ L h' m → News h₀ L h' ((H, listOf (refs (push v [] x)) n') :: rest) → Q .none { s with heap := h', toks := tk' }) :
    wpAny (model PySem.Challenge.rw_ny0078_01.row.prog w) (ktrTop dp un gd cn cs L a ccd cl outer) (call (.ref 21) [.ref H, .ref x]) Q E s := by
  revert X; k_fill; intro X
  refine wpAny_call ?_
  k_dflt k_enter
  k_steps
  all_goals exact ret _ _ _ (by assumption) (by simp only [push]; assumption)
theorem heappush_1
    (F : Fr h₀ L s.heap m) (X : (Mine.hd.heap_39 w.params).In h₀) (N : News h₀ L s.heap ((H, listOf #[.ref y0] n) :: rest)) (hO : OwnOff rest [H]) (T : Top Mine.hd.view_39 (looseW Mine.hd.view_39 []) mean mg mb h₀) (hk : cs.kind = .function)
    (r0 : RowAt h₀ y0 (v y0)) (rx : RowAt h₀ x (v x)) (hd : dp + 8 < recursionLimit) (hu : un + 100 < cLine)
    (ret : ∀ h' tk' n', Fr h₀ L h' m → News h₀ L h' ((H, listOf (refs (push v [y0] x)) n') :: rest) → Q .none { s with heap := h', toks := tk' }) :
    wpAny (model PySem.Challenge.rw_ny0078_01.row.prog w) (ktrTop dp un gd cn cs L a ccd cl outer) (call (.ref 21) [.ref H, .ref x]) Q E s := by
  revert X; k_fill; intro X
  refine wpAny_call ?_
  k_dflt k_enter
  k_steps
  all_goals (rename plt _ _ = _ => hq; exact ret _ _ _ (by assumption) (by simp only [push, alt, hq]; assumption))
theorem heappush_2
    (F : Fr h₀ L s.heap m) (X : (Mine.hd.heap_39 w.params).In h₀) (N : News h₀ L s.heap ((H, listOf #[.ref y0, .ref y1] n) :: rest)) (hO : OwnOff rest [H]) (T : Top Mine.hd.view_39 (looseW Mine.hd.view_39 []) mean mg mb h₀) (hk : cs.kind = .function)
    (r0 : RowAt h₀ y0 (v y0)) (r1 : RowAt h₀ y1 (v y1)) (rx : RowAt h₀ x (v x)) (hd : dp + 8 < recursionLimit) (hu : un + 100 < cLine)
    (ret : ∀ h' tk' n', Fr h₀ L h' m → News h₀ L h' ((H, listOf (refs (push v [y0, y1] x)) n') :: rest) → Q .none { s with heap := h', toks := tk' }) :
    wpAny (model PySem.Challenge.rw_ny0078_01.row.prog w) (ktrTop dp un gd cn cs L a ccd cl outer) (call (.ref 21) [.ref H, .ref x]) Q E s := by
  revert X; k_fill; intro X
  refine wpAny_call ?_
  k_dflt k_enter
  k_steps
  all_goals (rename plt _ _ = _ => hq; exact ret _ _ _ (by assumption) (by simp only [push, alt, hq]; assumption))
theorem siftup_3 {t : Tok}
    (F : Fr h₀ L s.heap m) (X : (Mine.hd.heap_39 w.params).In h₀) (N : News h₀ L s.heap ((H, listOf #[.ref y0, .ref y1, .ref y2] n) :: rest)) (hO : OwnOff rest [H]) (T : Top Mine.hd.view_39 (looseW Mine.hd.view_39 []) mean mg mb h₀) (hk : cs.kind = .function)
    (r0 : RowAt h₀ y0 (v y0)) (r1 : RowAt h₀ y1 (v y1)) (r2 : RowAt h₀ y2 (v y2)) (hd : dp + 4 < recursionLimit) (hu : un + 40 < cLine)
    (ret : ∀ h' tk', Fr h₀ L h' m → News h₀ L h' ((H, listOf (refs (up3 v y0 y1 y2)) n) :: rest) → Q .none { s with heap := h', toks := tk' }) :
    wpAny (model PySem.Challenge.rw_ny0078_01.row.prog w) (ktrTop dp un gd cn cs L a ccd cl outer) (call (.ref 49) [.ref H, .int 0 t]) Q E s := by
  revert X; k_fill; intro X
  refine wpAny_call ?_
  k_dflt k_enter
  k_steps
  all_goals (rename plt (v y0) _ = _ => hq; rename plt (v y1) _ = _ => hq2; exact ret _ _ (by assumption) (by simp only [up3, alt, hq, hq2]; assumption))
local macro_rules | `(tactic| walk_at "call ref") => `(tactic| (k_here; (with_reducible show wpAny _ _ (call (Value.ref 49) [Value.ref _, Value.int _ _]) _ _ _); k_dflt (refine' siftup_3 (v := _) _ ?F ?X ?N ?hO ?T ?hk ?r0 ?r1 ?r2 ?hd ?hu ?_; (case F => k_asm); (case X => k_asm); (case N => first | assumption | exact news_tl (by assumption)); (case hO => assumption); (case T => k_asm); (case hk => exact rfl); (case r0 => ktr_rel); (case r1 => ktr_rel); (case r2 => ktr_rel); (case hd => k_room); (case hu => k_units); intro h' tk' F' N')))
theorem heapreplace_3
    (F : Fr h₀ L s.heap m) (X : (Mine.hd.heap_39 w.params).In h₀) (N : News h₀ L s.heap ((H, listOf #[.ref y0, .ref y1, .ref y2] n) :: rest)) (hO : OwnOff rest [H]) (T : Top Mine.hd.view_39 (looseW Mine.hd.view_39 []) mean mg mb h₀) (hk : cs.kind = .function)
    (r0 : RowAt h₀ y0 (v y0)) (r1 : RowAt h₀ y1 (v y1)) (r2 : RowAt h₀ y2 (v y2)) (rx : RowAt h₀ x (v x)) (hd : dp + 8 < recursionLimit) (hu : un + 100 < cLine)
    (ret : ∀ h' tk' n', Fr h₀ L h' m → News h₀ L h' ((H, listOf (refs (up3 v x y1 y2)) n') :: rest) → Q (.ref y0) { s with heap := h', toks := tk' }) :
    wpAny (model PySem.Challenge.rw_ny0078_01.row.prog w) (ktrTop dp un gd cn cs L a ccd cl outer) (call (.ref 28) [.ref H, .ref x]) Q E s := by
  revert X; k_fill; intro X
  refine wpAny_call ?_
  k_dflt k_enter
  k_steps
  all_goals exact ret _ _ _ (by assumption) (by assumption)
theorem heappushpop_3
    (F : Fr h₀ L s.heap m) (X : (Mine.hd.heap_39 w.params).In h₀) (N : News h₀ L s.heap ((H, listOf #[.ref y0, .ref y1, .ref y2] n) :: rest)) (hO : OwnOff rest [H]) (T : Top Mine.hd.view_39 (looseW Mine.hd.view_39 []) mean mg mb h₀) (hk : cs.kind = .function)
    (r0 : RowAt h₀ y0 (v y0)) (r1 : RowAt h₀ y1 (v y1)) (r2 : RowAt h₀ y2 (v y2)) (rx : RowAt h₀ x (v x)) (hd : dp + 8 < recursionLimit) (hu : un + 100 < cLine)
    (ret : ∀ h' tk' n', Fr h₀ L h' m → News h₀ L h' ((H, listOf (refs (popH v [y0, y1, y2] x)) n') :: rest) → Q (.ref (popV v [y0, y1, y2] x)) { s with heap := h', toks := tk' }) :
    wpAny (model PySem.Challenge.rw_ny0078_01.row.prog w) (ktrTop dp un gd cn cs L a ccd cl outer) (call (.ref 35) [.ref H, .ref x]) Q E s := by
  revert X; k_fill; intro X
  refine wpAny_call ?_
  k_dflt k_enter
  k_steps
  all_goals rename plt (v y0) (v x) = _ => hq0
  · have e : popV v [y0, y1, y2] x = y0 := by simp only [popV, alt, hq0, if_true]
    rw [e] at ret
    exact ret _ _ _ (by assumption) (by simp only [popH, alt, hq0, if_true]; assumption)
  · have e : popV v [y0, y1, y2] x = x := by simp only [popV, alt, hq0, Bool.false_eq_true, if_false]
    rw [e] at ret
    exact ret _ _ _ (by assumption) (by simp only [popH, alt, hq0]; assumption)
theorem via_upd {o : Obj} {news : List (Addr × Obj)} {g : Obj → List (Addr × Obj)} {h : Heap} (U : UpdF H o news g) (N : News h₀ L h news) :
    ∃ rest, News h₀ L h ((H, o) :: rest) ∧ OwnOff rest [H] ∧ ∀ h' o', News h₀ L h' ((H, o') :: rest) → News h₀ L h' (g o') := by
  obtain ⟨pre, post, rfl, hg, x1, x2⟩ := U.split
  refine ⟨pre ++ post, fun p hp => ?_, fun p hp b hb => ?_, fun h' o' N' => ?_⟩
  · rcases List.mem_cons.mp hp with rfl | hp
    · exact N _ (List.mem_append_right _ (.head _))
    · rcases List.mem_append.mp hp with hp | hp
      · exact N p (List.mem_append_left _ hp)
      · exact N p (List.mem_append_right _ (.tail _ hp))
  · rw [List.mem_singleton.mp hb]
    rcases List.mem_append.mp hp with hp | hp
    · exact x1 p hp
    · exact x2 p hp
  · rw [hg]
    intro p hp
    rcases List.mem_append.mp hp with hp | hp
    · exact N' p (.tail _ (List.mem_append_left _ hp))
    · rcases List.mem_cons.mp hp with rfl | hp
      · exact N' _ (.head _)
      · exact N' p (.tail _ (List.mem_append_right _ hp))
variable {news : List (Addr × Obj)} {g : Obj → List (Addr × Obj)} {hs : List Addr}
theorem heappush_K
    (F : Fr h₀ L s.heap m) (X : (Mine.hd.heap_39 w.params).In h₀) (N : News h₀ L s.heap news) (U : UpdF H (listOf (refs hs) n) news g) (T : Top Mine.hd.view_39 (looseW Mine.hd.view_39 []) mean mg mb h₀) (hk : cs.kind = .function)
    (hl : hs.length ≤ 2) (r : ∀ b ∈ hs, RowAt h₀ b (v b)) (rx : RowAt h₀ x (v x)) (hd : dp + 8 < recursionLimit) (hu : un + 100 < cLine)
    (ret : ∀ h' tk' n', Fr h₀ L h' m → News h₀ L h' (g (listOf (refs (push v hs x)) n')) → Q .none { s with heap := h', toks := tk' }) :
    wpAny (model PySem.Challenge.rw_ny0078_01.row.prog w) (ktrTop dp un gd cn cs L a ccd cl outer) (call (.ref 21) [.ref H, .ref x]) Q E s := by
  obtain ⟨rest, N1, hO, back⟩ := via_upd U N
  match hs, hl with
  | [], _ => exact heappush_0 w F X N1 hO T hk rx hd hu fun h' tk' n' F' N' => ret h' tk' n' F' (back _ _ N')
  | [a], _ => exact heappush_1 w F X N1 hO T hk (r a (by simp)) rx hd hu fun h' tk' n' F' N' => ret h' tk' n' F' (back _ _ N')
  | [a, b], _ => exact heappush_2 w F X N1 hO T hk (r a (by simp)) (r b (by simp)) rx hd hu fun h' tk' n' F' N' => ret h' tk' n' F' (back _ _ N')
theorem heappushpop_K
    (F : Fr h₀ L s.heap m) (X : (Mine.hd.heap_39 w.params).In h₀) (N : News h₀ L s.heap news) (U : UpdF H (listOf (refs hs) n) news g) (T : Top Mine.hd.view_39 (looseW Mine.hd.view_39 []) mean mg mb h₀) (hk : cs.kind = .function)
    (hl : hs.length = 3) (r : ∀ b ∈ hs, RowAt h₀ b (v b)) (rx : RowAt h₀ x (v x)) (hd : dp + 8 < recursionLimit) (hu : un + 100 < cLine)
    (ret : ∀ h' tk' n', Fr h₀ L h' m → News h₀ L h' (g (listOf (refs (popH v hs x)) n')) → Q (.ref (popV v hs x)) { s with heap := h', toks := tk' }) :
    wpAny (model PySem.Challenge.rw_ny0078_01.row.prog w) (ktrTop dp un gd cn cs L a ccd cl outer) (call (.ref 35) [.ref H, .ref x]) Q E s := by
  obtain ⟨rest, N1, hO, back⟩ := via_upd U N
  match hs, hl with
  | [a, b, c], _ => exact heappushpop_3 w F X N1 hO T hk (r a (by simp)) (r b (by simp)) (r c (by simp)) rx hd hu fun h' tk' n' F' N' => ret h' tk' n' F' (back _ _ N')
theorem heapreplace_K {y0 y1 y2 : Addr}
    (F : Fr h₀ L s.heap m) (X : (Mine.hd.heap_39 w.params).In h₀) (N : News h₀ L s.heap news) (U : UpdF H (listOf (refs [y0, y1, y2]) n) news g) (T : Top Mine.hd.view_39 (looseW Mine.hd.view_39 []) mean mg mb h₀) (hk : cs.kind = .function)
    (r : ∀ b ∈ [y0, y1, y2], RowAt h₀ b (v b)) (rx : RowAt h₀ x (v x)) (hd : dp + 8 < recursionLimit) (hu : un + 100 < cLine)
    (ret : ∀ h' tk' n', Fr h₀ L h' m → News h₀ L h' (g (listOf (refs (up3 v x y1 y2)) n')) → Q (.ref y0) { s with heap := h', toks := tk' }) :
    wpAny (model PySem.Challenge.rw_ny0078_01.row.prog w) (ktrTop dp un gd cn cs L a ccd cl outer) (call (.ref 28) [.ref H, .ref x]) Q E s := by
  obtain ⟨rest, N1, hO, back⟩ := via_upd U N
  exact heapreplace_3 w F X N1 hO T hk (r y0 (by simp)) (r y1 (by simp)) (r y2 (by simp)) rx hd hu fun h' tk' n' F' N' => ret h' tk' n' F' (back _ _ N')
end
end Mine
namespace Mine
section
variable {prog : Program} {w : World} {A : Around} {E : Value → Shared → Prop} {s : Shared} {h₀ : Heap} {L D : Addr} {m : Str → Option Value} {news news' : List (Addr × Obj)} {n : Nat} {l : List Addr} {x : Addr}
theorem refs_size (l : List Addr) : (refs l).size = l.length := by simp [refs]
theorem kl_last_cat (p : List Value) (y : Value) : kl_last (p ++ [y]) = some (p, y) := by
  cases e : kl_last (p ++ [y]) with
  | none => exact absurd (kl_last_none e) (by simp)
  | some r =>
    obtain ⟨p', y'⟩ := r
    have h := kl_last_spec e
    have h1 := List.append_inj' h rfl
    simp only [List.cons.injEq, and_true] at h1
    rw [h1.1, h1.2]
theorem truthy_nil {Q : Bool → Shared → Prop} (N : News h₀ L s.heap news) (hm : (D, listOf (refs []) n) ∈ news) (h : Q false { s with toks := s.toks + 1 + 1 }) : wpAny (model prog w) A (truthy (.ref D)) Q E s :=
  wpAny_truthy_list ⟨_, N.get hm, rfl, _, rfl⟩ (by decide) (by simpa [refs] using h)
theorem truthy_cat {Q : Bool → Shared → Prop} (N : News h₀ L s.heap news) (hm : (D, listOf (refs (l ++ [x])) n) ∈ news) (hz : (l ++ [x]).length ≤ 100) (h : Q true { s with toks := s.toks + 1 + 1 }) : wpAny (model prog w) A (truthy (.ref D)) Q E s :=
  wpAny_truthy_list ⟨_, N.get hm, rfl, _, rfl⟩ (by rw [refs_size]; omega) (by
    have e : (refs (l ++ [x])).isEmpty = false := by simp [refs]
    rw [e]; exact h)
theorem refs_push (l : List Addr) (x : Addr) : (refs l).push (.ref x) = refs (l ++ [x]) := by simp [refs]
theorem append_cat {Q : Value → Shared → Prop} (F : Fr h₀ L s.heap m) (N : News h₀ L s.heap news) (U : Upd D (listOf (refs l) n) (listOf (refs (l ++ [x])) (n + 1)) news news') (hz : l.length ≤ 100)
    (h : ∀ h', Fr h₀ L h' m → News h₀ L h' news' → Q .none { s with heap := h' }) : wpAny (model prog w) A (call (.builtin "list.append") [.ref D, .ref x]) Q E s := by
  rw [← refs_push] at U
  exact append_K F N U h (by rw [refs_size, sizeLine_eq]; omega)
theorem pop_cat {Q : Value → Shared → Prop} (F : Fr h₀ L s.heap m) (N : News h₀ L s.heap news) (U : Upd D (listOf (refs (l ++ [x])) n) (listOf (refs l) (n + 1)) news news') (hz : (l ++ [x]).length ≤ 100)
    (h : ∀ h', Fr h₀ L h' m → News h₀ L h' news' → Q (.ref x) { s with heap := h' }) : wpAny (model prog w) A (call (.builtin "list.pop") [.ref D]) Q E s :=
  kl_pop (p := l.map Value.ref) F N (by simp [refs, kl_last_cat]) U (by rw [sizeLine_eq]; simp [refs] at hz ⊢; omega) h
end
section
variable {prog : Program} {w : World} {A : Around} {E : Value → Shared → Prop} {s : Shared} {h₀ : Heap} {L D x : Addr} {m : Str → Option Value} {news : List (Addr × Obj)} {g : Obj → List (Addr × Obj)} {n : Nat} {as : List Addr} {v : Addr → Pt}
theorem er_map : ∀ (l : List Addr) (i : Nat), (l.map Value.ref).eraseIdx i = (l.eraseIdx i).map Value.ref
  | [], _ => by simp
  | a :: l, 0 => by simp
  | a :: l, i + 1 => by simp [er_map l i]
theorem remove_K {Q : Value → Shared → Prop} (F : Fr h₀ L s.heap m) (N : News h₀ L s.heap news) (U : UpdF D (listOf (refs as) n) news g) (hh : A.handled = none) (hu : A.units + 8 < cLine) (hz : as.length ≤ 64)
    (ra : ∀ b ∈ as, RowAt h₀ b (v b)) (rx : RowAt h₀ x (v x))
    (h1 : as.any (fun y => decide (v y = v x)) = true → ∀ h' n', Fr h₀ L h' m → News h₀ L h' (g (listOf (refs (as.eraseP (fun y => decide (v y = v x)))) n')) → Q .none { s with heap := h' })
    (h2 : as.any (fun y => decide (v y = v x)) = false → ∀ h' tk e, Heap.NewExc s.heap h' e "ValueError" → E (.ref e) { s with heap := h', toks := tk }) :
    wpAny (model prog w) A (call (.builtin "list.remove") [.ref D, .ref x]) Q E s := by
  obtain ⟨pre, post, rfl, hg, x1, x2⟩ := U.split
  have z := N (D, listOf (refs as) n) (List.mem_append.mpr (.inr (.head _)))
  let e : Value → Bool := fun y => match y with | .ref b => decide (v b = v x) | _ => false
  have hf : (refs as).toList.findIdx? e = as.findIdx? (fun y => decide (v y = v x)) := by
    show (as.map Value.ref).findIdx? e = _
    rw [List.findIdx?_map]; rfl
  refine call_meets PySem.F.slot_list_remove ⟨_, z.1, rfl⟩ PySem.F.entry_list_remove (PySem.F.args_list_remove_2 _ _) (list_remove D (refs as) n none #[] (.ref x) e (by rw [refs_size, sizeLine_eq]; omega)) ⟨hh, z.1, fun y hy => ?_, ?_⟩
  · have hy' : y ∈ as.map Value.ref := by simpa using hy
    obtain ⟨b, hb, rfl⟩ := List.mem_map.mp hy'
    exact row_eq ((ra b hb).keeps F.keep) (rx.keeps F.keep) (by simp only [Around.in1_units]; omega)
  · unfold RmSays
    rw [List.drop_zero, hf]
    cases hq : as.findIdx? (fun y => decide (v y = v x)) with
    | none =>
      have ha : as.any (fun y => decide (v y = v x)) = false := by
        rw [List.findIdx?_eq_none_iff] at hq
        simpa using hq
      exact fun h' tk a hn => h2 ha h' tk a hn
    | some j =>
      have hlt : j < as.length := (List.findIdx?_eq_some_iff_getElem.mp hq).1
      have ha : as.any (fun y => decide (v y = v x)) = true := by
        have := (List.findIdx?_eq_some_iff_getElem.mp hq).2.1
        exact List.any_eq_true.mpr ⟨as[j], List.getElem_mem hlt, this⟩
      have he : (refs as).eraseIdxIfInBounds (0 + j) = refs (as.eraseP (fun y => decide (v y = v x))) := by
        rw [List.eraseP_eq_eraseIdx, hq]
        show (refs as).eraseIdxIfInBounds (0 + j) = ((as.eraseIdx j).map Value.ref).toArray
        rw [Nat.zero_add]
        unfold Array.eraseIdxIfInBounds
        rw [dif_pos (by rw [refs_size]; exact hlt)]
        apply Array.toList_inj.mp
        rw [Array.toList_eraseIdx]
        exact er_map as j
      refine h1 ha _ (n + 1) (F.change (Heap.SameBut.update ..) z.2.1 z.2.2) ?_
      rw [hg]
      refine kl_turn _ N x1 x2 he ?_
      rw [refs_size, refs_size, List.length_eraseP_of_mem (a := as[j]) (List.getElem_mem hlt) (List.findIdx?_eq_some_iff_getElem.mp hq).2.1]
      omega
end
theorem allLt_mem {d : Addr} : ∀ {l : List (Addr × Obj)}, AllLt d l → ∀ p ∈ l, p.1 < d
  | [], _, _, h => nomatch h
  | _ :: _, x, p, h => by
    rcases List.mem_cons.mp h with rfl | h
    · exact x.1
    · exact allLt_mem x.2 p h
open PyProof.Rows.TI in
theorem sameUp_cons {L : Addr} {oL : Obj} {frs fr : List (Addr × Obj)} (su : SameUp ((L, oL) :: frs) fr) : ∃ oL' frs', fr = (L, oL') :: frs' ∧ (∃ sl, oL' = { oL with slots := sl }) ∧ SameUp frs frs' := by
  cases fr with
  | nil => exact su.elim
  | cons q r =>
    obtain ⟨e, u, r'⟩ := su
    obtain ⟨q1, q2⟩ := q
    have e' : q1 = L := e
    subst e'
    exact ⟨q2, r, rfl, u, r'⟩
theorem map_item {m₀ : Str → Option Value} {u : Str → Option Value} {y : Value} (z : Str) (hz : [Str.ofString "item"].contains z = false) :
    (fun y' => if y' = Str.ofString "item" then some y else kstB (fun z => if [Str.ofString "item"].contains z = true then u z else m₀ z) [] y') z = m₀ z := by
  have hne : z ≠ Str.ofString "item" := fun e => by rw [e] at hz; exact absurd hz (by decide)
  show (if z = Str.ofString "item" then some y else (if [Str.ofString "item"].contains z = true then u z else m₀ z)) = m₀ z
  rw [if_neg hne, hz, if_neg (by decide)]
structure UdS where
  es : List Addr
  as : List Addr
  ms : List Addr
  n1 : Nat
  n2 : Nat
  n3 : Nat
  fr : List (Addr × Obj)
def udrun (v : Addr → Pt) : List Addr → List Addr → List Addr → List Addr × List Addr
  | [], as, ms => (ms, as)
  | x :: r, as, ms => if as.any (fun y => decide (v y = v x)) then udrun v r (as.eraseP (fun y => decide (v y = v x))) ms else udrun v r as (ms ++ [x])
end Mine
namespace Mine
local macro_rules | `(tactic| k_room) => `(tactic| ktr_room)
local macro_rules | `(tactic| k_units) => `(tactic| ktr_units)
local macro_rules | `(tactic| walk_at "truthy ref") => `(tactic| (k_here; (with_reducible show wpAny _ _ (truthy (Value.ref _)) _ _ _); k_dflt (first
  | (refine' truthy_nil ?N ?m ?_; (case N => k_asm); (case m => k_mem); k_whole)
  | (refine' truthy_cat ?N ?m ?z ?_; (case N => k_asm); (case m => k_mem); (case z => omega); k_whole))))
local macro_rules | `(tactic| walk_at "call builtin:list.pop") => `(tactic| (k_here; (show wpAny _ _ (call (Value.builtin "list.pop") [Value.ref _]) _ _ _); k_dflt (refine' pop_cat ?k1 ?k2 ?k3 ?z ?_; (case k1 => k_asm); (case k2 => k_asm); (case k3 => k_upd); (case z => omega); k_whole); intro h' F' N'; (try k_sweep)))
local macro_rules | `(tactic| walk_at "call builtin:list.append") => `(tactic| (k_here; (show wpAny _ _ (call (Value.builtin "list.append") [Value.ref _, Value.ref _]) _ _ _); k_dflt (refine' append_cat ?k1 ?k2 ?k3 ?z ?_; (case k1 => k_asm); (case k2 => k_asm); (case k3 => k_upd); (case z => omega); k_whole); intro h' F' N'; (try k_sweep)))
local macro_rules | `(tactic| walk_at "call builtin:list.remove") => `(tactic| (k_here; (show wpAny _ _ (call (Value.builtin "list.remove") [Value.ref _, Value.ref _]) _ _ _); k_dflt (refine' remove_K ?k1 ?k2 ?k3 ?k4 ?k5 ?k6 ?k7 ?k8 ?g1 ?g2; (case k1 => k_asm); (case k2 => k_asm); (case k3 => k_updF); (case k4 => exact rfl); (case k5 => k_units); (case k6 => omega); (case k7 => assumption); (case k8 => assumption)); (case' g1 => (intro hq' h' n' F' N'; (try dsimp only at N'); (try k_sweep))); (case' g2 => intro hq' h' tk' e' hx')))
open PyProof.Rows.TI in
section
variable (w : World) {mean : ExcName → Option Value} {mg mb : Str → Option Value} {dp un : Nat} {gd : Option (List Code)} {cn : Str} {cs : Scope} {a : Addr} {ccd : Value} {cl : List (Str × Addr)} {outer : List Env} {h₀ : Heap} {L : Addr} {m : Str → Option Value} {rest frs : List (Addr × Obj)} {s : Shared}
    {Q E : Value → Shared → Prop} {Ea Aa x : Addr} {n n2 : Nat} {v : Addr → Pt} {es as : List Addr}
theorem ud_ok
    (F : Fr h₀ L s.heap m) (X : (Mine.hd.heap_39 w.params).In h₀) (N : News h₀ L s.heap (((Ea, listOf (refs es) n) :: (Aa, listOf (refs as) n2) :: rest) ++ frs)) (hO : OwnOff (rest ++ frs) [Ea, Aa]) (T : Top Mine.hd.view_39 (looseW Mine.hd.view_39 []) mean mg mb h₀) (hk : cs.kind = .function)
    (Fs : Frs outer frs) (hRF : OwnOff rest (frs.map (·.1))) (hne : @Ne Nat Ea Aa) (re : ∀ b ∈ es, RowAt h₀ b (v b)) (ra : ∀ b ∈ as, RowAt h₀ b (v b)) (hz1 : es.length ≤ 64) (hz2 : as.length ≤ 64) (hd : dp + 8 < recursionLimit) (hu : un + 100 < cLine)
    (ret : ∀ h' tk' D M n1 n3 n4 frs', SameUp frs frs' → Frs outer frs' → Fr h₀ L h' m → News h₀ L h' (((D, { cls := .type "tuple", data := .seq #[.ref M, .ref Aa] }) :: (M, listOf (refs (udrun v es.reverse as []).1) n3) :: (Ea, listOf (refs []) n1) :: (Aa, listOf (refs (udrun v es.reverse as []).2) n4) :: rest) ++ frs') →
      (∀ p ∈ ((Ea, listOf (refs es) n) :: (Aa, listOf (refs as) n2) :: rest) ++ frs, p.1 < M) → M < D → Q (.ref D) { s with heap := h', toks := tk' }) :
    wpAny (model PySem.Challenge.rw_ny0078_01.row.prog w) (ktrTop dp un gd cn cs L a ccd cl outer) (call (.ref 70) [.ref Ea, .ref Aa]) Q E s := by
  revert X; k_fill; intro X
  have nE := (N (Ea, listOf (refs es) n) (.head _)).2.1
  have nA := (N (Aa, listOf (refs as) n2) (.tail _ (.head _))).2.1
  have nR : ∀ p ∈ rest, p.1 ≠ L := fun p hp => (N p (.tail _ (.tail _ (List.mem_append_left _ hp)))).2.1
  have nF : ∀ p ∈ frs, p.1 ≠ L := fun p hp => (N p (.tail _ (.tail _ (List.mem_append_right _ hp)))).2.1
  refine wpAny_call ?_
  k_dflt (refine' code_defT (cn := cn) (cs := cs) (a := a) (ccd := ccd) (cl := cl) F X N T Fs hk ?k6 ?k7 ?k8 ?k9 ?kB ?_ ?c2 ?c3 ?c4 ?c5; (case k6 => k_is); (case k7 => k_is); (case k8 => k_room); (case k9 => exact BindsTo.of_eq rfl); (case c5 => decide); (case kB => exact locs rfl); (case c2 => exact rfl); (case c3 => exact rfl); (case c4 => exact rfl); k_whole; intro oL L' h' C' Fs' F' N' lt'; (try dsimp only))
  simp only [List.cons_append] at N'
  k_fold
  repeat' ((fail_if_success with_reducible show wpAny _ _ (exec (Stmt.While _ _ _ _) _) _ _ _); first | (k_unfold; (try dsimp only)) | (k_end; wrow_close) | walk1 | (dsimp only; walk1) | (leave1; try dsimp only))
  rename_i M _ hl h1 F1 N1
  refine ksw_while (σ := UdS) (fun c => (M, listOf (refs c.ms) c.n3) :: (Ea, listOf (refs c.es) c.n1) :: (Aa, listOf (refs c.as) c.n2) :: (rest ++ c.fr)) (fun _ => []) (fun _ => True) [Str.ofString "item"]
    (fun c => udrun v c.es.reverse c.as c.ms = udrun v es.reverse as [] ∧ (∀ b ∈ c.es, RowAt h₀ b (v b)) ∧ (∀ b ∈ c.as, RowAt h₀ b (v b)) ∧ c.es.length + c.ms.length ≤ 64 ∧ c.as.length ≤ 64 ∧ SameUp ((L, oL) :: frs) c.fr ∧ Frs (envX cn cs L a ccd cl :: outer) c.fr) (fun c => c.es.length) ⟨es, as, [], n, n2, 0, (L, oL) :: frs⟩
    F1 N1 trivial (fun _ hp => nomatch hp) ⟨rfl, re, ra, by simpa using hz1, hz2, SameUp.refl _, Fs'⟩ ?_
  · rintro ⟨ces, cas, cms, m1, m2, m3, fr⟩ u h2 tk2 - ⟨he, re', ra', hz1', hz2', su, fs⟩ F2 N2
    clear F1 N1 N F
    dsimp only at he re' ra' N2 F2 hz1' hz2' su fs
    have hsu : ∀ q ∈ fr, q.1 = L ∨ ∃ p ∈ frs, q.1 = p.1 := fun q hq => by
      obtain ⟨p, hp, e⟩ := SameUp.fwd su q hq
      rcases List.mem_cons.mp hp with rfl | hp
      · exact .inl e
      · exact .inr ⟨p, hp, e⟩
    have hM := allLt_mem hl.2.2
    have hO2 : ∀ fr', SameUp ((L, oL) :: frs) fr' → OwnOff (rest ++ fr') [M, Ea, Aa] := fun fr' su' p hp b hb => by
      rcases List.mem_append.mp hp with hp | hp
      · rcases List.mem_cons.mp hb with rfl | hb
        · exact Nat.ne_of_lt (hM p (List.mem_append_left _ hp))
        · exact hO p (List.mem_append_left _ hp) b hb
      · obtain ⟨q, hq, e⟩ := SameUp.fwd su' p hp
        rw [e]
        rcases List.mem_cons.mp hb with rfl | hb
        · exact Nat.ne_of_lt (hM q (List.mem_append_right _ hq))
        · rcases List.mem_cons.mp hq with rfl | hq
          · rcases List.mem_cons.mp hb with rfl | hb
            · exact Ne.symm nE
            · rw [List.mem_singleton.mp hb]; exact Ne.symm nA
          · exact hO q (List.mem_append_right _ hq) b hb
    have hO3 := hO2 fr su
    rcases List.eq_nil_or_concat ces with rfl | ⟨pre, x, rfl⟩
    · have he2 : udrun v es.reverse as [] = (cms, cas) := he.symm
      k_steps
      obtain ⟨oL', frs', rfl, up, su'⟩ := sameUp_cons su
      rename Fr _ _ _ _ => F5
      rename News _ _ _ _ => N5
      rename _ < _ ∧ _ => hl5
      have B := back_T (news' := _ :: (M, listOf (refs cms) m3) :: (Ea, listOf (refs []) m1) :: (Aa, listOf (refs cas) m2) :: rest) (frs' := frs') C' up F5 N5 ?_
      · refine ret _ _ _ M m1 m3 m2 frs' su' fs.2.2.2 B.1 ?_ ?_ ?_
        · rw [he2]; exact B.2
        · intro p hp
          rcases List.mem_cons.mp hp with rfl | hp
          · exact hl.1
          · rcases List.mem_cons.mp hp with rfl | hp
            · exact hl.2.1
            · rcases List.mem_append.mp hp with hp | hp
              · exact hM p (List.mem_append_left _ hp)
              · exact hM p (List.mem_append_right _ (.tail _ hp))
        · exact hl5.1
      · have hLM : L < M := hM (L, oL) (List.mem_append_right _ (.head _))
        intro q hq
        rcases List.mem_append.mp hq with hq | hq
        · rcases List.mem_cons.mp hq with rfl | hq
          · exact Nat.ne_of_gt (Nat.lt_trans hLM hl5.1)
          · rcases List.mem_cons.mp hq with rfl | hq
            · exact Nat.ne_of_gt hLM
            · rcases List.mem_cons.mp hq with rfl | hq
              · exact nE
              · rcases List.mem_cons.mp hq with rfl | hq
                · exact nA
                · exact nR q hq
        · obtain ⟨p, hp, e⟩ := SameUp.fwd su' q hq
          rw [e]; exact nF p hp
    · rw [List.concat_eq_append] at *
      have rx := re' x (by simp)
      have hzp : pre.length ≤ 64 ∧ cms.length ≤ 64 ∧ pre.length + (cms.length + 1) ≤ 64 := by
        rw [List.length_append] at hz1'; simp at hz1'; omega
      have hpre : ∀ b ∈ pre, RowAt h₀ b (v b) := fun b hb => re' b (List.mem_append_left _ hb)
      have hrev : (pre ++ [x]).reverse = x :: pre.reverse := by simp
      rw [hrev, udrun] at he
      k_steps
      · rename cas.any _ = false => hq
        rename Heap.NewExc _ _ _ _ => hx
        rename Fr _ _ _ _ => F3
        rename News _ _ _ _ => N3
        refine TLg.noted_newA (l := envX cn cs L a ccd cl :: outer) (new := (M, listOf (refs cms) m3) :: (Ea, listOf (refs pre) (m1 + 1)) :: (Aa, listOf (refs cas) m2) :: rest) (frs := fr) rfl fs hx F3 N3 ?_ ?_
        · intro p hp hm
          rcases List.mem_cons.mp hm with e | hm
          · exact (N3 p (List.mem_append_left _ hp)).2.1 e
          · obtain ⟨q, hq', e⟩ := List.mem_map.mp hm
            rcases List.mem_cons.mp hp with rfl | hp
            · exact hO3 q (List.mem_append_right _ hq') M (by simp) e
            · rcases List.mem_cons.mp hp with rfl | hp
              · exact hO3 q (List.mem_append_right _ hq') Ea (by simp) e
              · rcases List.mem_cons.mp hp with rfl | hp
                · exact hO3 q (List.mem_append_right _ hq') Aa (by simp) e
                · rcases hsu q hq' with e2 | ⟨r, hr, e2⟩
                  · exact nR p hp (e.symm.trans e2)
                  · exact hRF p hp r.1 (List.mem_map_of_mem hr) (e.symm.trans e2)
        · intro h9 fr9 su9 fs9 H9
          have HH9 := TT.HeldNA.held H9
          simp only [List.cons_append] at H9
          have hO9 := hO2 fr9 (su.trans su9)
          k_steps
          rw [if_neg (by rw [hq]; decide)] at he
          refine ksw_end ⟨pre, cas, cms ++ [x], m1 + 1, m2, m3 + 1, fr9⟩ (by k_asm) (by k_asm) (fun p hp => hp) trivial (fun _ hp => nomatch hp) (fun z _ hz => map_item z hz) ⟨he, hpre, ra', by simpa using hzp.2.2, hz2', su.trans su9, fs9⟩ (by simp)
      · rename cas.any _ = true => hq
        rw [if_pos hq] at he
        refine ksw_end ⟨pre, cas.eraseP (fun y => decide (v y = v x)), cms, m1 + 1, _, m3, fr⟩ (by k_asm) (by k_asm) (fun p hp => hp) trivial (fun _ hp => nomatch hp) (fun z _ hz => map_item z hz) ⟨he, hpre, fun b hb => ra' b (List.mem_of_mem_eraseP hb), by simp; omega, Nat.le_trans (List.length_eraseP_le) hz2', su, fs⟩ (by simp)
end
end Mine
namespace Mine
section
variable {prog : Program} {w : World} {A : Around} {E : Value → Shared → Prop} {s : Shared} {env : Env} {h₀ : Heap} {x : Str} {body : List Stmt} {Q : Flow → Shared → Prop}
def TurnEnd (h₀ : Heap) (L I : Addr) (oI : Obj) (J : (Str → Option Value) → List (Addr × Obj) → Prop) (s₁ s₂ : Shared) : Prop :=
  ∃ h' tk m' news', s₂ = { s₁ with heap := h', toks := tk } ∧ Fr h₀ L h' m' ∧ News h₀ L h' ((I, oI) :: news') ∧ (∀ p ∈ news', p.1 ≠ I) ∧ J m' news'
def TurnPost (h₀ : Heap) (L I : Addr) (oI : Obj) (J : (Str → Option Value) → List (Addr × Obj) → Prop) (s₁ : Shared) (Q : Flow → Shared → Prop) (f : Flow) (s₂ : Shared) : Prop :=
  match f with
  | .ret v => Q (.ret v) s₂
  | .brk => Q .next s₂
  | _ => TurnEnd h₀ L I oI J s₁ s₂
theorem TurnEnd.intro {L I : Addr} {oI : Obj} {J : (Str → Option Value) → List (Addr × Obj) → Prop} {s₁ : Shared} {h' : Heap} {tk : Nat} {m' : Str → Option Value} (news' : List (Addr × Obj)) (F : Fr h₀ L h' m') (N : News h₀ L h' ((I, oI) :: news')) (hI : ∀ p ∈ news', p.1 ≠ I) (hj : J m' news') :
    TurnEnd h₀ L I oI J s₁ { s₁ with heap := h', toks := tk } := ⟨h', tk, m', news', rfl, F, N, hI, hj⟩
/-- a for over a list of the ground, whatever it holds -/
theorem iter_any {l : Addr} {vs : List Value} {m₀ : Str → Option Value} {news : List (Addr × Obj)} (J : Nat → (Str → Option Value) → List (Addr × Obj) → Prop)
    (hh : A.handled = none) (hl : h₀.IsList l vs.toArray) (F : Fr h₀ env.locals s.heap m₀) (N : News h₀ env.locals s.heap news) (hj : J 0 m₀ news)
    (turn : ∀ i u m₁ news₁ h tk I oI, vs[i]? = some u → J i m₁ news₁ → (∀ p ∈ news₁, p.1 ≠ I) → Fr h₀ env.locals h (fun y => if y = x then some u else m₁ y) → News h₀ env.locals h ((I, oI) :: news₁) →
      wpAny (model prog w) A (execs body env) (TurnPost h₀ env.locals I oI (J (i + 1)) { s with heap := h, toks := tk } Q) E { s with heap := h, toks := tk })
    (done : ∀ m₁ news₁ h tk, J vs.length m₁ news₁ → Fr h₀ env.locals h m₁ → News h₀ env.locals h news₁ → Q .next { s with heap := h, toks := tk }) :
    wpAny (model prog w) A (pyIter (.ref l)) (fun it s₂ => LoopAtV prog w A h₀ env x body Q E it s₂) E s := by
  have hls : s.heap.IsList l vs.toArray := hl.at fun o e => F.keep l o e
  obtain ⟨ol, hol, _⟩ := id hl
  have hlt : l < h₀.objs.size := Heap.lt_size hol
  have hne : l ≠ s.heap.objs.size := Nat.ne_of_lt (Nat.lt_trans (Nat.lt_of_lt_of_le hlt F.above) F.ns.lt)
  refine wpAny_pyIter_list hls ?_
  have W := Walks.list (prog := prog) (w := w) hh s.heap.objs.size l hne vs.toArray
  have hlen : vs.toArray.size = vs.length := by simp
  rw [hlen] at W
  refine ⟨_, _, _, vs.length, _, _, m₀, news, J, rfl, W, ?_, ?_, ?_, ⟨⟨_, Heap.get?_push_size _ rfl, rfl, rfl⟩, hls.at fun o e => Heap.get?_push_of_some _ e⟩, F.push _, (fun p hp => ⟨Heap.get?_push_of_some _ (N p hp).1, (N p hp).2⟩), hj, ?_, ?_⟩
  · intro hm
    rcases List.mem_cons.mp hm with e | hm
    · exact absurd F.ns.lt (e ▸ Nat.lt_irrefl _)
    · exact absurd (Nat.lt_of_lt_of_le hlt F.above) ((List.mem_singleton.mp hm) ▸ Nat.lt_irrefl _)
  · intro b hb
    rw [List.mem_singleton.mp hb]
    exact next_is_new F
  · intro p hp hI
    exact absurd (Heap.lt_size (N p hp).1) ((List.mem_singleton.mp hI) ▸ Nat.lt_irrefl _)
  · rintro i v m₁ news₁ s₁ own ⟨hh', tk', rfl⟩ hin hP hJ hoff hown hget _ hst F₁ N₁
    obtain ⟨oI, hI, _⟩ := hst.1
    have hI0 : h₀.get? s.heap.objs.size = none := next_is_new F
    have hIL : s.heap.objs.size ≠ env.locals := Nat.ne_of_gt F.ns.lt
    have hownI : ∀ p ∈ own, p = (s.heap.objs.size, oI) := fun p hp => by
      rcases List.mem_cons.mp (hown p hp) with e | e
      · have := hget p hp
        rw [e] at this
        have e2 := hI.symm.trans this
        rw [show p = (p.1, p.2) from rfl, e, Option.some.inj e2]
      · have h3 := (N₁ p (List.mem_append_left _ hp)).2.2
        rw [List.mem_singleton.mp e, hol] at h3
        cases h3
    have N₂ : News h₀ env.locals hh' ((s.heap.objs.size, oI) :: news₁) := fun p hp => by
      rcases List.mem_cons.mp hp with rfl | hp
      · exact ⟨hI, hIL, hI0⟩
      · exact N₁ p (List.mem_append_right _ hp)
    refine wpAny_mono (turn i v m₁ news₁ hh' tk' _ oI (by simpa using hP) hJ (fun p hp e => hoff p hp (by rw [e]; exact .head _)) F₁ N₂) (fun f s₂ p => ?_) fun _ _ e => e
    have fin : TurnEnd h₀ env.locals s.heap.objs.size oI (J (i + 1)) { s with heap := hh', toks := tk' } s₂ → LoopStepU h₀ env.locals [s.heap.objs.size] own (J (i + 1)) { s with heap := hh', toks := tk' } .next s₂ := by
      rintro ⟨h', tk, m', news', e, F', N', ho, hm⟩
      refine ⟨rfl, h', tk, m', news', e, F', fun p hp => ?_, fun p hp hq => ho p hp (List.mem_singleton.mp hq), hm⟩
      rcases List.mem_append.mp hp with hp | hp
      · rw [hownI p hp]; exact N' _ (.head _)
      · exact N' p (.tail _ hp)
    cases f with
    | ret v => exact .ret p
    | brk => exact .brk p
    | next => exact .next (fin p)
    | cont => exact .cont (fin p)
  · rintro h' tk m' news' F' N' _ hJ
    exact done m' news' h' tk hJ F' N'
end
end Mine
namespace Mine
section
variable {prog : Program} {w : World} {A : Around} {E : Value → Shared → Prop} {s : Shared} {env : Env} {h₀ : Heap} {x : Str} {body : List Stmt} {Q : Flow → Shared → Prop}
theorem iter_cnt {l : Addr} {vs : List Value} {m₀ : Str → Option Value} {news : List (Addr × Obj)} {y : Str} {t₀ : Tok} (c : Nat → Int)
    (hh : A.handled = none) (hl : h₀.IsList l vs.toArray) (F : Fr h₀ env.locals s.heap m₀) (N : News h₀ env.locals s.heap news) (hy : m₀ y = some (.int (c 0) t₀)) (hyx : y ≠ x)
    (turn : ∀ i u ta h tk I oI, vs[i]? = some u → (∀ p ∈ news, p.1 ≠ I) → Fr h₀ env.locals h (fun z => if z = x then some u else if z = y then some (.int (c i) ta) else m₀ z) → News h₀ env.locals h ((I, oI) :: news) →
      wpAny (model prog w) A (execs body env) (TurnPost h₀ env.locals I oI (fun m' nx => nx = news ∧ (∃ t', m' y = some (.int (c (i + 1)) t')) ∧ ∀ z, z ≠ x → z ≠ y → m' z = m₀ z) { s with heap := h, toks := tk } Q) E { s with heap := h, toks := tk })
    (done : ∀ (u : Str → Option Value) t h tk, Fr h₀ env.locals h (fun z => if z = x then u z else if z = y then some (.int (c vs.length) t) else m₀ z) → News h₀ env.locals h news → Q .next { s with heap := h, toks := tk }) :
    wpAny (model prog w) A (pyIter (.ref l)) (fun it s₂ => LoopAtV prog w A h₀ env x body Q E it s₂) E s := by
  refine iter_any (fun i m nx => nx = news ∧ (∃ t', m y = some (.int (c i) t')) ∧ ∀ z, z ≠ x → z ≠ y → m z = m₀ z) hh hl F N ⟨rfl, ⟨t₀, hy⟩, fun _ _ _ => rfl⟩ ?_ ?_
  · rintro i u m₁ news₁ h tk I oI hu ⟨rfl, ⟨ta, ha⟩, hm⟩ hI F₁ N₁
    have e : (fun z => if z = x then some u else m₁ z) = fun z => if z = x then some u else if z = y then some (Value.int (c i) ta) else m₀ z := by
      funext z
      by_cases h1 : z = x
      · simp [h1]
      · simp only [if_neg h1]
        by_cases h2 : z = y
        · subst h2; simp [ha]
        · simp only [if_neg h2]; exact hm z h1 h2
    rw [e] at F₁
    exact turn i u ta h tk I oI hu hI F₁ N₁
  · rintro m₁ news₁ h tk ⟨rfl, ⟨t, ha⟩, hm⟩ F₁ N₁
    refine done m₁ t h tk ?_ N₁
    have e : (fun z => if z = x then m₁ z else if z = y then some (Value.int (c vs.length) t) else m₀ z) = m₁ := by
      funext z
      by_cases h1 : z = x
      · simp [h1]
      · simp only [if_neg h1]
        by_cases h2 : z = y
        · subst h2; simp [ha]
        · simp only [if_neg h2]; exact (hm z h1 h2).symm
    rw [e]; exact F₁
end
def cnt (v : Addr → Pt) (x : Addr) (hs : List Addr) : Nat := hs.countP (fun y => decide (v y = v x))
theorem cmp_is {prog : Program} {w : World} {A : Around} {E : Value → Shared → Prop} {s : Shared} {a b : Addr} {x y : Pt} {Q : Value → Shared → Prop} (ha : RowAt s.heap a x) (hb : RowAt s.heap b y) (h : Q (.bool (decide (a = b))) s) : wpAny (model prog w) A (compareOp .Is (.ref a) (.ref b)) Q E s := by
  by_cases e : a = b
  · subst e
    exact wpAny_is_ref_self (by simpa using h)
  · obtain ⟨_, _, oa, h1, c1, _⟩ := ha
    obtain ⟨_, _, ob, h2, _⟩ := hb
    exact wpAny_is_ref_other e h1 h2 (by rw [c1]; decide) (by simpa [e] using h)
theorem cnt_take {v : Addr → Pt} {x b : Addr} {hs : List Addr} {i : Nat} (hb : hs[i]? = some b) : cnt v x (hs.take (i + 1)) = cnt v x (hs.take i) + (if v b = v x then 1 else 0) := by
  unfold cnt
  rw [List.take_add_one, hb, List.countP_append]
  by_cases h : v b = v x <;> simp [h]
local macro_rules | `(tactic| k_room) => `(tactic| ktr_room)
local macro_rules | `(tactic| k_units) => `(tactic| ktr_units)
local macro_rules | `(tactic| ktr_rel) => `(tactic| first | (with_reducible assumption) | (refine' RowAt.keeps ?kx (Fr.keep ?ky); (case ky => with_reducible assumption); (case kx => ktr_rel)))
local macro_rules | `(tactic| walk_at "compareOp Eq ref") => `(tactic| (k_here; (with_reducible show wpAny _ _ (compareOp CmpOp.Eq (Value.ref _) (Value.ref _)) _ _ _); k_dflt (refine' cmp_eq ?k2 ?k3 ?k4 ?_; (case k2 => ktr_rel); (case k3 => ktr_rel); (case k4 => k_units); k_whole)))
local macro_rules | `(tactic| walk_at "compareOp Is ref") => `(tactic| (k_here; (with_reducible show wpAny _ _ (compareOp CmpOp.Is (Value.ref _) (Value.ref _)) _ _ _); k_dflt (refine' cmp_is ?k2 ?k3 ?_; (case k2 => ktr_rel); (case k3 => ktr_rel); k_whole)))
section
variable (w : World) {mean : ExcName → Option Value} {mg mb : Str → Option Value} {dp un : Nat} {gd : Option (List Code)} {cn : Str} {cs : Scope} {a : Addr} {ccd : Value} {cl : List (Str × Addr)} {outer : List Env} {h₀ : Heap} {L : Addr} {m : Str → Option Value} {news : List (Addr × Obj)} {s : Shared}
    {Q E : Value → Shared → Prop} {H x : Addr} {n : Nat} {v : Addr → Pt} {hs : List Addr}
theorem countOf_K
    (F : Fr h₀ L s.heap m) (X : (Mine.hd.heap_39 w.params).In h₀) (N : News h₀ L s.heap news) (hm : (H, listOf (refs hs) n) ∈ news) (T : Top Mine.hd.view_39 (looseW Mine.hd.view_39 []) mean mg mb h₀)
    (hl : hs.length ≤ 64) (r : ∀ b ∈ hs, RowAt h₀ b (v b)) (rx : RowAt h₀ x (v x)) (hd : dp + 8 < recursionLimit) (hu : un + 100 < cLine)
    (ret : ∀ h' tk' t, Fr h₀ L h' m → News h₀ L h' news → Q (.int (cnt v x hs : Nat) t) { s with heap := h', toks := tk' }) :
    wpAny (model PySem.Challenge.rw_ny0078_01.row.prog w) (ktrTop dp un gd cn cs L a ccd cl outer) (call (.ref 56) [.ref H, .ref x]) Q E s := by
  revert X; k_fill; intro X
  have N0 : News h₀ L s.heap [] := News.nil
  refine wpAny_call ?_
  k_dflt (refine' code_def2 F X N0 T ?k6 ?k7 ?k8 ?k9 ?kB ?_ ?c2 ?c3 ?c4 ?c5; (case k6 => k_is); (case k7 => k_is); (case k8 => k_room); (case k9 => exact BindsTo.of_eq rfl); (case c5 => decide); (case kB => exact locs rfl); (case c2 => exact rfl); (case c3 => exact rfl); (case c4 => exact rfl); k_whole; intro g' L' h' FG' F' N' X' T' kp'; (try dsimp only); (try k_fold))
  repeat' ((fail_if_success with_reducible show wpAny _ _ (exec (Stmt.For _ _ _ _ _) _) _ _ _); first | (k_unfold; (try dsimp only)) | (k_end; wrow_close) | walk1 | (dsimp only; walk1) | (leave1; try dsimp only))
  have hlst : g'.IsList H (hs.map Value.ref).toArray := ⟨_, kp' _ _ (N.get hm) (by simp), rfl, _, rfl⟩
  have r' : ∀ b ∈ hs, RowAt g' b (v b) := fun b hb => (r b hb).keeps FG'.keep
  have rx' : RowAt g' x (v x) := rx.keeps FG'.keep
  rename Fr g' _ _ _ => F1
  rename News g' _ _ _ => N1
  refine For_invV g' rfl rfl ?_
  repeat' ((fail_if_success with_reducible show wpAny _ _ (pyIter _) _ _ _); first | (k_unfold; (try dsimp only)) | walk1)
  refine iter_cnt (y := Str.ofString "count") (fun i => ((cnt v x (hs.take i) : Nat) : Int)) rfl hlst F1 N1 rfl (by decide) ?_ ?_
  · intro i u ta h tk I oI hi hI F2 N2
    obtain ⟨b, hb, rfl⟩ : ∃ b, hs[i]? = some b ∧ u = .ref b := by
      rw [List.getElem?_map] at hi
      cases hq : hs[i]? with
      | none => rw [hq] at hi; cases hi
      | some b => rw [hq] at hi; exact ⟨b, rfl, by simpa using hi.symm⟩
    have rb := r' b (List.mem_of_getElem? hb)
    clear F1 N1
    k_steps
    all_goals first
      | (have hc : v b = v x := by first | assumption | exact congrArg v (by assumption)
         exact TurnEnd.intro [] (by assumption) (by assumption) (fun _ hp => nomatch hp) ⟨rfl, ⟨_, by show some (Value.int ((cnt v x (hs.take i) : Nat) + 1 : Int) _) = _; rw [cnt_take hb, if_pos hc]; rfl⟩, fun z h1 h2 => by simp [h1, h2]⟩)
      | (have hc : ¬ v b = v x := by assumption
         exact TurnEnd.intro [] (by assumption) (by assumption) (fun _ hp => nomatch hp) ⟨rfl, ⟨_, by show some (Value.int ((cnt v x (hs.take i) : Nat) : Int) _) = _; rw [cnt_take hb, if_neg hc]; rfl⟩, fun z h1 h2 => by simp [h1, h2]⟩)
  · intro u t h tk F2 N2
    clear F1 N1
    k_steps
    have e : hs.take (hs.map Value.ref).length = hs := by simp
    rw [e]
    exact ret _ _ _ (by assumption) (fun p hp => ⟨F2.keep _ _ (kp' _ _ (N p hp).1 (by simp)), (N p hp).2⟩)
end
end Mine
namespace Mine
/-- the tree of the sort's questions, answered by c: its end is as Q says -/
def KOk (n : Nat) (c : Nat → Nat → Bool) {α : Type} (Q : α → Prop) : KasT α → Prop
  | .ret a => Q a
  | .ask i j k => i < n ∧ j < n ∧ KOk n c Q (k (c i j))
theorem KOk.mono {n : Nat} {c : Nat → Nat → Bool} {α : Type} {Q Q' : α → Prop} (hq : ∀ a, Q a → Q' a) : ∀ {t : KasT α}, KOk n c Q t → KOk n c Q' t
  | .ret _, h => hq _ h
  | .ask _ _ _, ⟨h1, h2, h3⟩ => ⟨h1, h2, KOk.mono hq h3⟩
theorem KOk.bind {n : Nat} {c : Nat → Nat → Bool} {α β : Type} {Q : β → Prop} {f : α → KasT β} : ∀ {t : KasT α}, KOk n c (fun a => KOk n c Q (f a)) t → KOk n c Q (t.bind f)
  | .ret _, h => h
  | .ask _ _ _, ⟨h1, h2, h3⟩ => ⟨h1, h2, KOk.bind h3⟩
theorem kas_of {n : Nat} {c : Nat → Nat → Bool} {cmp : Nat → Nat → (Bool → Shared → Prop) → Shared → Prop} {s : Shared} (hc : ∀ i j C, i < n → j < n → C (c i j) s → cmp i j C s)
    {α : Type} {Q : α → Prop} {Q' : α → Shared → Prop} (hq : ∀ a, Q a → Q' a s) : ∀ {t : KasT α}, KOk n c Q t → t.kasWp cmp Q' s
  | .ret _, h => hq _ h
  | .ask _ _ _, ⟨h1, h2, h3⟩ => hc _ _ _ h1 h2 (kas_of hc hq h3)
section
variable {n : Nat} (k : Nat → Int)
def kc (i j : Nat) : Bool := decide (k i < k j)
def KA (p : Array Nat) (i : Nat) : Int := k (p.getD i 0)
def PB (n : Nat) (p : Array Nat) : Prop := p.Perm (List.range n).toArray
variable {k}
theorem PB.size {p : Array Nat} (h : PB n p) : p.size = n := by have := Array.Perm.size_eq h; simpa using this
theorem PB.lt {p : Array Nat} (h : PB n p) {i : Nat} (hi : i < n) : p.getD i 0 < n := by
  have hs := h.size
  have hm : p.getD i 0 ∈ p := by
    rw [Array.getD_eq_getD_getElem?, Array.getElem?_eq_getElem (by omega)]; simp
  have := (Array.Perm.mem_iff h).mp hm
  simpa using this
theorem KA_congr {p q : Array Nat} {i j : Nat} (h : p[i]? = q[j]?) : KA k p i = KA k q j := by unfold KA; rw [Array.getD_eq_getD_getElem?, Array.getD_eq_getD_getElem?, h]
theorem PB.rev {p : Array Nat} (h : PB n p) (i j : Nat) : PB n (kas_rev p i j) := (mirror_perm p i j _).trans h
theorem PB.bub {p : Array Nat} (h : PB n p) (i j : Nat) : PB n (bubble p i j) := (bubble_perm p i j).trans h
theorem KA_rev {p : Array Nat} {i j : Nat} (hj : j ≤ p.size) (x : Nat) : KA k (kas_rev p i j) x = if i ≤ x ∧ x < j then KA k p (i + j - 1 - x) else KA k p x := by
  have e := getElem?_mirror_all (xs := p) (i := i) hj x
  unfold kas_rev
  by_cases h : i ≤ x ∧ x < j
  · rw [if_pos h] at e ⊢; exact KA_congr e
  · rw [if_neg h] at e ⊢; exact KA_congr e
theorem KA_bub {p : Array Nat} {src d : Nat} (hs : src < p.size) (hd : d ≤ src) (x : Nat) : KA k (bubble p src d) x = if x = src - d then KA k p src else if src - d < x ∧ x ≤ src then KA k p (x - 1) else KA k p x := by
  have e := getElem?_bubble hs d hd x
  by_cases h1 : x = src - d
  · rw [if_pos h1] at e ⊢; exact KA_congr e
  · rw [if_neg h1] at e ⊢
    by_cases h2 : src - d < x ∧ x ≤ src
    · rw [if_pos h2] at e ⊢; exact KA_congr e
    · rw [if_neg h2] at e ⊢; exact KA_congr e
def Asc (k : Nat → Int) (p : Array Nat) (m : Nat) : Prop := ∀ i j, i ≤ j → j < m → KA k p i ≤ KA k p j
def Dsc (k : Nat → Int) (p : Array Nat) (m : Nat) : Prop := ∀ i j, i ≤ j → j < m → KA k p j ≤ KA k p i
theorem Asc.one (p : Array Nat) : Asc k p 1 := fun i j h1 h2 => by
  have : i = j := by omega
  subst this; exact Int.le_refl _
theorem Dsc.one (p : Array Nat) : Dsc k p 1 := fun i j h1 h2 => by
  have : i = j := by omega
  subst this; exact Int.le_refl _
theorem Asc.step {p : Array Nat} {m : Nat} (h : Asc k p m) (hm : 1 ≤ m) (hx : KA k p (m - 1) ≤ KA k p m) : Asc k p (m + 1) := fun i j h1 h2 => by
  by_cases e : j < m
  · exact h i j h1 e
  · have : j = m := by omega
    subst this
    by_cases e2 : i = j
    · subst e2; exact Int.le_refl _
    · exact Int.le_trans (h i (j - 1) (by omega) (by omega)) hx
theorem Dsc.step {p : Array Nat} {m : Nat} (h : Dsc k p m) (hm : 1 ≤ m) (hx : KA k p m ≤ KA k p (m - 1)) : Dsc k p (m + 1) := fun i j h1 h2 => by
  by_cases e : j < m
  · exact h i j h1 e
  · have : j = m := by omega
    subst this
    by_cases e2 : i = j
    · subst e2; exact Int.le_refl _
    · exact Int.le_trans hx (h i (j - 1) (by omega) (by omega))
theorem asc_ok {p : Array Nat} (hp : PB n p) : ∀ (f a : Nat), 1 ≤ a → a + f ≤ n → Asc k p a → KOk n (kc k) (fun m => a ≤ m ∧ m ≤ a + f ∧ Asc k p m ∧ (m < a + f → KA k p m < KA k p (m - 1))) (kas_asc p f a)
  | 0, a, h1, h2, h3 => ⟨Nat.le_refl _, Nat.le_refl _, h3, fun h => absurd h (Nat.lt_irrefl _)⟩
  | f + 1, a, h1, h2, h3 => by
    refine ⟨hp.lt (by omega), hp.lt (by omega), ?_⟩
    by_cases hc : KA k p a < KA k p (a - 1)
    · have : kc k (p.getD a 0) (p.getD (a - 1) 0) = true := decide_eq_true hc
      rw [this]; simp only [if_true]
      exact ⟨Nat.le_refl _, by omega, h3, fun _ => hc⟩
    · have : kc k (p.getD a 0) (p.getD (a - 1) 0) = false := decide_eq_false hc
      rw [this]; simp only [Bool.false_eq_true, if_false]
      exact (asc_ok hp f (a + 1) (by omega) (by omega) (h3.step h1 (by omega))).mono fun m ⟨a1, a2, a3, a4⟩ => ⟨by omega, by omega, a3, fun h => a4 (by omega)⟩
theorem rev_same {p : Array Nat} {i j : Nat} (hj : j ≤ p.size) (he : ∀ x, i ≤ x → x < j → KA k p x = KA k p (j - 1)) (x : Nat) : KA k (kas_rev p i j) x = KA k p x := by
  rw [KA_rev hj]
  split
  · rename_i h
    rw [he (i + j - 1 - x) (by omega) (by omega), he x h.1 h.2]
  · rfl
def DOk (k : Nat → Int) (n : Nat) (r : Array Nat × Nat × Nat) : Prop := PB n r.1 ∧ r.2.1 ≤ n ∧ r.2.2 < r.2.1 ∧ Dsc k r.1 r.2.1 ∧ ∀ x, r.2.1 - (r.2.2 + 1) ≤ x → x < r.2.1 → KA k r.1 x = KA k r.1 (r.2.1 - 1)
theorem desc_ok : ∀ (f : Nat) (p : Array Nat) (a q : Nat), a + f ≤ n → DOk k n (p, a, q) → KOk n (kc k) (fun r => DOk k n r ∧ a ≤ r.2.1 ∧ r.2.1 ≤ a + f) (kas_desc f p a q)
  | 0, p, a, q, h1, h => ⟨h, Nat.le_refl _, Nat.le_refl _⟩
  | f + 1, p, a, q, h1, h => by
    obtain ⟨hp, ha, hq, hd, he⟩ := id h
    dsimp only at hp ha hq hd he
    have hs := hp.size
    refine ⟨hp.lt (by omega), hp.lt (by omega), ?_⟩
    by_cases hc : KA k p a < KA k p (a - 1)
    · have : kc k (p.getD a 0) (p.getD (a - 1) 0) = true := decide_eq_true hc
      rw [this]; simp only [if_true]
      split
      · have same := rev_same (k := k) (p := p) (i := a - (q + 1)) (j := a) (by omega) he
        refine (desc_ok f (kas_rev p (a - (q + 1)) a) (a + 1) 0 (by omega) ⟨hp.rev (a - (q + 1)) a, by show a + 1 ≤ n; omega, by show 0 < a + 1; omega, ?_, ?_⟩).mono fun r ⟨b1, b2, b3⟩ => ⟨b1, by omega, by omega⟩
        · show Dsc k (kas_rev p (a - (q + 1)) a) (a + 1)
          refine Dsc.step (fun i j h1 h2 => ?_) (by omega) (by rw [same, same]; omega)
          rw [same, same]; exact hd i j h1 h2
        · intro x hx1 hx2
          have : x = a + 1 - 1 := by dsimp only at hx1 hx2; omega
          rw [this]
      · refine (desc_ok f p (a + 1) 0 (by omega) ⟨hp, by show a + 1 ≤ n; omega, by show 0 < a + 1; omega, hd.step (by omega) (by omega), ?_⟩).mono fun r ⟨b1, b2, b3⟩ => ⟨b1, by omega, by omega⟩
        intro x hx1 hx2
        have : x = a + 1 - 1 := by dsimp only at hx1 hx2; omega
        rw [this]
    · have : kc k (p.getD a 0) (p.getD (a - 1) 0) = false := decide_eq_false hc
      rw [this]; simp only [Bool.false_eq_true, if_false]
      refine ⟨hp.lt (by omega), hp.lt (by omega), ?_⟩
      by_cases hc2 : KA k p (a - 1) < KA k p a
      · have : kc k (p.getD (a - 1) 0) (p.getD a 0) = true := decide_eq_true hc2
        rw [this]; simp only [if_true]
        exact ⟨h, Nat.le_refl _, by show a ≤ a + (f + 1); omega⟩
      · have : kc k (p.getD (a - 1) 0) (p.getD a 0) = false := decide_eq_false hc2
        rw [this]; simp only [Bool.false_eq_true, if_false]
        refine (desc_ok f p (a + 1) (q + 1) (by omega) ⟨hp, by show a + 1 ≤ n; omega, by show q + 1 < a + 1; omega, hd.step (by omega) (by omega), ?_⟩).mono fun r ⟨b1, b2, b3⟩ => ⟨b1, by omega, by omega⟩
        intro x hx1 hx2
        dsimp only at hx1 hx2 ⊢
        have e0 : a + 1 - 1 = a := by omega
        rw [e0]
        by_cases hx : x = a
        · rw [hx]
        · rw [he x (by omega) (by omega)]; omega
def COk (k : Nat → Int) (n : Nat) (r : Nat × Array Nat) : Prop := PB n r.2 ∧ 1 ≤ r.1 ∧ r.1 ≤ n ∧ Asc k r.2 r.1
theorem tail3_ok {p : Array Nat} {a : Nat} (hp : PB n p) (h1 : 1 ≤ a) (ha : a ≤ n) (hd : Dsc k p a) : KOk n (kc k) (COk k n) (kas_tail3 a n p) := by
  refine KOk.bind ((asc_ok (hp.rev 0 a) (n - a) a h1 (by omega) ?_).mono fun m ⟨b1, b2, b3, _⟩ => ⟨hp.rev 0 a, by show 1 ≤ m; omega, by show m ≤ n; omega, b3⟩)
  intro i j hij hj
  rw [KA_rev (by rw [hp.size]; exact ha), KA_rev (by rw [hp.size]; exact ha), if_pos ⟨Nat.zero_le _, by omega⟩, if_pos ⟨Nat.zero_le _, hj⟩]
  exact hd _ _ (by omega) (by omega)
theorem descPart_ok {p : Array Nat} {a : Nat} (hp : PB n p) (ha : a + 1 ≤ n) (hd : Dsc k p (a + 1)) : KOk n (kc k) (COk k n) (kas_descPart a n p) := by
  refine KOk.bind ((desc_ok (n - (a + 1)) p (a + 1) 0 (by omega) ⟨hp, ha, by show 0 < a + 1; omega, hd, ?_⟩).mono ?_)
  · intro x hx1 hx2
    have : x = a + 1 - 1 := by dsimp only at hx1 hx2; omega
    rw [this]
  · rintro ⟨p', a', q'⟩ ⟨⟨b1, b2, b3, b4, b5⟩, b6, b7⟩
    dsimp only at b1 b2 b3 b4 b5 b6 b7 ⊢
    split
    · have same := rev_same (k := k) (p := p') (i := a' - (q' + 1)) (j := a') (by rw [b1.size]; exact b2) b5
      refine tail3_ok (p := kas_rev p' (a' - (q' + 1)) a') (b1.rev _ _) (by omega) b2 fun i j h1 h2 => ?_
      rw [same, same]; exact b4 i j h1 h2
    · exact tail3_ok b1 (by omega) b2 b4
theorem count_ok {p : Array Nat} (hp : PB n p) (h1 : 1 ≤ n) : KOk n (kc k) (COk k n) (kas_count n p) := by
  refine KOk.bind ((asc_ok hp (n - 1) 1 (Nat.le_refl _) (by omega) (Asc.one p)).mono ?_)
  rintro m ⟨b1, b2, b3, b4⟩
  by_cases hm : m = n
  · subst hm
    simp only [beq_self_eq_true, if_true]
    exact ⟨hp, b1, Nat.le_refl _, b3⟩
  · have hb : (m == n) = false := by simpa using hm
    have hlt := b4 (by omega)
    simp only [hb, Bool.false_eq_true, if_false]
    split
    · refine ⟨hp.lt (by omega), hp.lt (by omega), ?_⟩
      by_cases hc : KA k p 0 < KA k p (m - 1)
      · have : kc k (p.getD 0 0) (p.getD (m - 1) 0) = true := decide_eq_true hc
        rw [this]; simp only [if_true]
        exact ⟨hp, b1, by show m ≤ n; omega, b3⟩
      · have : kc k (p.getD 0 0) (p.getD (m - 1) 0) = false := decide_eq_false hc
        rw [this]; simp only [Bool.false_eq_true, if_false]
        have eqs : ∀ x, 0 ≤ x → x < m → KA k p x = KA k p (m - 1) := fun x _ hx => by
          have q1 := b3 0 x (Nat.zero_le _) hx
          have q2 := b3 x (m - 1) (by omega) (by omega)
          omega
        have same := rev_same (k := k) (p := p) (i := 0) (j := m) (by rw [hp.size]; omega) eqs
        refine descPart_ok (p := kas_rev p 0 m) (hp.rev _ _) (by omega) (Dsc.step (fun i j h1 h2 => ?_) (by omega) (by rw [same, same]; omega))
        rw [same, same, eqs i (Nat.zero_le _) (by omega), eqs j (Nat.zero_le _) h2]
        exact Int.le_refl _
    · have : m = 1 := by omega
      subst this
      exact descPart_ok hp (by omega) (Dsc.step (Dsc.one p) (by omega) (by omega))
theorem place_ok {p : Array Nat} {a : Nat} (hp : PB n p) (ha : a < n) (hs : Asc k p a) : ∀ (f l r : Nat), l ≤ r → r ≤ a → r - l ≤ f → (∀ i, i < l → KA k p i ≤ KA k p a) → (∀ i, r ≤ i → i < a → KA k p a < KA k p i) →
    KOk n (kc k) (fun l' => l' ≤ a ∧ (∀ i, i < l' → KA k p i ≤ KA k p a) ∧ ∀ i, l' ≤ i → i < a → KA k p a < KA k p i) (kas_place p a f l r)
  | 0, l, r, h1, h2, h3, h4, h5 => ⟨by omega, h4, fun i hi => h5 i (by omega)⟩
  | f + 1, l, r, h1, h2, h3, h4, h5 => by
    unfold kas_place
    split
    · exact ⟨by omega, h4, fun i hi => h5 i (by omega)⟩
    · refine ⟨hp.lt ha, hp.lt (by omega), ?_⟩
      by_cases hc : KA k p a < KA k p ((l + r) / 2)
      · have : kc k (p.getD a 0) (p.getD ((l + r) / 2) 0) = true := decide_eq_true hc
        rw [this]; simp only [if_true]
        refine place_ok hp ha hs f l _ (by omega) (by omega) (by omega) h4 fun i hi hia => ?_
        have := hs ((l + r) / 2) i hi hia
        omega
      · have : kc k (p.getD a 0) (p.getD ((l + r) / 2) 0) = false := decide_eq_false hc
        rw [this]; simp only [Bool.false_eq_true, if_false]
        refine place_ok hp ha hs f _ r (by omega) h2 (by omega) (fun i hi => ?_) h5
        have := hs i ((l + r) / 2) (by omega) (by omega)
        omega
theorem bin_ok : ∀ (f : Nat) (p : Array Nat) (a : Nat), PB n p → a + f ≤ n → Asc k p a → KOk n (kc k) (fun p' => PB n p' ∧ Asc k p' (a + f)) (kas_bin f p a)
  | 0, p, a, hp, _, h => ⟨hp, h⟩
  | f + 1, p, a, hp, h1, h => by
    refine KOk.bind ((place_ok hp (by omega) h a 0 a (Nat.zero_le _) (Nat.le_refl _) (by omega) (fun i hi => absurd hi (Nat.not_lt_zero _)) (fun i hi hi2 => by omega)).mono ?_)
    rintro l ⟨b1, b2, b3⟩
    have hb := fun x => KA_bub (k := k) (p := p) (src := a) (d := a - l) (by rw [hp.size]; omega) (by omega) x
    have e : a - (a - l) = l := by omega
    rw [e] at hb
    refine (bin_ok f _ (a + 1) (hp.bub _ _) (by omega) ?_).mono fun p' ⟨c1, c2⟩ => ⟨c1, (show a + 1 + f = a + (f + 1) from by omega) ▸ c2⟩
    intro i j hij hj
    rw [hb, hb]
    by_cases i1 : i = l
    · rw [if_pos i1]
      by_cases j1 : j = l
      · rw [if_pos j1]; exact Int.le_refl _
      · rw [if_neg j1, if_pos ⟨by omega, by omega⟩]
        have := b3 (j - 1) (by omega) (by omega); omega
    · rw [if_neg i1]
      by_cases i2 : l < i ∧ i ≤ a
      · rw [if_pos i2, if_neg (show ¬ j = l by omega), if_pos ⟨by omega, by omega⟩]
        exact h _ _ (by omega) (by omega)
      · rw [if_neg i2]
        by_cases j1 : j = l
        · rw [if_pos j1]; exact b2 i (by omega)
        · rw [if_neg j1]
          by_cases j2 : l < j ∧ j ≤ a
          · rw [if_pos j2]
            exact h _ _ (by omega) (by omega)
          · rw [if_neg j2]; exact h _ _ hij (by omega)
theorem sort_ok (h1 : 1 ≤ n) : KOk n (kc k) (fun p => PB n p ∧ Asc k p n) (kas_sort n) := by
  refine KOk.bind ((count_ok (Array.Perm.refl _) h1).mono ?_)
  rintro ⟨m, p⟩ ⟨b1, b2, b3, b4⟩
  dsimp only at b1 b2 b3 b4 ⊢
  split
  · have e : max m 1 = m := by omega
    rw [e]
    refine (bin_ok (n - m) p m b1 (by omega) b4).mono fun p' ⟨c1, c2⟩ => ⟨c1, (show m + (n - m) = n from by omega) ▸ c2⟩
  · have : m = n := by omega
    subst this
    exact ⟨b1, b4⟩
end
end Mine
namespace Mine
section
variable {prog : Program} {w : World} {A : Around} {E : Value → Shared → Prop} {s : Shared}
theorem sort_short {a : Addr} {vs : List Value} {n : Nat} {P : PySem.Fin → Shared → Prop} (ho : s.heap.get? a = some (seqObj "list" vs.toArray n)) (h2 : vs.length < 2)
    (h : P (.done (.ret .none)) { s with heap := sortedHeap s.heap a vs vs.toArray }) :
    wpAny (model prog w) A (Builtin.«list.sort» ⟨[.ref a], []⟩) P E s := by
  rw [list_sort_plain]
  have ha : a < s.heap.objs.size := Heap.lt_size ho
  have hsz : vs.toArray.size < 2 := by simpa using h2
  refine wpAny_bind (listItems_at ho rfl ?_)
  refine wpAny_bind (listUpdate_at ho rfl ?_ (by rw [sizeLine_eq]; omega) (Nat.zero_le _))
  obtain ⟨e1, ho1⟩ : ∃ e1, (s.heap.update a (Obj.mapSeq fun _ => #[])).get? a = some (seqObj "list" #[] e1) := ⟨_, get?_update_seq ho (fun _ => #[])⟩
  refine wpAny_bind (seqEpoch_at ho1 rfl ?_)
  refine wpAny_bind (wpAny_newTuple ?_ (by show vs.length ≤ _; rw [sizeLine_eq]; omega))
  refine wpAny_bind (wpAny_newList ?_ (Nat.zero_le _))
  refine wpAny_holding ?_
  have ho6 : (((s.heap.update a (Obj.mapSeq fun _ => #[])).push (seqObj "tuple" vs.toArray 0)).push (seqObj "list" #[] 0)).get? a = some (seqObj "list" #[] e1) := by
    rw [Heap.get?_push_ne _ _ _ (by rw [size_push', Heap.size_update]; exact Nat.ne_of_lt (Nat.lt_succ_of_lt ha)), Heap.get?_push_ne _ _ _ (by rw [Heap.size_update]; exact Nat.ne_of_lt ha)]
    exact ho1
  show wpAny (model prog w) A _ P E { s with heap := ((s.heap.update a (Obj.mapSeq fun _ => #[])).push (seqObj "tuple" vs.toArray 0)).push (seqObj "list" #[] 0) }
  dsimp only
  rw [if_pos hsz, if_pos hsz]
  refine wpAny_bind (wpAny_pure ?_)
  rw [StateT.run_pure]
  refine wpAny_bind (wpAny_pure ?_)
  dsimp only
  have hout : (arrOf (SortSt.mk' general' (vs.toArray.zip vs.toArray) #[] 7 none)).map (·.2) = vs.toArray := by
    show (vs.toArray.zip vs.toArray).map (·.2) = vs.toArray
    apply Array.toList_inj.mp
    match vs, h2 with
    | [], _ => simp
    | [x], _ => simp
  refine wpAny_bind (seqEpoch_at ho6 rfl ?_)
  refine wpAny_bind (listUpdate_at ho6 rfl ?_ (Nat.zero_le _) (by rw [hout, sizeLine_eq]; omega))
  simp only [bne_self_eq_false, Bool.false_eq_true, if_false]
  rw [hout]
  exact wpAny_pure h
theorem sorted_short {l : Addr} {vs : List Value} {Q : Value → Shared → Prop} (hl : s.heap.IsList l vs.toArray) (h2 : vs.length < 2)
    (h : Q (.ref (s.heap.objs.size + 1)) { s with heap := sortedAll s.heap vs vs.toArray }) :
    wpAny (model prog w) A (call (.builtin "sorted") [.ref l]) Q E s := by
  refine Calls.call_function_entry kind_sorted plain_sorted entry_sorted (args_sorted1 _) ?_
  unfold Builtin.«sorted»
  refine wpAny_bind (m := checkCount "sorted" 1 1 _) (wpAny_pure ?_)
  refine wpAny_bind (collect_list hl ?_ (by rw [sizeLine_eq]; omega))
  refine wpAny_bind (wpAny_newList ?_ (by rw [sizeLine_eq]; omega))
  have hsz : ((s.heap.push (seqObj "list" #[] 0)).update s.heap.objs.size (Obj.mapSeq (· ++ vs.toArray))).objs.size = s.heap.objs.size + 1 := by
    rw [Heap.size_update, size_push']
  have hoL : (((s.heap.push (seqObj "list" #[] 0)).update s.heap.objs.size (Obj.mapSeq (· ++ vs.toArray))).push (seqObj "list" vs.toArray 0)).get? (s.heap.objs.size + 1) = some (seqObj "list" vs.toArray 0) := by
    rw [← hsz]; exact Heap.get?_push_size _ rfl
  show wpAny _ _ _ _ _ { s with heap := ((s.heap.push (seqObj "list" #[] 0)).update s.heap.objs.size (Obj.mapSeq (· ++ vs.toArray))).push (seqObj "list" vs.toArray 0) }
  rw [hsz]
  refine wpAny_bind (wpAny_holding (wpAny_call_entry slot_list_sort ⟨_, hoL, rfl⟩ entry_list_sort (sort_short hoL h2 ⟨_, rfl, ?_⟩) (args_list_sort _)))
  exact wpAny_pure ⟨_, rfl, h⟩
end
def key (x : Pt) : Int := 4 * x.1 + x.2
def Bd (x : Pt) : Prop := 0 ≤ x.2 ∧ x.2 < 4
theorem plt_key {x y : Pt} (hx : Bd x) (hy : Bd y) : plt x y = decide (key x < key y) := by
  obtain ⟨a, b⟩ := x
  obtain ⟨c, d⟩ := y
  unfold Bd at hx hy
  dsimp only at hx hy
  unfold plt key
  dsimp only
  split
  · rename_i h
    subst h
    exact decide_eq_decide.mpr ⟨fun _ => by omega, fun _ => by omega⟩
  · exact decide_eq_decide.mpr ⟨fun _ => by omega, fun _ => by omega⟩
theorem key_inj {x y : Pt} (hx : Bd x) (hy : Bd y) (h : key x = key y) : x = y := by
  obtain ⟨a, b⟩ := x
  obtain ⟨c, d⟩ := y
  unfold Bd at hx hy
  unfold key at h
  dsimp only at hx hy h
  have h1 : a = c := by omega
  have h2 : b = d := by omega
  rw [h1, h2]
abbrev kv (v : Addr → Pt) (a : Addr) : Int := key (v a)
def Up (v : Addr → Pt) (l : List Addr) : Prop := l.Pairwise fun a b => kv v a ≤ kv v b
section
variable {prog : Program} {w : World} {A : Around} {E : Value → Shared → Prop} {s : Shared} {h₀ : Heap} {L l : Addr} {m : Str → Option Value} {news : List (Addr × Obj)} {as : List Addr} {v : Addr → Pt}
theorem up_short : ∀ {as : List Addr}, as.length < 2 → Up v as
  | [], _ => List.Pairwise.nil
  | [_], _ => List.pairwise_singleton _ _
  | _ :: _ :: _, h => by simp at h; omega
theorem perm_get (as : List Addr) {p : Array Nat} (hp : PB as.length p) : (p.toList.map fun i => as.getD i 0).Perm as := by
  have h1 : p.toList.Perm (List.range as.length) := by simpa using Array.perm_iff_toList_perm.mp hp
  have h2 := h1.map (fun i => as.getD i 0)
  have h3 : (List.range as.length).map (fun i => as.getD i 0) = as := by
    apply List.ext_getElem
    · simp
    · intro i h1 h2
      simp at h1
      simp [h1]
  rw [h3] at h2
  exact h2
theorem up_get {p : Array Nat} (hp : PB as.length p) (ha : Asc (fun i => kv v (as.getD i 0)) p as.length) : Up v (p.toList.map fun i => as.getD i 0) := by
  have hs := hp.size
  unfold Up
  rw [List.pairwise_iff_getElem]
  intro i j hi hj hij
  simp only [List.length_map, Array.length_toList] at hi hj
  simp only [List.getElem_map, Array.getElem_toList]
  have := ha i j (Nat.le_of_lt hij) (by omega)
  unfold KA at this
  rw [Array.getD_eq_getD_getElem?, Array.getD_eq_getD_getElem?, Array.getElem?_eq_getElem hi, Array.getElem?_eq_getElem hj] at this
  simpa using this
theorem sorted_rows {Q : Value → Shared → Prop} (hB : ∀ a, Bd (v a)) (F : Fr h₀ L s.heap m) (N : News h₀ L s.heap news) (hl : s.heap.IsList l (refs as)) (h64 : as.length < 64) (r : ∀ a ∈ as, RowAt h₀ a (v a)) (hu : A.units + 8 < cLine)
    (h : ∀ D h' n' out, Fr h₀ L h' m → News h₀ L h' ((D, listOf (refs out) n') :: news) → (∀ q ∈ news, q.1 < D) → out.Perm as → Up v out → Q (.ref D) { s with heap := h' }) :
    wpAny (model prog w) A (call (.builtin "sorted") [.ref l]) Q E s := by
  by_cases h2 : as.length < 2
  · refine sorted_short (vs := as.map Value.ref) hl (by simpa using h2) ?_
    obtain ⟨e, he⟩ := sortedAll_at s.heap (as.map Value.ref) (as.map Value.ref).toArray
    have hk : ∀ b o, s.heap.get? b = some o → (sortedAll s.heap (as.map Value.ref) (as.map Value.ref).toArray).get? b = some o := fun b o q => sortedAll_old q
    generalize sortedAll s.heap (as.map Value.ref) (as.map Value.ref).toArray = hh at he hk
    have n1 : s.heap.objs.size + 1 ≠ L := Nat.ne_of_gt (Nat.lt_succ_of_lt F.ns.lt)
    have n2 : h₀.get? (s.heap.objs.size + 1) = none := Heap.get?_none_of_le (Nat.le_trans F.above (Nat.le_succ_of_le (Nat.le_of_lt F.ns.lt)))
    have N' : News h₀ L hh ((s.heap.objs.size + 1, listOf (refs as) e) :: news) := fun p hp => by
      rcases List.mem_cons.mp hp with rfl | hp
      · exact ⟨he, n1, n2⟩
      · exact ⟨hk _ _ (N p hp).1, (N p hp).2⟩
    refine h (s.heap.objs.size + 1) hh e as (F.keeps hk) N' (fun q hq => Nat.lt_succ_of_lt (Heap.lt_size (N q hq).1)) (List.Perm.refl _) (up_short h2)
  · refine kas_sorted (vs := as.map Value.ref) (T := .type "list") F N hl (by simp; omega) (by simpa using h64) (fun h' F' _ u hu => ?_) (by decide) (fun D e1 h' F' N' hlt => ?_)
    · obtain ⟨a, ha, rfl⟩ := List.mem_map.mp hu
      obtain ⟨t, u, o, q, c, _⟩ := (r a ha).keeps F'.keep
      exact kitAt_ty _ _ ⟨o, q, c⟩
    · have hlen : (as.map Value.ref).length = as.length := by simp
      rw [hlen]
      refine kas_of (n := as.length) (c := kc fun i => kv v (as.getD i 0)) ?_ ?_ (sort_ok (by omega))
      · intro i j C hi hj hC
        unfold kas_ask
        have gi : ∀ i, i < as.length → (as.map Value.ref).getD i Value.none = .ref (as.getD i 0) ∧ as.getD i 0 ∈ as := fun i hi => by
          simp [hi]
        rw [(gi i hi).1, (gi j hj).1]
        refine key_lt ((r _ (gi i hi).2).keeps F'.keep) ((r _ (gi j hj).2).keeps F'.keep) (by simp only [Around.in1_units]; omega) ?_
        rw [plt_key (hB _) (hB _)]
        exact hC
      · rintro p ⟨hp, ha⟩
        have eo : (p.toList.map fun i => (as.map Value.ref).getD i Value.none) = (p.toList.map fun i => as.getD i 0).map Value.ref := by
          rw [List.map_map]
          refine List.map_congr_left fun i hi => ?_
          have : i < as.length := by
            have h1 : p.toList.Perm (List.range as.length) := by simpa using Array.perm_iff_toList_perm.mp hp
            simpa using h1.mem_iff.mp hi
          simp [this]
        rw [eo]
        refine KasFin.intro F' N' (.head fun q hq => Nat.ne_of_lt (hlt q hq)) fun h'' c F'' N'' => ?_
        exact h D h'' c _ F'' N'' hlt (perm_get as hp) (up_get hp ha)
end
end Mine
namespace Mine
open PySem.Calls
section
variable {prog : Program} {w : World} {A : Around} {s : Shared} {h₀ : Heap} {L : Addr} {m : Str → Option Value} {K : Frag} {p : Program} {loose : List Str} {mean : ExcName → Option Value} {mg mb : Str → Option Value}
  {R : Result → Shared → Prop} {name qual : Str} {params : Arguments} {body : List Stmt} {scope : Scope} {dV kV doc pm cdv ct oc : Value} {an od : Option Addr} {osl : Array (Option Value)} {f : Addr} {args : Args} {binds : List (Str × Value)}
/-- a def with cells: all that stands is its ground, but what X names -/
theorem code_cells (F : Fr h₀ L s.heap m) (X₀ : K.In h₀) (T : Top p loose mean mg mb h₀) (Y : List Addr) (hY : ∀ b ∈ Y, h₀.get? b = none)
    (ho : K.lookup f = some ⟨oc, od, .func (fnOf name qual params body scope dV kV doc pm an cdv ct), osl⟩) (hcd : codeIn K cdv qual = true) (hroom : A.depth < recursionLimit)
    (hbind : BindsTo s (fnOf name qual params body scope dV kV doc pm an cdv ct) args binds) (hkind : (binds.all fun y => scope.names.lookup y.1 == some .local || scope.names.lookup y.1 == some .cell) = true)
    (hnd : ((cellsFrom 0 scope.names []).map (·.1)).Nodup)
    (h : ∀ g L' h₁ tk cells, (∀ b o, s.heap.get? b = some o → b ∉ Y → g.get? b = some o) → (∀ b o, g.get? b = some o → s.heap.get? b = some o) → (∀ b ∈ Y, g.get? b = none) → (∀ b o, s.heap.get? b = some o → h₁.get? b = some o) → (∀ b o, s.heap.get? b = some o → b < L') →
      Fr g L' h₁ (bindL (envOfC qual scope L' f cdv).kindOf binds fun _ => none) → News g L' h₁ cells →
      CellsAre (bindC (envOfC qual scope L' f cdv).kindOf binds fun _ => none) (cellsFrom (L' + 1) scope.names []) cells → (∀ q ∈ cells, s.heap.get? q.1 = none) → K.In g → Top p loose mean mg mb g →
      wpAny (model prog w) (A.deeper (envOfC qual scope L' f cdv)) (execs body (envOfC qual scope L' f cdv))
        (fun fl s' => R (.ok (.ret (match fl with | .ret v => v | _ => .none))) s')
        (fun e s' => wpAny (model prog w) (A.deeper (envOfC qual scope L' f cdv)) (leaving (envOfC qual scope L' f cdv) e) (fun _ s'' => R (.error e) s'') (fun e' s'' => R (.error e') s'') s')
        { s with heap := h₁, toks := tk })
    (hco : scope.isCoroutine = false) (hgen : scope.isGenerator = false) (hk : scope.kind = .function) : codeAny (model prog w) A (.call (.ref f) args) R s := by
  have st : ∀ b o, h₀.get? b = some o → (hideAll s.heap Y).get? b = some o := fun b o e => hideAll_get _ (F.keep b o e) fun q => by rw [hY b q] at e; cases e
  refine codeAny_call_function hroom ((X₀.keeps F.keep) _ _ ho) rfl hco hgen rfl (codeRec_of (X₀.keeps F.keep) hcd) (hbind _ _ _ _ ?_)
  refine wpAny_newFunctionEnv_cells hk (kindsX hkind _) fun env' he s' x => ?_
  subst he
  refine ⟨(T.nolimit.keeps F.keep).keeps x.toInCall.keep, codeAny_func ?_⟩
  obtain ⟨h₁, tk, rfl, _⟩ := x.done
  have hk₁ := x.toInCall.keep
  obtain ⟨cells, NC, YC⟩ := Cl.news (h₀ := s.heap) (Nat.le_refl _) fun n c hm => ⟨x.cell n c (lookup_of_mem_nodup (cellsFrom_names scope.names 0 (s.heap.objs.size + 1) [] [] rfl ▸ hnd) hm), x.above n c hm⟩
  refine h (hideAll s.heap Y) s.heap.objs.size h₁ tk cells (fun b o e n => hideAll_get _ e n) (fun b o e => of_hideAll _ e) (fun b hb => hideAll_none _ hb) hk₁ (fun b o e => Heap.lt_size e)
    ⟨x.toInCall.ns, fun b o e => hk₁ b o (of_hideAll _ e), Nat.le_of_eq (hideAll_size _ _)⟩ (fun q hq => ⟨(NC q hq).1, (NC q hq).2.1, ?_⟩) YC (fun q hq => (NC q hq).2.2) (X₀.keeps st) (T.keeps st)
  cases e : (hideAll s.heap Y).get? q.1 with
  | none => rfl
  | some o => have := of_hideAll _ e; rw [(NC q hq).2.2] at this; cases this
end
end Mine
namespace Mine
section
variable {prog : Program} {w : World} {A : Around} {E : Value → Shared → Prop} {s : Shared} {env : Env} {h₀ : Heap} {x : Str} {body : List Stmt} {Q : Flow → Shared → Prop}
def StJ {σ : Type} (Led : σ → List (Addr × Obj)) (ps : σ → List (Str × Value)) (stored : List Str) (m₀ : Str → Option Value) (P : σ → Prop) (m' : Str → Option Value) (news' : List (Addr × Obj)) : Prop :=
  ∃ c', news' = Led c' ∧ (∀ p ∈ ps c', m' p.1 = some p.2) ∧ (∀ z, (∀ p ∈ ps c', z ≠ p.1) → stored.contains z = false → m' z = m₀ z) ∧ P c'
theorem kst_eq {ps : List (Str × Value)} {stored : List Str} {m₀ m₁ : Str → Option Value} (h1 : ∀ p ∈ ps, m₁ p.1 = some p.2) (h2 : ∀ z, (∀ p ∈ ps, z ≠ p.1) → stored.contains z = false → m₁ z = m₀ z) :
    kstB (fun z => if stored.contains z then m₁ z else m₀ z) ps = m₁ := by
  funext y
  refine kstB_eq h1 fun hn => ?_
  show (if stored.contains y = true then m₁ y else m₀ y) = m₁ y
  cases h3 : stored.contains y with
  | true => simp
  | false => simp only [Bool.false_eq_true, if_false]; exact (h2 y hn h3).symm
theorem iter_st {σ : Type} {l : Addr} {vs : List Value} {m₀ : Str → Option Value} (Led : σ → List (Addr × Obj)) (ps : σ → List (Str × Value)) (stored : List Str) (P : Nat → σ → Prop) (c₀ : σ)
    (hh : A.handled = none) (hl : h₀.IsList l vs.toArray) (F : Fr h₀ env.locals s.heap m₀) (N : News h₀ env.locals s.heap (Led c₀)) (hk : ∀ p ∈ ps c₀, m₀ p.1 = some p.2) (hp : P 0 c₀)
    (turn : ∀ i u c (um : Str → Option Value) h tk I oI, vs[i]? = some u → P i c → (∀ p ∈ Led c, p.1 ≠ I) → Fr h₀ env.locals h (fun y => if y = x then some u else kstB (fun z => if stored.contains z then um z else m₀ z) (ps c) y) → News h₀ env.locals h ((I, oI) :: Led c) →
      wpAny (model prog w) A (execs body env) (TurnPost h₀ env.locals I oI (StJ Led ps stored m₀ (P (i + 1))) { s with heap := h, toks := tk } Q) E { s with heap := h, toks := tk })
    (done : ∀ c (um : Str → Option Value) h tk, P vs.length c → Fr h₀ env.locals h (kstB (fun z => if stored.contains z then um z else m₀ z) (ps c)) → News h₀ env.locals h (Led c) → Q .next { s with heap := h, toks := tk }) :
    wpAny (model prog w) A (pyIter (.ref l)) (fun it s₂ => LoopAtV prog w A h₀ env x body Q E it s₂) E s := by
  refine iter_any (fun i => StJ Led ps stored m₀ (P i)) hh hl F N ⟨c₀, rfl, hk, fun _ _ _ => rfl, hp⟩ ?_ ?_
  · rintro i u m₁ news₁ h tk I oI hu ⟨c, rfl, h1, h2, hP⟩ hI F₁ N₁
    rw [← kst_eq h1 h2] at F₁
    exact turn i u c m₁ h tk I oI hu hP hI F₁ N₁
  · rintro m₁ news₁ h tk ⟨c, rfl, h1, h2, hP⟩ F₁ N₁
    rw [← kst_eq h1 h2] at F₁
    exact done c m₁ h tk hP F₁ N₁
end
end Mine
namespace Mine
def stp (v : Addr → Pt) (p : List Addr × List Addr) (x : Addr) : List Addr × List Addr :=
  if p.1.length < 3 then (push v p.1 x, p.2) else (popH v p.1 x, p.2 ++ [popV v p.1 x])
def st (v : Addr → Pt) (l : List Addr) : List Addr × List Addr := l.foldl (stp v) ([], [])
def ent (v : Addr → Pt) (hs cs : List Addr) : PyData :=
  .list [.bool true, .list [], .list ((cs.map fun o => ((cnt v o hs : Nat) : Int)).map PyData.int), .list [.int (v (hs.headD 0)).1, .int (v (hs.headD 0)).2], .bool true]
def toldD (v : Addr → Pt) (rs : List Addr) (i : Nat) : List PyData := (List.range i).map fun j => ent v (st v (rs.take (j + 1))).1 (rs.take (j + 1))
def EntOk (g : Heap) (dyn : List (Addr × Obj)) (a : Addr) (d : PyData) : Prop :=
  ∃ mo co r ns cv n1 n2 n3 p, (a, listOf #[.bool true, .ref mo, .ref co, .ref r, .bool true] n1) ∈ dyn ∧ (mo, listOf #[] n2) ∈ dyn ∧ (co, listOf (List.toArray cv) n3) ∈ dyn ∧ IntsAre cv ns ∧ RowAt g r p ∧
    d = .list [.bool true, .list [], .list (ns.map PyData.int), .list [.int p.1, .int p.2], .bool true]
inductive ToldOk (g : Heap) (dyn : List (Addr × Obj)) : List Addr → List PyData → Prop
  | nil : ToldOk g dyn [] []
  | snoc {tl ds a d} : ToldOk g dyn tl ds → EntOk g dyn a d → ToldOk g dyn (tl ++ [a]) (ds ++ [d])
theorem EntOk.mono {g : Heap} {dyn dyn' : List (Addr × Obj)} {a : Addr} {d : PyData} (h : EntOk g dyn a d) (k : ∀ p ∈ dyn, p ∈ dyn') : EntOk g dyn' a d := by
  obtain ⟨mo, co, r, ns, cv, n1, n2, n3, p, a1, a2, a3, q⟩ := h
  exact ⟨mo, co, r, ns, cv, n1, n2, n3, p, k _ a1, k _ a2, k _ a3, q⟩
theorem ToldOk.mono {g : Heap} {dyn dyn' : List (Addr × Obj)} (k : ∀ p ∈ dyn, p ∈ dyn') {tl : List Addr} {ds : List PyData} (h : ToldOk g dyn tl ds) : ToldOk g dyn' tl ds := by
  induction h with
  | nil => exact .nil
  | snoc _ e ih => exact .snoc ih (e.mono k)
theorem toldD_succ (v : Addr → Pt) (rs : List Addr) (i : Nat) : toldD v rs (i + 1) = toldD v rs i ++ [ent v (st v (rs.take (i + 1))).1 (rs.take (i + 1))] := by
  unfold toldD
  rw [List.range_succ, List.map_append]; rfl
theorem st_snoc (v : Addr → Pt) (l : List Addr) (x : Addr) : st v (l ++ [x]) = stp v (st v l) x := by unfold st; rw [List.foldl_append]; rfl
theorem take_snoc {rs : List Addr} {i : Nat} {x : Addr} (h : rs[i]? = some x) : rs.take (i + 1) = rs.take i ++ [x] := by rw [List.take_add_one, h]; rfl
structure TdS where
  ol : Obj
  hs : List Addr
  ts : List Addr
  cs : List Addr
  tl : List Addr
  n1 : Nat
  n2 : Nat
  n3 : Nat
  n4 : Nat
  n5 : Nat
  Th : Addr
  C : Addr
  dyn : List (Addr × Obj)
end Mine
namespace Mine
section
variable {prog : Program} {A : Around} {E : Value → Shared → Prop} {w : World} {s : Shared} {h₀ : Heap} {L C B : Addr} {m : Str → Option Value} {news : List (Addr × Obj)} {n n' : Nat} {l : List Addr} {x : Addr} {Q : Value → Shared → Prop}
theorem add_one (F : Fr h₀ L s.heap m) (N : News h₀ L s.heap news) (ha : (C, listOf (refs l) n) ∈ news) (hb : (B, listOf #[.ref x] n') ∈ news) (hz : l.length ≤ 100)
    (h : ∀ D h', Fr h₀ L h' m → News h₀ L h' ((D, listOf (refs (l ++ [x])) 0) :: news) → (∀ p ∈ news, p.1 < D) → Q (.ref D) { s with heap := h' }) :
    wpAny (model prog w) A (binaryOp .Add (.ref C) (.ref B)) Q E s :=
  kmk_add_lit (its := refs l) (its2 := #[.ref x]) (zs := (l ++ [x]).map Value.ref) F N ⟨_, N.get ha, rfl, _, rfl⟩ ⟨_, N.get hb, rfl, _, rfl⟩ (by simp [refs]) h (by simp [refs]; rw [sizeLine_eq]; omega)
theorem len_refs (N : News h₀ L s.heap news) (hm : (C, listOf (refs l) n) ∈ news) (hz : l.length ≤ 100) (h : Q (.int l.length (s.toks + 1)) { s with toks := s.toks + 1 + 1 }) : wpAny (model prog w) A (call (.builtin "len") [.ref C]) Q E s :=
  len_list ⟨_, N.get hm, rfl, _, rfl⟩ (by rw [refs_size]; omega) (by rw [refs_size]; exact h)
theorem cut_all {value slice : PySem.Expr} (F : Fr h₀ L s.heap m) (N : News h₀ L s.heap news) (hm : (C, listOf (refs l) n) ∈ news) (hz : l.length ≤ 100)
    (h : ∀ D h', Fr h₀ L h' m → News h₀ L h' ((D, listOf (refs l) 0) :: news) → (∀ p ∈ news, p.1 < D) → Q (.ref D) { s with heap := h' })
    (hs : subscripted slice false (.ref C) (.ref s.heap.objs.size) = operate [.ref s.heap.objs.size, .ref C] (getItem (.ref C) (.ref s.heap.objs.size))) (ht : ∀ r, letTemporaryGo value (.ref C) r = pure ()) :
    wpAny (model prog w) A (subscriptTail value slice (.ref C) (.ref s.heap.objs.size)) Q E { s with heap := s.heap.push { cls := .type "slice", data := .fields #[.none, .none, .none] } } :=
  kmk_slice_lit (its := refs l) (zs := l.map Value.ref) F N ⟨_, N.get hm, rfl, _, rfl⟩ .none .none (by rw [slicePick_all]) h hs ht (by rw [refs_size, sizeLine_eq]; omega)
end
section
variable (w : World) {mean : ExcName → Option Value} {mg mb : Str → Option Value} {dp un : Nat} {gd : Option (List Code)} {cn : Str} {cs : Scope} {a : Addr} {ccd : Value} {cl : List (Str × Addr)} {outer : List Env} {h₀ : Heap} {L : Addr} {m : Str → Option Value} {s : Shared}
    {Q E : Value → Shared → Prop} {H x : Addr} {n : Nat} {v : Addr → Pt} {news : List (Addr × Obj)} {g : Obj → List (Addr × Obj)} {hs out : List Addr} {y : Addr}
theorem heappush_K2
    (F : Fr h₀ L s.heap m) (X : (Mine.hd.heap_39 w.params).In h₀) (N : News h₀ L s.heap news) (U : UpdF H (listOf (refs hs) n) news g) (T : Top Mine.hd.view_39 (looseW Mine.hd.view_39 []) mean mg mb h₀) (hk : cs.kind = .function)
    (hl : hs.length ≤ 2) (r : ∀ b ∈ hs, RowAt h₀ b (v b)) (rx : RowAt h₀ x (v x)) (e : push v hs x = out) (hd : dp + 8 < recursionLimit) (hu : un + 100 < cLine)
    (ret : ∀ h' tk' n', Fr h₀ L h' m → News h₀ L h' (g (listOf (refs out) n')) → Q .none { s with heap := h', toks := tk' }) :
    wpAny (model PySem.Challenge.rw_ny0078_01.row.prog w) (ktrTop dp un gd cn cs L a ccd cl outer) (call (.ref 21) [.ref H, .ref x]) Q E s := by
  subst e
  exact heappush_K w F X N U T hk hl r rx hd hu ret
theorem heappushpop_K2
    (F : Fr h₀ L s.heap m) (X : (Mine.hd.heap_39 w.params).In h₀) (N : News h₀ L s.heap news) (U : UpdF H (listOf (refs hs) n) news g) (T : Top Mine.hd.view_39 (looseW Mine.hd.view_39 []) mean mg mb h₀) (hk : cs.kind = .function)
    (hl : hs.length = 3) (r : ∀ b ∈ hs, RowAt h₀ b (v b)) (rx : RowAt h₀ x (v x)) (e : popH v hs x = out) (e2 : popV v hs x = y) (hd : dp + 8 < recursionLimit) (hu : un + 100 < cLine)
    (ret : ∀ h' tk' n', Fr h₀ L h' m → News h₀ L h' (g (listOf (refs out) n')) → Q (.ref y) { s with heap := h', toks := tk' }) :
    wpAny (model PySem.Challenge.rw_ny0078_01.row.prog w) (ktrTop dp un gd cn cs L a ccd cl outer) (call (.ref 35) [.ref H, .ref x]) Q E s := by
  subst e e2
  exact heappushpop_K w F X N U T hk hl r rx hd hu ret
theorem heapreplace_K2 {y0 y1 y2 : Addr}
    (F : Fr h₀ L s.heap m) (X : (Mine.hd.heap_39 w.params).In h₀) (N : News h₀ L s.heap news) (U : UpdF H (listOf (refs [y0, y1, y2]) n) news g) (T : Top Mine.hd.view_39 (looseW Mine.hd.view_39 []) mean mg mb h₀) (hk : cs.kind = .function)
    (r : ∀ b ∈ [y0, y1, y2], RowAt h₀ b (v b)) (rx : RowAt h₀ x (v x)) (e : up3 v x y1 y2 = out) (hd : dp + 8 < recursionLimit) (hu : un + 100 < cLine)
    (ret : ∀ h' tk' n', Fr h₀ L h' m → News h₀ L h' (g (listOf (refs out) n')) → Q (.ref y0) { s with heap := h', toks := tk' }) :
    wpAny (model PySem.Challenge.rw_ny0078_01.row.prog w) (ktrTop dp un gd cn cs L a ccd cl outer) (call (.ref 28) [.ref H, .ref x]) Q E s := by
  subst e
  exact heapreplace_K w F X N U T hk r rx hd hu ret
open PyProof.Rows.TI in
theorem ud_app {Ea Aa Lf : Addr} {q1 q2 q3 : Addr × Obj} {rest : List (Addr × Obj)} {es as lo mo : List Addr} {n n2 : Nat} {ol : Obj} {envL : Env}
    (F : Fr h₀ L s.heap m) (X : (Mine.hd.heap_39 w.params).In h₀) (N : News h₀ L s.heap ((Aa, listOf (refs as) n2) :: (Ea, listOf (refs es) n) :: q1 :: q2 :: q3 :: (Lf, ol) :: rest)) (T : Top Mine.hd.view_39 (looseW Mine.hd.view_39 []) mean mg mb h₀) (hk : cs.kind = .function)
    (Fs : Frs [envL] [(Lf, ol)]) (l1 : AllLt Ea (q1 :: q2 :: q3 :: (Lf, ol) :: rest)) (l2 : @LT.lt Nat _ Ea Aa) (hRL : ∀ p ∈ q1 :: q2 :: q3 :: rest, p.1 ≠ Lf) (re : ∀ b ∈ es, RowAt h₀ b (v b)) (ra : ∀ b ∈ as, RowAt h₀ b (v b)) (hz1 : es.length ≤ 64) (hz2 : as.length ≤ 64)
    (e : udrun v es.reverse as [] = (lo, mo)) (hd : dp + 8 < recursionLimit) (hu : un + 100 < cLine)
    (ret : ∀ h' tk' D M n1 n3 n4 ol', (∃ sl, ol' = { ol with slots := sl }) → Frs [envL] [(Lf, ol')] → Fr h₀ L h' m →
      News h₀ L h' ((D, { cls := .type "tuple", data := .seq #[.ref M, .ref Aa] }) :: (M, listOf (refs lo) n3) :: (Ea, listOf (refs []) n1) :: (Aa, listOf (refs mo) n4) :: q1 :: q2 :: q3 :: (Lf, ol') :: rest) →
      @LT.lt Nat _ Aa M → @LT.lt Nat _ M D → Q (.ref D) { s with heap := h', toks := tk' }) :
    wpAny (model PySem.Challenge.rw_ny0078_01.row.prog w) (ktrTop dp un gd cn cs L a ccd cl [envL]) (call (.ref 70) [.ref Ea, .ref Aa]) Q E s := by
  have l1' := allLt_mem l1
  have N' : News h₀ L s.heap (((Ea, listOf (refs es) n) :: (Aa, listOf (refs as) n2) :: q1 :: q2 :: q3 :: rest) ++ [(Lf, ol)]) := fun p hp => N p (by
    simp only [List.cons_append, List.mem_cons, List.mem_append, List.not_mem_nil, or_false] at hp ⊢
    rcases hp with h | h | h | h | h | h | h <;> simp [h])
  have big : ∀ p ∈ (q1 :: q2 :: q3 :: rest) ++ [(Lf, ol)], p.1 < Ea := fun p hp => l1' p (by
    simp only [List.cons_append, List.mem_cons, List.mem_append, List.not_mem_nil, or_false] at hp ⊢
    rcases hp with h | h | h | h | h <;> simp [h])
  refine ud_ok w F X N' (fun p hp b hb => ?_) T hk Fs (fun p hp b hb => ?_) (Nat.ne_of_lt l2) re ra hz1 hz2 hd hu ?_
  · have := big p hp
    rcases List.mem_cons.mp hb with rfl | hb
    · exact Nat.ne_of_lt this
    · rw [List.mem_singleton.mp hb]; exact Nat.ne_of_lt (Nat.lt_trans this l2)
  · rw [List.mem_singleton.mp hb]; exact hRL p hp
  · intro h' tk' D M n1 n3 n4 frs' su fs F' N'' lt' md
    rw [e] at N''
    obtain ⟨ol', fr2, rfl, up, su2⟩ := sameUp_cons su
    cases fr2 with
    | cons _ _ => exact su2.elim
    | nil =>
      refine ret h' tk' D M n1 n3 n4 ol' up fs F' (fun p hp => N'' p (by
        simp only [List.cons_append, List.mem_cons, List.mem_append, List.not_mem_nil, or_false] at hp ⊢
        rcases hp with h | h | h | h | h | h | h | h | h <;> simp [h])) (lt' (Aa, listOf (refs as) n2) (by simp)) md
open PyProof.Rows.TI in
theorem ud_app5 {Ea Aa Lf : Addr} {q1 q2 q3 q4 q5 : Addr × Obj} {rest : List (Addr × Obj)} {es as lo mo : List Addr} {n n2 : Nat} {ol : Obj} {envL : Env}
    (F : Fr h₀ L s.heap m) (X : (Mine.hd.heap_39 w.params).In h₀) (N : News h₀ L s.heap ((Aa, listOf (refs as) n2) :: (Ea, listOf (refs es) n) :: q1 :: q2 :: q3 :: q4 :: q5 :: (Lf, ol) :: rest)) (T : Top Mine.hd.view_39 (looseW Mine.hd.view_39 []) mean mg mb h₀) (hk : cs.kind = .function)
    (Fs : Frs [envL] [(Lf, ol)]) (l1 : AllLt Ea (q1 :: q2 :: q3 :: q4 :: q5 :: (Lf, ol) :: rest)) (l2 : @LT.lt Nat _ Ea Aa) (hRL : ∀ p ∈ q1 :: q2 :: q3 :: q4 :: q5 :: rest, p.1 ≠ Lf) (re : ∀ b ∈ es, RowAt h₀ b (v b)) (ra : ∀ b ∈ as, RowAt h₀ b (v b)) (hz1 : es.length ≤ 64) (hz2 : as.length ≤ 64)
    (e : udrun v es.reverse as [] = (lo, mo)) (hd : dp + 8 < recursionLimit) (hu : un + 100 < cLine)
    (ret : ∀ h' tk' D M n1 n3 n4 ol', (∃ sl, ol' = { ol with slots := sl }) → Frs [envL] [(Lf, ol')] → Fr h₀ L h' m →
      News h₀ L h' ((D, { cls := .type "tuple", data := .seq #[.ref M, .ref Aa] }) :: (M, listOf (refs lo) n3) :: (Ea, listOf (refs []) n1) :: (Aa, listOf (refs mo) n4) :: q1 :: q2 :: q3 :: q4 :: q5 :: (Lf, ol') :: rest) →
      @LT.lt Nat _ Aa M → @LT.lt Nat _ M D → Q (.ref D) { s with heap := h', toks := tk' }) :
    wpAny (model PySem.Challenge.rw_ny0078_01.row.prog w) (ktrTop dp un gd cn cs L a ccd cl [envL]) (call (.ref 70) [.ref Ea, .ref Aa]) Q E s := by
  have l1' := allLt_mem l1
  have N' : News h₀ L s.heap (((Ea, listOf (refs es) n) :: (Aa, listOf (refs as) n2) :: q1 :: q2 :: q3 :: q4 :: q5 :: rest) ++ [(Lf, ol)]) := fun p hp => N p (by
    simp only [List.cons_append, List.mem_cons, List.mem_append, List.not_mem_nil, or_false] at hp ⊢
    rcases hp with h | h | h | h | h | h | h | h | h <;> simp [h])
  have big : ∀ p ∈ (q1 :: q2 :: q3 :: q4 :: q5 :: rest) ++ [(Lf, ol)], p.1 < Ea := fun p hp => l1' p (by
    simp only [List.cons_append, List.mem_cons, List.mem_append, List.not_mem_nil, or_false] at hp ⊢
    rcases hp with h | h | h | h | h | h | h <;> simp [h])
  refine ud_ok w F X N' (fun p hp b hb => ?_) T hk Fs (fun p hp b hb => ?_) (Nat.ne_of_lt l2) re ra hz1 hz2 hd hu ?_
  · have := big p hp
    rcases List.mem_cons.mp hb with rfl | hb
    · exact Nat.ne_of_lt this
    · rw [List.mem_singleton.mp hb]; exact Nat.ne_of_lt (Nat.lt_trans this l2)
  · rw [List.mem_singleton.mp hb]; exact hRL p hp
  · intro h' tk' D M n1 n3 n4 frs' su fs F' N'' lt' md
    rw [e] at N''
    obtain ⟨ol', fr2, rfl, up, su2⟩ := sameUp_cons su
    cases fr2 with
    | cons _ _ => exact su2.elim
    | nil =>
      refine ret h' tk' D M n1 n3 n4 ol' up fs F' (fun p hp => N'' p (by
        simp only [List.cons_append, List.mem_cons, List.mem_append, List.not_mem_nil, or_false] at hp ⊢
        rcases hp with h | h | h | h | h | h | h | h | h | h | h <;> simp [h])) (lt' (Aa, listOf (refs as) n2) (by simp)) md
end
end Mine
namespace Mine
open PyProof.Rows.LCg
theorem ints_snoc : ∀ {ys : List Value} {ns : List Int} {a : Int} {t : Tok}, IntsAre ys ns → IntsAre (ys ++ [.int a t]) (ns ++ [a])
  | _, _, _, _, .nil => .cons _ _ .nil
  | _, _, _, _, .cons _ _ r => .cons _ _ (ints_snoc r)
def CntMark (_v : Addr → Pt) (_hs : List Addr) : Prop := True
def CntEnd (h₀ : Heap) (L : Addr) (m : Str → Option Value) (s : Shared) (a : Int) (news : List (Addr × Obj)) (y : Value) (s' : Shared) : Prop :=
  ∃ h' tk' t, y = .int a t ∧ s' = { s with heap := h', toks := tk' } ∧ Fr h₀ L h' m ∧ News h₀ L h' news
section
variable {prog : Program} {w : World} {A : Around} {s : Shared} {h₀ : Heap} {L : Addr} {m : Str → Option Value} {env : Env} {elt : Expr} {x : Str} {scope : Scope} {cl : List (Str × Addr)} {S : List (Addr × Obj) → Prop} {Fin : List Value → List (Addr × Obj) → Prop} {news : List (Addr × Obj)} {cs hs : List Addr} {v : Addr → Pt}
theorem CntEnd.intro {a : Int} {t : Tok} {h' : Heap} {tk' : Nat} (F : Fr h₀ L h' m) (N : News h₀ L h' news) : CntEnd h₀ L m s a news (.int a t) { s with heap := h', toks := tk' } := ⟨h', tk', t, rfl, rfl, F, N⟩
theorem comp_cnt (_mk : CntMark v hs) (hS : S news) (rc : ∀ b ∈ cs, RowAt h₀ b (v b))
    (one : ∀ b I oI C oC D ys m₂ h tk (E' : Value → Shared → Prop), RowAt h₀ b (v b) → NsObj oC m₂ → m₂ x = some (.ref b) → Fr h₀ L h m → News h₀ L h ((I, oI) :: (C, oC) :: (D, lst ys) :: news) →
      wpAny (model prog w) A (eval elt (compEnvC scope cl C env)) (CntEnd h₀ L m { s with heap := h, toks := tk } ((cnt v b hs : Nat) : Int) ((I, oI) :: (C, oC) :: (D, lst ys) :: news)) E' { s with heap := h, toks := tk })
    (fin : ∀ ys, IntsAre ys (cs.map fun b => ((cnt v b hs : Nat) : Int)) → Fin ys news) :
    ∀ k i ys, i + k = cs.length → IntsAre ys ((cs.take i).map fun b => ((cnt v b hs : Nat) : Int)) → CompRest prog w A h₀ L m env elt x scope cl s S (fun i u => (refs cs)[i]? = some u) Fin k i ys news
  | 0, i, ys, hk, hy => by
    have : i = cs.length := by omega
    subst this
    rw [List.take_length] at hy
    exact fin ys hy
  | k + 1, i, ys, hk, hy => by
    intro u I oI C oC D m₂ h tk E' hu hn hx F N off ne
    have hb : ∃ b, cs[i]? = some b ∧ u = .ref b := by
      simp only [refs, List.getElem?_toArray, List.getElem?_map] at hu
      cases hq : cs[i]? with
      | none => rw [hq] at hu; cases hu
      | some b => rw [hq] at hu; exact ⟨b, rfl, by simpa using hu.symm⟩
    obtain ⟨b, hb, rfl⟩ := hb
    refine wpAny_mono (one b I oI C oC D ys m₂ h tk E' (rc b (List.mem_of_getElem? hb)) hn hx F N) (fun y s' hy' => ?_) fun _ _ e => e
    obtain ⟨h', tk', t, rfl, rfl, F', N'⟩ := hy'
    refine ⟨h', tk', news, rfl, F', N', off, hS, ?_⟩
    refine comp_cnt _mk hS rc one fin k (i + 1) _ (by omega) ?_
    rw [List.take_add_one, hb, List.map_append]
    exact ints_snoc hy
end
section
variable {prog : Program} {w : World} {A : Around} {E : Value → Shared → Prop} {s : Shared} {h₀ : Heap} {L C H O : Addr} {m : Str → Option Value} {news : List (Addr × Obj)} {n n' : Nat} {l lo ts o1 o2 : List Addr} {v : Addr → Pt} {Q : Value → Shared → Prop}
open PySem.SeqAt PySem.MeetsSeq
theorem sorted_K (hB : ∀ a, Bd (v a)) (F : Fr h₀ L s.heap m) (N : News h₀ L s.heap news) (hm : (C, listOf (refs l) n) ∈ news) (h64 : l.length < 64) (r : ∀ a ∈ l, RowAt h₀ a (v a)) (hu : A.units + 8 < cLine)
    (h : ∀ D h' n' out, Fr h₀ L h' m → News h₀ L h' ((D, listOf (refs out) n') :: news) → (∀ q ∈ news, q.1 < D) → out.Perm l → Up v out → Q (.ref D) { s with heap := h' }) :
    wpAny (model prog w) A (call (.builtin "sorted") [.ref C]) Q E s := sorted_rows hB F N ⟨_, N.get hm, rfl, _, rfl⟩ h64 r hu h
theorem up_uniq : ∀ {a b : List Int}, a.Perm b → a.Pairwise (· ≤ ·) → b.Pairwise (· ≤ ·) → a = b := fun p ha hb => ksm_same p ha hb
theorem map_keys {a b : List Addr} (hB : ∀ a, Bd (v a)) : ∀ {a b : List Addr}, a.map (kv v) = b.map (kv v) → a.map v = b.map v
  | [], [], _ => rfl
  | [], _ :: _, h => by simp at h
  | _ :: _, [], h => by simp at h
  | x :: a, y :: b, h => by
    simp only [List.map_cons, List.cons.injEq] at h ⊢
    exact ⟨key_inj (hB _) (hB _) h.1, map_keys (a := a) (b := b) hB h.2⟩
theorem up_map {a : List Addr} (h : Up v a) : (a.map (kv v)).Pairwise (· ≤ ·) := List.pairwise_map.mpr h
theorem same_sorted (hB : ∀ a, Bd (v a)) (p1 : o1.Perm lo) (u1 : Up v o1) (p2 : o2.Perm ts) (u2 : Up v o2) (p : (lo.map v).Perm (ts.map v)) : o1.map v = o2.map v := by
  refine map_keys (a := o1) (b := o2) hB (up_uniq ?_ (up_map u1) (up_map u2))
  have q := p.map key
  rw [List.map_map, List.map_map] at q
  exact ((p1.map (kv v)).trans q).trans (p2.map (kv v)).symm
theorem eq_lists (N : News h₀ L s.heap news) (ma : (H, listOf (refs o1) n) ∈ news) (mb : (O, listOf (refs o2) n') ∈ news) (F : Fr h₀ L s.heap m) (r1 : ∀ a ∈ o1, RowAt h₀ a (v a)) (r2 : ∀ a ∈ o2, RowAt h₀ a (v a)) (e : o1.map v = o2.map v) (hu : A.units + 8 < cLine)
    (h : Q (.bool true) s) : wpAny (model prog w) A (compareOp .Eq (.ref H) (.ref O)) Q E s := by
  have hl : o1.length = o2.length := by simpa using congrArg List.length e
  have z := RcAt.lists (A := A) (s := s) (l := H) (b := O) (items := refs o1) (items2 := refs o2) (e := fun _ => true) ⟨_, N.get ma, rfl, _, rfl⟩ ⟨_, N.get mb, rfl, _, rfl⟩ (by rw [refs_size, refs_size]; exact hl) (by omega) (fun j h1 h2 => by
    have j1 : j < o1.length := by simpa [refs_size] using h1
    have j2 : j < o2.length := by simpa [refs_size] using h2
    have e1 : (refs o1)[j] = .ref o1[j] := by simp [refs]
    have e2 : (refs o2)[j] = .ref o2[j] := by simp [refs]
    have ev : v o1[j] = v o2[j] := by
      have := congrArg (fun z : List Pt => z[j]?) e
      simpa [j1, j2] using this
    rw [e1, e2]
    have q := row_eq (A := A.in1) (s := s) ((r1 _ (List.getElem_mem j1)).keeps F.keep) ((r2 _ (List.getElem_mem j2)).keeps F.keep) (by simp only [Around.in1_units]; omega)
    rw [ev] at q
    simpa using q)
  have ha : ((List.range (refs o1).size).all fun _ => true) = true := by simp
  rw [ha] at z
  exact z prog w E Q h
theorem eq_sorted (hB : ∀ a, Bd (v a)) (N : News h₀ L s.heap news) (ma : (H, listOf (refs o1) n) ∈ news) (mb : (O, listOf (refs o2) n') ∈ news) (F : Fr h₀ L s.heap m) (p1 : o1.Perm lo) (u1 : Up v o1) (p2 : o2.Perm ts) (u2 : Up v o2) (p : (lo.map v).Perm (ts.map v))
    (r1 : ∀ a ∈ lo, RowAt h₀ a (v a)) (r2 : ∀ a ∈ ts, RowAt h₀ a (v a)) (hu : A.units + 8 < cLine)
    (h : Q (.bool true) s) : wpAny (model prog w) A (compareOp .Eq (.ref H) (.ref O)) Q E s :=
  eq_lists N ma mb F (fun a ha => r1 a (p1.mem_iff.mp ha)) (fun a ha => r2 a (p2.mem_iff.mp ha)) (same_sorted hB p1 u1 p2 u2 p) hu h
theorem eq_twin (N : News h₀ L s.heap news) (ma : (H, listOf (refs l) n) ∈ news) (mb : (O, listOf (refs l) n') ∈ news) (F : Fr h₀ L s.heap m) (r : ∀ a ∈ l, RowAt h₀ a (v a)) (hu : A.units + 8 < cLine)
    (h : Q (.bool true) s) : wpAny (model prog w) A (compareOp .Eq (.ref H) (.ref O)) Q E s := eq_lists N ma mb F r r rfl hu h
end
end Mine
namespace Mine
theorem cmp_ltE {prog : Program} {w : World} {A : Around} {E : Value → Shared → Prop} {s : Shared} {a b : Addr} {v : Addr → Pt} {k : Bool} {h₀ : Heap} {L : Addr} {m : Str → Option Value} {Q : Value → Shared → Prop}
    (F : Fr h₀ L s.heap m) (ha : RowAt h₀ a (v a)) (hb : RowAt h₀ b (v b)) (e : plt (v a) (v b) = k) (hu : A.units < cLine) (h : Q (.bool k) s) : wpAny (model prog w) A (compareOp .Lt (.ref a) (.ref b)) Q E s :=
  cmp_lt (ha.keeps F.keep) (hb.keeps F.keep) hu (by rw [e]; exact h)
def tdLed (L H O T0 cL : Addr) (oc : Obj) (c : TdS) : List (Addr × Obj) :=
  (L, c.ol) :: (H, listOf (refs c.hs) c.n1) :: (O, listOf (refs c.hs) c.n2) :: (T0, listOf (refs c.tl) c.n5) :: (cL, oc) :: (c.Th, listOf (refs c.ts) c.n3) :: (c.C, listOf (refs c.cs) c.n4) :: c.dyn
def tdPs (c : TdS) : List (Str × Value) := [(Str.ofString "came", .ref c.C), (Str.ofString "thrown", .ref c.Th)]
def tdSt : List Str := [Str.ofString "row", Str.ofString "lost", Str.ofString "more"]
theorem tdSt_ne {z : Str} (h : tdSt.contains z = false) : z ≠ Str.ofString "row" ∧ z ≠ Str.ofString "lost" ∧ z ≠ Str.ofString "more" := by
  refine ⟨fun e => ?_, fun e => ?_, fun e => ?_⟩ <;> (rw [e] at h; exact absurd h (by decide))
structure TdP (g : Heap) (L H O T0 : Addr) (oL : Obj) (v : Addr → Pt) (rs : List Addr) (i : Nat) (c : TdS) : Prop where
  st : (c.hs, c.ts) = st v (rs.take i)
  cs : c.cs = rs.take i
  told : ToldOk g c.dyn c.tl (toldD v rs i)
  off : OwnOff c.dyn [L, H, O, T0]
  ol : ∃ sl, c.ol = { oL with slots := sl }
  t1 : @LT.lt Nat _ L c.Th
  t2 : @Ne Nat c.Th H
  t3 : @Ne Nat c.Th O
  t4 : @Ne Nat c.Th T0
  c1 : @LT.lt Nat _ L c.C
  c2 : @Ne Nat c.C H
  c3 : @Ne Nat c.C O
  c4 : @Ne Nat c.C T0
  len : c.tl.length = i
section
variable {g h' : Heap} {L L' H O T0 cL I Th2 C2 a mo co r0 : Addr} {oc oI oL ol ol' : Obj} {v : Addr → Pt} {rs : List Addr} {i : Nat} {m₀ m' : Str → Option Value} {all dyn : List (Addr × Obj)} {hs2 ts2 cs2 tl : List Addr} {k1 k2 k3 k4 k5 na nm nc tk : Nat} {cv : List Value} {s₁ : Shared}
theorem turn_end (F : Fr g L' h' m') (N : News g L' h' all) (mL : (L, ol') ∈ all) (mH : (H, listOf (refs hs2) k1) ∈ all) (mO : (O, listOf (refs hs2) k2) ∈ all) (mT : (T0, listOf (refs (tl ++ [a])) k5) ∈ all) (mc : (cL, oc) ∈ all)
    (mTh : (Th2, listOf (refs ts2) k3) ∈ all) (mC : (C2, listOf (refs cs2) k4) ∈ all) (mI : (I, oI) ∈ all) (ma : (a, listOf #[.bool true, .ref mo, .ref co, .ref r0, .bool true] na) ∈ all) (mm : (mo, listOf (refs []) nm) ∈ all)
    (mco : (co, listOf (List.toArray cv) nc) ∈ all) (md : ∀ p ∈ dyn, p ∈ all)
    (nc' : m' (Str.ofString "came") = some (.ref C2)) (nt' : m' (Str.ofString "thrown") = some (.ref Th2)) (nr' : ∀ z, z ≠ Str.ofString "came" → z ≠ Str.ofString "thrown" → tdSt.contains z = false → m' z = m₀ z)
    (d1 : @Ne Nat a L ∧ @Ne Nat a H ∧ @Ne Nat a O ∧ @Ne Nat a T0 ∧ @Ne Nat a I) (d2 : @Ne Nat mo L ∧ @Ne Nat mo H ∧ @Ne Nat mo O ∧ @Ne Nat mo T0 ∧ @Ne Nat mo I) (d3 : @Ne Nat co L ∧ @Ne Nat co H ∧ @Ne Nat co O ∧ @Ne Nat co T0 ∧ @Ne Nat co I)
    (d4 : @Ne Nat L I ∧ @Ne Nat H I ∧ @Ne Nat O I ∧ @Ne Nat T0 I ∧ @Ne Nat cL I) (d5 : @LT.lt Nat _ L Th2 ∧ @Ne Nat Th2 H ∧ @Ne Nat Th2 O ∧ @Ne Nat Th2 T0 ∧ @Ne Nat Th2 I) (d6 : @LT.lt Nat _ L C2 ∧ @Ne Nat C2 H ∧ @Ne Nat C2 O ∧ @Ne Nat C2 T0 ∧ @Ne Nat C2 I)
    (off : OwnOff dyn [L, H, O, T0]) (hId : ∀ p ∈ dyn, p.1 ≠ I) (hol : ∃ sl, ol = { oL with slots := sl }) (hol' : ∃ sl, ol' = { ol with slots := sl })
    (hst : (hs2, ts2) = st v (rs.take (i + 1))) (hcs : cs2 = rs.take (i + 1)) (told : ToldOk g dyn tl (toldD v rs i)) (hr : RowAt g r0 (v r0)) (hh : hs2.headD 0 = r0) (hi : IntsAre cv (cs2.map fun b => ((cnt v b hs2 : Nat) : Int))) (hlen : tl.length = i) :
    TurnEnd g L' I oI (StJ (tdLed L H O T0 cL oc) tdPs tdSt m₀ (TdP g L H O T0 oL v rs (i + 1))) s₁ { s₁ with heap := h', toks := tk } := by
  let c' : TdS := ⟨ol', hs2, ts2, cs2, tl ++ [a], k1, k2, k3, k4, k5, Th2, C2, (a, listOf #[.bool true, .ref mo, .ref co, .ref r0, .bool true] na) :: (mo, listOf (refs []) nm) :: (co, listOf (List.toArray cv) nc) :: dyn⟩
  refine TurnEnd.intro (tdLed L H O T0 cL oc c') F (fun p hp => N p ?_) (fun p hp => ?_) ⟨c', rfl, fun p hp => ?_, fun z hz hs => ?_, ?_⟩
  · simp only [tdLed, c', List.mem_cons] at hp
    rcases hp with rfl | rfl | rfl | rfl | rfl | rfl | rfl | rfl | rfl | rfl | rfl | hp <;> first | assumption | exact md p hp
  · simp only [tdLed, c', List.mem_cons] at hp
    obtain ⟨d41, d42, d43, d44, d45⟩ := d4
    rcases hp with rfl | rfl | rfl | rfl | rfl | rfl | rfl | rfl | rfl | rfl | hp
    · exact d41
    · exact d42
    · exact d43
    · exact d44
    · exact d45
    · exact d5.2.2.2.2
    · exact d6.2.2.2.2
    · exact d1.2.2.2.2
    · exact d2.2.2.2.2
    · exact d3.2.2.2.2
    · exact hId p hp
  · simp only [tdPs, c', List.mem_cons, List.not_mem_nil, or_false] at hp
    rcases hp with rfl | rfl
    · exact nc'
    · exact nt'
  · exact nr' z (hz (Str.ofString "came", .ref C2) (.head _)) (hz (Str.ofString "thrown", .ref Th2) (.tail _ (.head _))) hs
  · refine ⟨hst, hcs, ?_, ?_, ?_, d5.1, d5.2.1, d5.2.2.1, d5.2.2.2.1, d6.1, d6.2.1, d6.2.2.1, d6.2.2.2.1, by simp [c', hlen]⟩
    · rw [toldD_succ]
      refine .snoc (told.mono fun p hp => by simp [c', hp]) ?_
      refine ⟨mo, co, r0, _, cv, na, nm, nc, v r0, by simp [c'], by simp [c', refs], by simp [c'], hi, hr, ?_⟩
      have e : (Mine.st v (rs.take (i + 1))).1 = hs2 := by rw [← hst]
      unfold ent
      rw [e, hh, hcs]
    · intro p hp b hb
      simp only [c', List.mem_cons] at hp
      simp only [List.mem_cons, List.not_mem_nil, or_false] at hb
      rcases hp with rfl | rfl | rfl | hp
      · rcases hb with rfl | rfl | rfl | rfl
        · exact d1.1
        · exact d1.2.1
        · exact d1.2.2.1
        · exact d1.2.2.2.1
      · rcases hb with rfl | rfl | rfl | rfl
        · exact d2.1
        · exact d2.2.1
        · exact d2.2.2.1
        · exact d2.2.2.2.1
      · rcases hb with rfl | rfl | rfl | rfl
        · exact d3.1
        · exact d3.2.1
        · exact d3.2.2.1
        · exact d3.2.2.2.1
      · exact off p hp b (by simpa using hb)
    · obtain ⟨sl, rfl⟩ := hol'
      obtain ⟨sl', rfl⟩ := hol
      exact ⟨sl, rfl⟩
end
end Mine
namespace Mine
section
variable {v : Addr → Pt}
theorem alt_iff (hB : ∀ a, Bd (v a)) (a b : Addr) : alt v a b = decide (kv v a < kv v b) := plt_key (hB a) (hB b)
structure Inv (v : Addr → Pt) (l : List Addr) (p : List Addr × List Addr) : Prop where
  len : p.1.length = min l.length 3
  perm : (p.1 ++ p.2).Perm l
  low : ∀ b ∈ p.1, kv v (p.1.headD 0) ≤ kv v b
  big : ∀ t ∈ p.2, ∀ b ∈ p.1, kv v t ≤ kv v b
theorem up3_perm (x b c : Addr) : (up3 v x b c).Perm [x, b, c] := by
  unfold up3
  split <;> split
  · exact List.Perm.refl _
  · exact List.Perm.swap _ _ _
  · exact List.Perm.refl _
  · exact (List.Perm.swap _ _ _).trans (((List.Perm.swap _ _ _).cons b).trans (List.Perm.swap _ _ _))
theorem up3_low (hB : ∀ a, Bd (v a)) (x b c : Addr) : ∀ y ∈ up3 v x b c, kv v ((up3 v x b c).headD 0) ≤ kv v y := by
  unfold up3
  rw [alt_iff hB, alt_iff hB, alt_iff hB]
  split <;> split
  all_goals
    rename_i h1 h2
    simp only [decide_eq_true_eq] at h1 h2
    intro y hy
    simp only [List.mem_cons, List.not_mem_nil, or_false] at hy
    simp only [List.headD_cons]
    rcases hy with rfl | rfl | rfl <;> omega
theorem push_len {hs : List Addr} (h : hs.length < 3) (x : Addr) : (push v hs x).length = hs.length + 1 := by
  match hs, h with
  | [], _ => rfl
  | [a], _ => simp only [push]; split <;> rfl
  | [a, b], _ => simp only [push]; split <;> rfl
theorem push_perm {hs : List Addr} (h : hs.length < 3) (x : Addr) : (push v hs x).Perm (hs ++ [x]) := by
  match hs, h with
  | [], _ => exact List.Perm.refl _
  | [a], _ =>
    simp only [push]; split
    · exact List.Perm.swap _ _ _
    · exact List.Perm.refl _
  | [a, b], _ =>
    simp only [push]; split
    · exact (List.Perm.swap _ _ _).trans (((List.Perm.swap _ _ _).cons b).trans (List.Perm.swap _ _ _))
    · exact List.Perm.refl _
theorem push_low (hB : ∀ a, Bd (v a)) {hs : List Addr} (h : hs.length < 3) (x : Addr) (hl : ∀ b ∈ hs, kv v (hs.headD 0) ≤ kv v b) : ∀ y ∈ push v hs x, kv v ((push v hs x).headD 0) ≤ kv v y := by
  match hs, h, hl with
  | [], _, _ => intro y hy; simp only [push, List.mem_cons, List.not_mem_nil, or_false] at hy; subst hy; exact Int.le_refl _
  | [a], _, hl =>
    simp only [push, alt_iff hB]; split
    all_goals
      rename_i h1
      simp only [decide_eq_true_eq] at h1
      intro y hy
      simp only [List.mem_cons, List.not_mem_nil, or_false] at hy
      simp only [List.headD_cons]
      rcases hy with rfl | rfl <;> omega
  | [a, b], _, hl =>
    have hab := hl b (by simp)
    simp only [List.headD_cons] at hab
    simp only [push, alt_iff hB]; split
    all_goals
      rename_i h1
      simp only [decide_eq_true_eq] at h1
      intro y hy
      simp only [List.mem_cons, List.not_mem_nil, or_false] at hy
      simp only [List.headD_cons]
      rcases hy with rfl | rfl | rfl <;> omega
theorem inv_step (hB : ∀ a, Bd (v a)) {l : List Addr} {p : List Addr × List Addr} (h : Inv v l p) (hts : p.1.length < 3 → p.2 = []) (x : Addr) : Inv v (l ++ [x]) (stp v p x) ∧ ((stp v p x).1.length < 3 → (stp v p x).2 = []) := by
  obtain ⟨hs, ts⟩ := p
  obtain ⟨h1, h2, h3, h4⟩ := h
  dsimp only at h1 h2 h3 h4 hts
  unfold stp
  dsimp only
  split
  · rename_i hl
    have ht := hts hl
    subst ht
    refine ⟨⟨?_, ?_, push_low hB hl x h3, fun t ht => absurd ht List.not_mem_nil⟩, fun _ => rfl⟩
    · dsimp only; rw [push_len hl, List.length_append, List.length_singleton]; omega
    · dsimp only
      rw [List.append_nil] at h2 ⊢
      exact (push_perm hl x).trans (h2.append_right [x])
  · rename_i hl
    have h3' : hs.length = 3 := by omega
    match hs, h3' with
    | [a, b, c], _ =>
      have hab := h3 b (by simp)
      have hac := h3 c (by simp)
      simp only [List.headD_cons] at hab hac
      simp only [popH, popV, alt_iff hB]
      by_cases hax : kv v a < kv v x
      · rw [decide_eq_true hax]
        simp only [if_true]
        have pu := up3_perm (v := v) x b c
        refine ⟨⟨?_, ?_, up3_low hB x b c, ?_⟩, fun hc => absurd hc (by rw [pu.length_eq]; simp)⟩
        · dsimp only at h1 ⊢; rw [pu.length_eq, List.length_append, List.length_singleton]; simp at h1 ⊢; omega
        · dsimp only
          have q1 : (up3 v x b c ++ (ts ++ [a])).Perm ([x, b, c] ++ (ts ++ [a])) := pu.append_right _
          have q2 : ([x, b, c] ++ (ts ++ [a])).Perm ([a, b, c] ++ ts ++ [x]) := by
            have e1 : [x, b, c] ++ (ts ++ [a]) = x :: ((b :: c :: ts) ++ [a]) := by simp
            have e2 : [a, b, c] ++ ts ++ [x] = a :: ((b :: c :: ts) ++ [x]) := by simp
            rw [e1, e2]
            exact ((List.perm_append_singleton a _).cons x).trans ((List.Perm.swap a x _).trans ((List.perm_append_singleton x _).symm.cons a))
          exact (q1.trans q2).trans (h2.append_right [x])
        · intro t ht y hy
          dsimp only at ht hy
          have hy' := pu.mem_iff.mp hy
          simp only [List.mem_cons, List.not_mem_nil, or_false] at hy'
          rcases List.mem_append.mp ht with ht | ht
          · have ta := h4 t ht a (by simp)
            have tb := h4 t ht b (by simp)
            have tc := h4 t ht c (by simp)
            rcases hy' with rfl | rfl | rfl <;> omega
          · rw [List.mem_singleton.mp ht]
            rcases hy' with rfl | rfl | rfl <;> omega
      · rw [decide_eq_false hax]
        simp only [Bool.false_eq_true, if_false]
        refine ⟨⟨?_, ?_, h3, ?_⟩, fun hc => absurd hc (by simp)⟩
        · dsimp only at h1 ⊢; rw [List.length_append, List.length_singleton]; simp at h1 ⊢; omega
        · dsimp only
          rw [← List.append_assoc]
          exact h2.append_right [x]
        · intro t ht y hy
          dsimp only at ht hy
          rcases List.mem_append.mp ht with ht | ht
          · exact h4 t ht y hy
          · rw [List.mem_singleton.mp ht]
            simp only [List.mem_cons, List.not_mem_nil, or_false] at hy
            rcases hy with rfl | rfl | rfl <;> omega
theorem inv_st (hB : ∀ a, Bd (v a)) (l : List Addr) : Inv v l (st v l) ∧ ((st v l).1.length < 3 → (st v l).2 = []) := by
  have gen : ∀ (r done : List Addr) (p : List Addr × List Addr), Inv v done p → (p.1.length < 3 → p.2 = []) → Inv v (done ++ r) (r.foldl (stp v) p) ∧ ((r.foldl (stp v) p).1.length < 3 → (r.foldl (stp v) p).2 = []) := by
    intro r
    induction r with
    | nil => intro done p h ht; rw [List.append_nil]; exact ⟨h, ht⟩
    | cons x r ih =>
      intro done p h ht
      have s := inv_step hB h ht x
      have := ih (done ++ [x]) (stp v p x) s.1 s.2
      rw [List.append_assoc] at this
      exact this
  have := gen l [] ([], []) ⟨rfl, List.Perm.refl _, fun b hb => absurd hb List.not_mem_nil, fun t ht => absurd ht List.not_mem_nil⟩ fun _ => rfl
  rw [List.nil_append] at this
  exact this
theorem eraseP_map (x : Addr) : ∀ {as : List Addr}, as.any (fun y => decide (v y = v x)) = true → (as.map v).Perm (v x :: (as.eraseP (fun y => decide (v y = v x))).map v)
  | [], h => by simp at h
  | a :: as, h => by
    by_cases e : v a = v x
    · simp [e]
    · have h' : as.any (fun y => decide (v y = v x)) = true := by simpa [e] using h
      have ih := eraseP_map x h'
      simp only [List.eraseP_cons, e, decide_false, cond_false, List.map_cons]
      exact (ih.cons _).trans (List.Perm.swap _ _ _)
theorem ud_pure : ∀ (l as ms : List Addr) (rem : List Pt), (as.map v ++ rem).Perm (l.map v) → ∃ lo, udrun v l as ms = (ms ++ lo, []) ∧ (lo.map v ++ as.map v).Perm (l.map v) ∧ ∀ b ∈ lo, b ∈ l
  | [], as, ms, rem, h => by
    have h0 := h.length_eq
    simp only [List.length_append, List.length_map, List.length_nil] at h0
    have : as = [] := List.eq_nil_of_length_eq_zero (by omega)
    subst this
    exact ⟨[], by simp [udrun], List.Perm.refl _, fun b hb => hb⟩
  | x :: r, as, ms, rem, h => by
    rw [udrun]
    by_cases ha : as.any (fun y => decide (v y = v x)) = true
    · rw [if_pos ha]
      have pe := eraseP_map x ha
      have h' : ((as.eraseP (fun y => decide (v y = v x))).map v ++ rem).Perm (r.map v) := by
        have q := (pe.symm.append_right rem).trans h
        rw [List.map_cons, List.cons_append] at q
        exact q.cons_inv
      obtain ⟨lo, e, p, m⟩ := ud_pure r _ ms rem h'
      refine ⟨lo, e, ?_, fun b hb => .tail _ (m b hb)⟩
      rw [List.map_cons]
      exact ((pe.append_left _).trans List.perm_middle).trans (p.cons _)
    · rw [if_neg ha]
      have hn : v x ∉ as.map v := fun hm => ha (by
        obtain ⟨y, hy, e⟩ := List.mem_map.mp hm
        exact List.any_eq_true.mpr ⟨y, hy, decide_eq_true e⟩)
      have hx : v x ∈ rem := by
        have : v x ∈ as.map v ++ rem := h.mem_iff.mpr (by simp)
        rcases List.mem_append.mp this with q | q
        · exact absurd q hn
        · exact q
      have pr := List.perm_cons_erase hx
      have h' : (as.map v ++ rem.erase (v x)).Perm (r.map v) := by
        have q := ((pr.symm.append_left (as.map v)).trans h)
        have q2 := (List.perm_middle (a := v x) (l₁ := as.map v) (l₂ := rem.erase (v x))).symm.trans q
        rw [List.map_cons] at q2
        exact q2.cons_inv
      obtain ⟨lo, e, p, m⟩ := ud_pure r as (ms ++ [x]) _ h'
      refine ⟨x :: lo, by rw [e]; simp, ?_, fun b hb => ?_⟩
      · simp only [List.map_cons, List.cons_append]
        exact p.cons _
      · rcases List.mem_cons.mp hb with rfl | hb
        · exact .head _
        · exact .tail _ (m b hb)
theorem ud_inv {l hs ts : List Addr} (h : Inv v l (hs, ts)) : ∃ lo, udrun v l.reverse hs [] = (lo, []) ∧ (lo.map v).Perm (ts.map v) ∧ (∀ b ∈ lo, b ∈ l) ∧ lo.length = ts.length := by
  have hp := h.perm
  dsimp only at hp
  have q0 : (hs.map v ++ ts.map v).Perm (l.reverse.map v) := by
    have := (hp.trans (List.reverse_perm l).symm).map v
    rw [List.map_append] at this
    exact this
  obtain ⟨lo, e, p, m⟩ := ud_pure l.reverse hs [] (ts.map v) q0
  have q1 : (lo.map v ++ hs.map v).Perm (ts.map v ++ hs.map v) := p.trans (q0.symm.trans List.perm_append_comm)
  have q2 := (List.perm_append_right_iff (hs.map v)).mp q1
  refine ⟨lo, by simpa using e, q2, fun b hb => by simpa using m b hb, by simpa using q2.length_eq⟩
end
end Mine
namespace Mine
open PyProof.Rows.TI
local macro_rules | `(tactic| k_room) => `(tactic| ktr_room)
local macro_rules | `(tactic| k_units) => `(tactic| ktr_units)
local macro_rules | `(tactic| k_enter) => `(tactic| (refine' code_def2 ?zqk2 ?zqk3 ?zqk4 ?zqk5 ?zqk6 ?zqk7 ?zqk8 ?zqk9 ?zqkB ?_ ?zqc2 ?zqc3 ?zqc4 ?zqc5; (case zqk2 => k_asm); (case zqk3 => k_asm); (case zqk4 => k_asm); (case zqk5 => k_asm); (case zqk6 => k_is); (case zqk7 => k_is); (case zqk8 => k_room); (case zqk9 => exact BindsTo.of_eq rfl); (case zqc5 => decide); (case zqkB => exact locs rfl); (case zqc2 => exact rfl); (case zqc3 => exact rfl); (case zqc4 => exact rfl); k_whole; intro g' L' h' FG' F' N' X' T' kp'; (try dsimp only); (try k_fold)))
local macro_rules | `(tactic| walk_at "binaryOp Add ref ref") => `(tactic| (k_here; (with_reducible show wpAny _ _ (binaryOp _ (Value.ref _) (Value.ref _)) _ _ _); k_dflt (refine' add_one ?zqF ?zqN ?zqa ?zqb ?zqz ?_; (case zqF => k_asm); (case zqN => k_asm); (case zqa => k_mem); (case zqb => k_mem); (case zqz => omega); k_whole); intro D' h' F' N' l1; (try k_lt l1); (try k_sweep)))
local macro_rules | `(tactic| walk_at "subscriptTail Name Slice ref ref") => `(tactic| (k_here; (with_reducible show wpAny _ _ (subscriptTail _ (PySem.Expr.Slice none none none _) (Value.ref _) (Value.ref _)) _ _ _); k_dflt (refine' cut_all ?zqF ?zqN ?zql ?zqz ?_ ?zqs ?zqt; (case zqF => k_asm); (case zqN => k_asm); (case zql => k_mem); (case zqz => first | omega | (simp only [List.length_append, List.length_cons, List.length_nil]; omega)); (case zqs => with_unfolding_all rfl); (case zqt => kmk_pure)); intro D' h' F' N' l1; (try k_lt l1); (try k_sweep)))
local macro_rules | `(tactic| walk_at "call builtin:len") => `(tactic| (k_here; (show wpAny _ _ (call (Value.builtin "len") [Value.ref _]) _ _ _); k_dflt (refine' len_refs ?zqN ?zqa ?zqz ?_; (case zqN => k_asm); (case zqa => k_mem); (case zqz => omega); k_whole)))
local macro_rules | `(tactic| walk_at "call ref") => `(tactic| (k_here; (with_reducible show wpAny _ _ (call (Value.ref 21) [Value.ref _, Value.ref _]) _ _ _); k_dflt (refine' heappush_K2 _ ?zqF ?zqX ?zqN ?zqU ?zqT ?zqhk ?zqhl ?zqr ?zqrx ?zqe ?zqhd ?zqhu ?_; (case zqF => k_asm); (case zqX => k_asm); (case zqN => k_asm); (case zqU => k_updF); (case zqT => k_asm); (case zqhk => exact rfl); (case zqe => assumption); (case zqhl => omega); (case zqr => assumption); (case zqrx => assumption); (case zqhd => k_room); (case zqhu => k_units); k_whole); intro h' tk' n' F' N'; (try dsimp only at N'); (try k_sweep)))
local macro_rules | `(tactic| walk_at "call ref") => `(tactic| (k_here; (with_reducible show wpAny _ _ (call (Value.ref 70) [Value.ref _, Value.ref _]) _ _ _); k_dflt (refine' ud_app _ ?zqF ?zqX ?zqN ?zqT ?zqhk ?zqFs ?zql1 ?zql2 ?zqhRL ?zqre ?zqra ?zqz1 ?zqz2 ?zqe ?zqhd ?zqhu ?_; (case zqF => k_asm); (case zqX => k_asm); (case zqN => k_asm); (case zqT => k_asm); (case zqhk => exact rfl); (case zqFs => assumption); (case zql1 => first | assumption | (simp only [AllLt]; assumption)); (case zql2 => omega); (case zqhRL => k_all); (case zqe => assumption); (case zqre => assumption); (case zqra => assumption); (case zqz1 => (simp only [List.length_append, List.length_cons, List.length_nil]; omega)); (case zqz2 => omega); (case zqhd => k_room); (case zqhu => k_units); k_whole); intro h' tk' D' M' n1' n3' n4' ol' up' fs' F' N' l1' l2'; (try k_sweep)))
local macro_rules | `(tactic| walk_at "call ref") => `(tactic| (k_here; (with_reducible show wpAny _ _ (call (Value.ref 70) [Value.ref _, Value.ref _]) _ _ _); k_dflt (refine' ud_app5 _ ?zqF ?zqX ?zqN ?zqT ?zqhk ?zqFs ?zql1 ?zql2 ?zqhRL ?zqre ?zqra ?zqz1 ?zqz2 ?zqe ?zqhd ?zqhu ?_; (case zqF => k_asm); (case zqX => k_asm); (case zqN => k_asm); (case zqT => k_asm); (case zqhk => exact rfl); (case zqFs => assumption); (case zql1 => first | assumption | (simp only [AllLt]; assumption)); (case zql2 => omega); (case zqhRL => k_all); (case zqe => assumption); (case zqre => assumption); (case zqra => assumption); (case zqz1 => (simp only [List.length_append, List.length_cons, List.length_nil]; omega)); (case zqz2 => omega); (case zqhd => k_room); (case zqhu => k_units); k_whole); intro h' tk' D' M' n1' n3' n4' ol' up' fs' F' N' l1' l2'; (try k_sweep)))
local macro_rules | `(tactic| walk_at "call builtin:sorted") => `(tactic| (k_here; (show wpAny _ _ (call (Value.builtin "sorted") [Value.ref _]) _ _ _); k_dflt (refine' sorted_K ?zqB ?zqF ?zqN ?zqa ?zqz ?zqr ?zqu ?_; (case zqB => assumption); (case zqF => k_asm); (case zqN => k_asm); (case zqa => k_mem); (case zqr => assumption); (case zqz => omega); (case zqu => k_units); k_whole); intro D' h' n' out' F' N' l1 hp' hu'; (try k_lt l1); (try k_sweep)))
local macro_rules | `(tactic| walk_at "compareOp Eq ref ref") => `(tactic| (k_here; (with_reducible show wpAny _ _ (compareOp CmpOp.Eq (Value.ref _) (Value.ref _)) _ _ _); k_dflt (first
  | (refine' eq_sorted ?zqB ?zqN ?zqa ?zqb ?zqF ?zqp1 ?zqu1 ?zqp2 ?zqu2 ?zqp ?zqr1 ?zqr2 ?zqu ?_; (case zqB => assumption); (case zqN => k_asm); (case zqF => k_asm); (case zqa => k_mem); (case zqb => k_mem); (case zqp1 => assumption); (case zqp2 => assumption); (case zqu1 => assumption); (case zqu2 => assumption); (case zqp => assumption); (case zqr1 => assumption); (case zqr2 => assumption); (case zqu => k_units); k_whole)
  | (refine' eq_twin ?zqN ?zqa ?zqb ?zqF ?zqr ?zqu ?_; (case zqN => k_asm); (case zqF => k_asm); (case zqa => k_mem); (case zqb => k_mem); (case zqr => assumption); (case zqu => k_units); k_whole))))
local macro_rules | `(tactic| walk_at "eval ListComp") => `(tactic| (k_here; k_dflt (refine LCg.ListComp_U (F₀ := by k_asm) (by rfl) (by decide) (by rfl) (by decide) (by rfl) ?_)))
local macro_rules | `(tactic| walk_at "CompSrc") => `(tactic| (k_here; k_dflt (refine' LCg.CompSrc.ledger ?zqh ?zqF ?zqN ?zqm ?zqz ?_; (case zqh => exact rfl); (case zqF => k_asm); (case zqN => k_asm); (case zqm => k_mem); (case zqz => (rw [refs_size, sizeLine_eq]; first | omega | (simp only [List.length_append, List.length_cons, List.length_nil]; omega))); intro g9; refine' comp_cnt ?zqmk ?zqS ?zqrc ?zqone ?zqfin _ 0 [] ?zqk IntsAre.nil; (case zqmk => assumption); (case zqrc => assumption); (case zqS => exact Or.inr ⟨_, by k_mem, rfl, _, rfl⟩); (case zqk => (rw [refs_size]; exact Nat.zero_add _)); (case' zqone => intro b9 I9 oI9 C9 oC9 D9 ys9 m9 h9 tk9 E9 rb9 hn9 hx9 F9 N9; (try k_sweep)); (case' zqfin => intro ys9 hi9))))
local macro_rules | `(tactic| walk_at "CntEnd") => `(tactic| (k_here; exact CntEnd.intro (by k_asm) (by k_asm)))
local macro_rules | `(tactic| walk_at "call ref") => `(tactic| (k_here; (with_reducible show wpAny _ _ (call (Value.ref 56) [Value.ref _, Value.ref _]) _ _ _); k_dflt (refine' countOf_K _ ?zqF ?zqX ?zqN ?zqm ?zqT ?zqz ?zqr ?zqrx ?zqhd ?zqhu ?_; (case zqF => k_asm); (case zqX => k_asm); (case zqN => k_asm); (case zqm => k_mem); (case zqT => k_asm); (case zqr => assumption); (case zqrx => assumption); (case zqz => omega); (case zqhd => k_room); (case zqhu => k_units); k_whole); intro h' tk' t' F' N'; (try k_sweep)))
local macro_rules | `(tactic| walk_at "call builtin:list.append") => `(tactic| (k_here; (show wpAny _ _ (call (Value.builtin "list.append") [Value.ref _, Value.ref _]) _ _ _); k_dflt (refine' append_cat ?zqk1 ?zqk2 ?zqk3 ?zqz ?_; (case zqk1 => k_asm); (case zqk2 => k_asm); (case zqk3 => k_upd); (case zqz => omega); k_whole); intro h' F' N'; (try k_sweep)))
local macro_rules | `(tactic| walk_at "call ref") => `(tactic| (k_here; (with_reducible show wpAny _ _ (call (Value.ref 35) [Value.ref _, Value.ref _]) _ _ _); k_dflt (refine' heappushpop_K2 _ ?zqF ?zqX ?zqN ?zqU ?zqT ?zqhk ?zqhl ?zqr ?zqrx ?zqe ?zqe2 ?zqhd ?zqhu ?_; (case zqF => k_asm); (case zqX => k_asm); (case zqN => k_asm); (case zqU => k_updF); (case zqT => k_asm); (case zqhk => exact rfl); (case zqe => assumption); (case zqe2 => assumption); (case zqhl => exact rfl); (case zqr => assumption); (case zqrx => assumption); (case zqhd => k_room); (case zqhu => k_units); k_whole); intro h' tk' n' F' N'; (try dsimp only at N'); (try k_sweep)))
local macro_rules | `(tactic| walk_at "call ref") => `(tactic| (k_here; (with_reducible show wpAny _ _ (call (Value.ref 28) [Value.ref _, Value.ref _]) _ _ _); k_dflt (refine' heapreplace_K2 _ ?zqF ?zqX ?zqN ?zqU ?zqT ?zqhk ?zqr ?zqrx ?zqe ?zqhd ?zqhu ?_; (case zqF => k_asm); (case zqX => k_asm); (case zqN => k_asm); (case zqU => k_updF); (case zqT => k_asm); (case zqhk => exact rfl); (case zqe => assumption); (case zqr => assumption); (case zqrx => assumption); (case zqhd => k_room); (case zqhu => k_units); k_whole); intro h' tk' n' F' N'; (try dsimp only at N'); (try k_sweep)))
local macro_rules | `(tactic| ktr_rel) => `(tactic| first | (with_reducible assumption) | (refine' RowAt.keeps ?kx (Fr.keep ?ky); (case ky => with_reducible assumption); (case kx => ktr_rel)))
local macro_rules | `(tactic| walk_at "compareOp Lt ref ref") => `(tactic| (k_here; (with_reducible show wpAny _ _ (compareOp CmpOp.Lt (Value.ref _) (Value.ref _)) _ _ _); k_dflt (refine' cmp_ltE ?zqF ?zqk2 ?zqk3 ?zqe ?zqk4 ?_; (case zqe => assumption); (case zqk2 => assumption); (case zqk3 => assumption); (case zqF => k_asm); (case zqk4 => k_units); k_whole)))
section
variable (w : World) {mean : ExcName → Option Value} {mg mb : Str → Option Value} {dp un : Nat} {gd : Option (List Code)} {cn : Str} {cs : Scope} {a : Addr} {ccd : Value} {cl : List (Str × Addr)} {h₀ : Heap} {L : Addr} {m : Str → Option Value} {s : Shared}
    {Q E : Value → Shared → Prop} {R : Addr} {v : Addr → Pt} {rs : List Addr}
theorem told_ok
    (F : Fr h₀ L s.heap m) (X : (Mine.hd.heap_39 w.params).In h₀) (T : Top Mine.hd.view_39 (looseW Mine.hd.view_39 []) mean mg mb h₀) (hk : cs.kind = .function)
    (hR : s.heap.IsList R (refs rs)) (hB : ∀ a, Bd (v a)) (hz : rs.length ≤ 40) (r : ∀ b ∈ rs, RowAt s.heap b (v b)) (hd : dp + 20 < recursionLimit) (hu : un + 200 < cLine)
    (ret : ∀ h' tk' g T0 dyn tl n5, (∀ b o, s.heap.get? b = some o → b ≠ L → h'.get? b = some o) → Fr h₀ L h' m → (∀ b o, g.get? b = some o → h'.get? b = some o) → ToldOk g dyn tl (toldD v rs rs.length) → (∀ p ∈ dyn, h'.get? p.1 = some p.2) →
      h'.get? T0 = some (listOf (refs tl) n5) → tl.length = rs.length → Q (.ref T0) { s with heap := h', toks := tk' }) :
    wpAny (model PySem.Challenge.rw_ny0078_01.row.prog w) (ktrTop dp un gd cn cs L a ccd cl []) (call (.ref 75) [.ref R]) Q E s := by
  revert X; k_fill; intro X
  obtain ⟨oL, es, ep, hL, hLd, hLk, hLf⟩ := id F.ns
  have hL0 : h₀.get? L = none := Heap.get?_none_of_le F.above
  refine wpAny_call ?_
  k_dflt (refine' code_cells F X T [L] ?kY ?k6 ?k7 ?k8 ?k9 ?kB ?kD ?_ ?c2 ?c3 ?c4; (case kY => exact fun b hb => by rw [List.mem_singleton.mp hb]; exact hL0); (case k6 => k_is); (case k7 => k_is); (case k8 => k_room); (case k9 => exact BindsTo.of_eq rfl); (case kD => decide +kernel); (case kB => exact rfl); (case c2 => exact rfl); (case c3 => exact rfl); (case c4 => exact rfl); k_whole; intro g L' h' tk' cells' kg gk gY kh lt' F' NC' Y' nc' X' T'; (try dsimp only); k_cells Y'; (try dsimp only); (try k_fold))
  have hLL : L < L' := lt' L oL hL
  have lst_g : ∀ b its, s.heap.IsList b its → g.IsList b its := fun b its ⟨o, e, c, n, d⟩ => ⟨o, kg b o e (fun q => by rw [List.mem_singleton.mp q, hL] at e; cases e; rw [hLd] at d; cases d), c, n, d⟩
  have hRg : g.IsList R (rs.map Value.ref).toArray := lst_g _ _ hR
  have rg : ∀ b ∈ rs, RowAt g b (v b) := fun b hb => by
    obtain ⟨t, u, q⟩ := r b hb
    exact ⟨t, u, lst_g _ _ q⟩
  rename_i o' d1'
  have N' : News g L' h' [(L' + 1, o'), (L, oL)] := fun q hq => by
    rcases List.mem_cons.mp hq with rfl | hq
    · exact NC' _ (.head _)
    · rw [List.mem_singleton.mp hq]
      exact ⟨kh L oL hL, Nat.ne_of_lt hLL, gY L (.head _)⟩
  have hlc : @LT.lt Nat _ L (L' + 1) := Nat.lt_succ_of_lt hLL
  clear NC' kh
  repeat' ((fail_if_success with_reducible show wpAny _ _ (exec (Stmt.For _ _ _ _ _) _) _ _ _); first | (k_unfold; (try dsimp only)) | (k_end; wrow_close) | walk1 | (dsimp only; walk1) | (leave1; try dsimp only))
  rename_i H _ hl1 _ oc dc _ O _ hl2 _ _ Th0 _ hl3 _ _ C0 _ hl4 _ T0 _ hl5 h1 F1 N1
  refine For_invV g rfl rfl ?_
  repeat' ((fail_if_success with_reducible show wpAny _ _ (pyIter _) _ _ _); first | (k_unfold; (try dsimp only)) | walk1)
  refine iter_st (σ := TdS) (tdLed L H O T0 (L' + 1) oc) tdPs tdSt (TdP g L H O T0 oL v rs)
    ⟨oL, [], [], [], [], 0, 0, 0, 0, 0, Th0, C0, []⟩ rfl hRg F1 ?_ ?_ ?_ ?_ ?_
  · intro q hq
    simp only [tdLed, List.mem_cons, List.not_mem_nil, or_false] at hq
    rcases hq with rfl | rfl | rfl | rfl | rfl | rfl | rfl <;> exact N1 _ (by simp [refs])
  · intro q hq
    simp only [tdPs, List.mem_cons, List.not_mem_nil, or_false] at hq
    rcases hq with rfl | rfl <;> rfl
  · refine ⟨rfl, rfl, .nil, (fun p hp => absurd hp (List.not_mem_nil)), ⟨oL.slots, rfl⟩, ?_, ?_, ?_, ?_, ?_, ?_, ?_, ?_, rfl⟩ <;> (dsimp only; omega)
  · intro i u c um h2 tk2 I oI hi hP hI F2 N2
    obtain ⟨ol, hs, ts, ccs, tl, n1, n2, n3, n4, n5, Th, C, dyn⟩ := c
    obtain ⟨hst, hcs, htold, hoff, hol, hT1, hT2, hT3, hT4, hC1, hC2, hC3, hC4, htl⟩ := hP
    dsimp only [tdLed, tdPs] at hst hcs htold hoff hol hT1 hT2 hT3 hT4 hC1 hC2 hC3 hC4 htl hI F2 N2
    obtain ⟨x, hx, rfl⟩ : ∃ x, rs[i]? = some x ∧ u = .ref x := by
      rw [List.getElem?_map] at hi
      cases hq : rs[i]? with
      | none => rw [hq] at hi; cases hi
      | some b => rw [hq] at hi; exact ⟨b, rfl, by simpa using hi.symm⟩
    have rx := rg x (List.mem_of_getElem? hx)
    have hI1 : @Ne Nat L I ∧ @Ne Nat H I ∧ @Ne Nat O I ∧ @Ne Nat T0 I ∧ @Ne Nat (L' + 1) I ∧ @Ne Nat Th I ∧ @Ne Nat C I :=
      ⟨hI (L, ol) (by simp), hI (H, listOf (refs hs) n1) (by simp), hI (O, listOf (refs hs) n2) (by simp), hI (T0, listOf (refs tl) n5) (by simp), hI (L' + 1, oc) (by simp), hI (Th, listOf (refs ts) n3) (by simp), hI (C, listOf (refs ccs) n4) (by simp)⟩
    have hId : ∀ p ∈ dyn, p.1 ≠ I := fun p hp => hI p (by simp [hp])
    clear F1 N1
    have hzc : ccs.length ≤ 40 := by rw [hcs, List.length_take]; omega
    have hztl : tl.length ≤ 40 := by
      have := (List.getElem?_eq_some_iff.mp hx).1
      omega
    have ivp := inv_st hB (rs.take i)
    rw [← hst] at ivp
    obtain ⟨iv, ivt⟩ := ivp
    have ivs := inv_step hB iv ivt x
    have pl := iv.perm.length_eq
    have hzh : hs.length ≤ 3 := by have := iv.len; dsimp only at this; omega
    have hzt : ts.length ≤ 40 := by rw [← hcs] at pl; simp only [List.length_append] at pl; omega
    have rtk : ∀ b ∈ rs.take i, RowAt g b (v b) := fun b hb => rg b (List.mem_of_mem_take hb)
    have rhs : ∀ b ∈ hs, RowAt g b (v b) := fun b hb => rtk b (iv.perm.mem_iff.mp (List.mem_append_left _ hb))
    have rts : ∀ b ∈ ts, RowAt g b (v b) := fun b hb => rtk b (iv.perm.mem_iff.mp (List.mem_append_right _ hb))
    have rcs : ∀ b ∈ ccs ++ [x], RowAt g b (v b) := fun b hb => by
      rcases List.mem_append.mp hb with hb | hb
      · rw [hcs] at hb; exact rtk b hb
      · rw [List.mem_singleton.mp hb]; exact rx
    have hfs : Frs [envX cn cs L a ccd cl] [(L, ol)] := by
      obtain ⟨sl, rfl⟩ := hol
      exact ⟨by show cs.kind ≠ .module; rw [hk]; decide, rfl, ⟨es, ep, hLd⟩, trivial⟩
    rcases Nat.lt_or_ge hs.length 3 with hlen | hlen
    rotate_left
    · have hl3 : hs.length = 3 := by omega
      obtain ⟨y0, y1, y2, rfl⟩ : ∃ y0 y1 y2, hs = [y0, y1, y2] := by
        match hs, hl3 with
        | [p, q, r], _ => exact ⟨p, q, r, rfl⟩
      have ivs' := ivs.1
      have ry0 : RowAt g y0 (v y0) := rhs y0 (by simp)
      cases hq0 : plt (v y0) (v x) with
      | true =>
        have hq1 : alt v y0 x = true := hq0
        have hpv : popV v [y0, y1, y2] x = y0 := by simp only [popV, hq1, if_true]
        have hpu : popH v [y0, y1, y2] x = up3 v x y1 y2 := by simp only [popH, hq1, if_true]
        have ppm := up3_perm (v := v) x y1 y2
        obtain ⟨h0, tt, hup⟩ : ∃ h0 tt, up3 v x y1 y2 = h0 :: tt := by
          cases hq : up3 v x y1 y2 with
          | nil => rw [hq] at ppm; exact absurd ppm.length_eq (by simp)
          | cons h0 tt => exact ⟨h0, tt, rfl⟩
        have hpop : popH v [y0, y1, y2] x = h0 :: tt := hpu.trans hup
        have hstp : stp v ([y0, y1, y2], ts) x = (h0 :: tt, ts ++ [y0]) := by unfold stp; dsimp only; rw [if_neg (by simp), hpop, hpv]
        rw [hstp, ← hcs] at ivs'
        rw [hup] at ppm
        have hztt : (h0 :: tt).length ≤ 3 := by rw [ppm.length_eq]; simp
        have rh' : ∀ b ∈ h0 :: tt, RowAt g b (v b) := fun b hb => by
          have := ppm.mem_iff.mp hb
          simp only [List.mem_cons, List.not_mem_nil, or_false] at this
          rcases this with rfl | rfl | rfl
          · exact rx
          · exact rhs _ (by simp)
          · exact rhs _ (by simp)
        have rts2 : ∀ b ∈ ts ++ [y0], RowAt g b (v b) := fun b hb => by
          rcases List.mem_append.mp hb with hb | hb
          · exact rts b hb
          · rw [List.mem_singleton.mp hb]; exact rhs _ (by simp)
        have hzt2 : (ts ++ [y0]).length ≤ 41 := by simp; omega
        obtain ⟨lo, hud, hlo, hlm, hll⟩ := ud_inv ivs'
        have rlo : ∀ b ∈ lo, RowAt g b (v b) := fun b hb => rcs b (hlm b hb)
        have hzlo : lo.length ≤ 41 := by omega
        clear ivs ivs' ivt pl
        have hmk : CntMark v (h0 :: tt) := trivial
        repeat' ((fail_if_success with_reducible show LCg.CompSrc _ _ _ _ _ _ _ _ _ _ _ _ _ _); first | (k_unfold; (try dsimp only)) | (k_end; wrow_close) | walk1 | (dsimp only; walk1) | (leave1; try dsimp only))
        set_option maxHeartbeats 400000 in
        all_goals (
          refine' LCg.CompSrc.ledger ?zqh ?zqF ?zqN ?zqm ?zqz ?_
          (case zqh => exact rfl)
          (case zqF => k_asm)
          (case zqN => k_asm)
          (case zqm => k_mem)
          (case zqz => (rw [refs_size, sizeLine_eq]; first | omega | (simp only [List.length_append, List.length_cons, List.length_nil]; omega)))
          intro g9
          refine' comp_cnt ?zqmk ?zqS ?zqrc ?zqone ?zqfin _ 0 [] ?zqk IntsAre.nil
          (case zqmk => assumption)
          (case zqrc => assumption)
          (case zqS => exact Or.inr ⟨_, by k_mem, rfl, _, rfl⟩)
          (case zqk => (rw [refs_size]; exact Nat.zero_add _)))
        · intro b9 I9 oI9 C9 oC9 D9 ys9 m9 h9 tk9 E9 rb9 hn9 hx9 F9 N9
          k_sweep
          repeat' ((fail_if_success with_reducible show wpAny _ _ (call (Value.ref 56) _) _ _ _); first | (k_unfold; (try dsimp only)) | (k_end; wrow_close) | walk1 | (dsimp only; walk1) | (leave1; try dsimp only))
          set_option maxHeartbeats 400000 in
          all_goals (
            refine' countOf_K _ ?zqF ?zqX ?zqN ?zqm ?zqT ?zqz ?zqr ?zqrx ?zqhd ?zqhu ?_
            (case zqF => k_asm)
            (case zqX => k_asm)
            (case zqN => k_asm)
            (case zqm => k_mem)
            (case zqT => k_asm)
            (case zqr => assumption)
            (case zqrx => assumption)
            (case zqz => omega)
            (case zqhd => k_room)
            (case zqhu => k_units)
            intro h' tk' t' F' N'
            k_unfold
            exact CntEnd.intro (by k_asm) (by k_asm))
        · intro ys9 hi9
          k_steps
          rename Fr g _ _ _ => F5
          rename News g _ _ _ => N5
          refine' turn_end (ol := ol) (dyn := dyn) F5 N5 ?zqL ?zqH ?zqO ?zqT ?zqc ?zqTh ?zqC ?zqI ?zqa ?zqm ?zqco ?zqd ?zqnc ?zqnt ?zqnr ?zqd1 ?zqd2 ?zqd3 ?zqd4 ?zqd5 ?zqd6 hoff hId hol ?zqol ?zqst ?zqcs htold ?zqr ?zqh ?zqi htl
          (case zqnc => rfl)
          (case zqnt => rfl)
          (case zqL => k_mem)
          (case zqH => k_mem)
          (case zqO => k_mem)
          (case zqT => k_mem)
          (case zqc => k_mem)
          (case zqTh => k_mem)
          (case zqC => k_mem)
          (case zqI => k_mem)
          (case zqa => k_mem)
          (case zqm => k_mem)
          (case zqco => k_mem)
          (case zqd => (intro p hp; k_ownIn))
          (case zqd1 => (refine ⟨?_, ?_, ?_, ?_, ?_⟩ <;> omega))
          (case zqd2 => (refine ⟨?_, ?_, ?_, ?_, ?_⟩ <;> omega))
          (case zqd3 => (rename (@Ne Nat _ _ ∧ _) => ho9; refine ⟨Ne.symm ?_, Ne.symm ?_, Ne.symm ?_, Ne.symm ?_, Ne.symm ?_⟩ <;> repeat (first | exact ho9.1 | replace ho9 := ho9.2)))
          (case zqd4 => exact ⟨hI1.1, hI1.2.1, hI1.2.2.1, hI1.2.2.2.1, hI1.2.2.2.2.1⟩)
          (case zqd5 => (refine ⟨?_, ?_, ?_, ?_, ?_⟩ <;> omega))
          (case zqd6 => (refine ⟨?_, ?_, ?_, ?_, ?_⟩ <;> omega))
          (case zqol => assumption)
          (case zqst => (rw [take_snoc hx, st_snoc, ← hst]; exact hstp.symm))
          (case zqcs => (rw [take_snoc hx, hcs]))
          (case zqr => exact rh' _ (by simp))
          (case zqh => rfl)
          (case zqi => exact hi9)
          (case zqnr => (intro z h1 h2 h3; obtain ⟨e1, e2, e3⟩ := tdSt_ne h3; simp only [kstB, if_neg h1, if_neg h2, if_neg e1, if_neg e2, if_neg e3, h3, Bool.false_eq_true, if_false]))
      | false =>
        have hq1 : alt v y0 x = false := hq0
        have hpv : popV v [y0, y1, y2] x = x := by simp only [popV, hq1, Bool.false_eq_true, if_false]
        have hpop : popH v [y0, y1, y2] x = [y0, y1, y2] := by simp only [popH, hq1, Bool.false_eq_true, if_false]
        have hstp : stp v ([y0, y1, y2], ts) x = ([y0, y1, y2], ts ++ [x]) := by unfold stp; dsimp only; rw [if_neg (by simp), hpop, hpv]
        rw [hstp, ← hcs] at ivs'
        have hztt : [y0, y1, y2].length ≤ 3 := by simp
        have rh' := rhs
        have rts2 : ∀ b ∈ ts ++ [x], RowAt g b (v b) := fun b hb => by
          rcases List.mem_append.mp hb with hb | hb
          · exact rts b hb
          · rw [List.mem_singleton.mp hb]; exact rx
        have hzt2 : (ts ++ [x]).length ≤ 41 := by simp; omega
        obtain ⟨lo, hud, hlo, hlm, hll⟩ := ud_inv ivs'
        have rlo : ∀ b ∈ lo, RowAt g b (v b) := fun b hb => rcs b (hlm b hb)
        have hzlo : lo.length ≤ 41 := by omega
        clear ivs ivs' ivt pl
        have hmk : CntMark v [y0, y1, y2] := trivial
        repeat' ((fail_if_success with_reducible show LCg.CompSrc _ _ _ _ _ _ _ _ _ _ _ _ _ _); first | (k_unfold; (try dsimp only)) | (k_end; wrow_close) | walk1 | (dsimp only; walk1) | (leave1; try dsimp only))
        set_option maxHeartbeats 400000 in
        all_goals (
          refine' LCg.CompSrc.ledger ?zrh ?zrF ?zrN ?zrm ?zrz ?_
          (case zrh => exact rfl)
          (case zrF => k_asm)
          (case zrN => k_asm)
          (case zrm => k_mem)
          (case zrz => (rw [refs_size, sizeLine_eq]; first | omega | (simp only [List.length_append, List.length_cons, List.length_nil]; omega)))
          intro g9
          refine' comp_cnt ?zrmk ?zrS ?zrrc ?zrone ?zrfin _ 0 [] ?zrk IntsAre.nil
          (case zrmk => assumption)
          (case zrrc => assumption)
          (case zrS => exact Or.inr ⟨_, by k_mem, rfl, _, rfl⟩)
          (case zrk => (rw [refs_size]; exact Nat.zero_add _)))
        · intro b9 I9 oI9 C9 oC9 D9 ys9 m9 h9 tk9 E9 rb9 hn9 hx9 F9 N9
          k_sweep
          repeat' ((fail_if_success with_reducible show wpAny _ _ (call (Value.ref 56) _) _ _ _); first | (k_unfold; (try dsimp only)) | (k_end; wrow_close) | walk1 | (dsimp only; walk1) | (leave1; try dsimp only))
          set_option maxHeartbeats 400000 in
          all_goals (
            refine' countOf_K _ ?zrF ?zrX ?zrN ?zrm ?zrT ?zrz ?zrr ?zrrx ?zrhd ?zrhu ?_
            (case zrF => k_asm)
            (case zrX => k_asm)
            (case zrN => k_asm)
            (case zrm => k_mem)
            (case zrT => k_asm)
            (case zrr => assumption)
            (case zrrx => assumption)
            (case zrz => omega)
            (case zrhd => k_room)
            (case zrhu => k_units)
            intro h' tk' t' F' N'
            k_unfold
            exact CntEnd.intro (by k_asm) (by k_asm))
        · intro ys9 hi9
          k_steps
          rename Fr g _ _ _ => F5
          rename News g _ _ _ => N5
          refine' turn_end (ol := ol) (dyn := dyn) F5 N5 ?zrL ?zrH ?zrO ?zrT ?zrc ?zrTh ?zrC ?zrI ?zra ?zrm ?zrco ?zrd ?zrnc ?zrnt ?zrnr ?zrd1 ?zrd2 ?zrd3 ?zrd4 ?zrd5 ?zrd6 hoff hId hol ?zrol ?zrst ?zrcs htold ?zrr ?zrh ?zri htl
          (case zrnc => rfl)
          (case zrnt => rfl)
          (case zrL => k_mem)
          (case zrH => k_mem)
          (case zrO => k_mem)
          (case zrT => k_mem)
          (case zrc => k_mem)
          (case zrTh => k_mem)
          (case zrC => k_mem)
          (case zrI => k_mem)
          (case zra => k_mem)
          (case zrm => k_mem)
          (case zrco => k_mem)
          (case zrd => (intro p hp; k_ownIn))
          (case zrd1 => (refine ⟨?_, ?_, ?_, ?_, ?_⟩ <;> omega))
          (case zrd2 => (refine ⟨?_, ?_, ?_, ?_, ?_⟩ <;> omega))
          (case zrd3 => (rename (@Ne Nat _ _ ∧ _) => ho9; refine ⟨Ne.symm ?_, Ne.symm ?_, Ne.symm ?_, Ne.symm ?_, Ne.symm ?_⟩ <;> repeat (first | exact ho9.1 | replace ho9 := ho9.2)))
          (case zrd4 => exact ⟨hI1.1, hI1.2.1, hI1.2.2.1, hI1.2.2.2.1, hI1.2.2.2.2.1⟩)
          (case zrd5 => (refine ⟨?_, ?_, ?_, ?_, ?_⟩ <;> omega))
          (case zrd6 => (refine ⟨?_, ?_, ?_, ?_, ?_⟩ <;> omega))
          (case zrol => assumption)
          (case zrst => (rw [take_snoc hx, st_snoc, ← hst]; exact hstp.symm))
          (case zrcs => (rw [take_snoc hx, hcs]))
          (case zrr => exact rh' _ (by simp))
          (case zrh => rfl)
          (case zri => exact hi9)
          (case zrnr => (intro z h1 h2 h3; obtain ⟨e1, e2, e3⟩ := tdSt_ne h3; simp only [kstB, if_neg h1, if_neg h2, if_neg e1, if_neg e2, if_neg e3, h3, Bool.false_eq_true, if_false]))
    · have pln := push_len (v := v) hlen x
      have ppm := push_perm (v := v) hlen x
      have ivs' := ivs.1
      have estp : stp v (hs, ts) x = (push v hs x, ts) := by unfold stp; dsimp only; rw [if_pos hlen]
      rw [estp, ← hcs] at ivs'
      obtain ⟨h0, tt, hpush⟩ : ∃ h0 tt, push v hs x = h0 :: tt := by
        cases hq : push v hs x with
        | nil => rw [hq] at pln; simp at pln
        | cons h0 tt => exact ⟨h0, tt, rfl⟩
      rw [hpush] at pln ppm ivs'
      have hztt : (h0 :: tt).length ≤ 3 := by omega
      have rh' : ∀ b ∈ h0 :: tt, RowAt g b (v b) := fun b hb => by
        rcases List.mem_append.mp (ppm.mem_iff.mp hb) with hb | hb
        · exact rhs b hb
        · rw [List.mem_singleton.mp hb]; exact rx
      obtain ⟨lo, hud, hlo, hlm, hll⟩ := ud_inv ivs'
      have rlo : ∀ b ∈ lo, RowAt g b (v b) := fun b hb => rcs b (hlm b hb)
      have hzlo : lo.length ≤ 40 := by omega
      have hstp : stp v (hs, ts) x = (h0 :: tt, ts) := by rw [estp, hpush]
      clear ivs ivs' ivt pl estp
      have hmk : CntMark v (h0 :: tt) := trivial
      repeat' ((fail_if_success with_reducible show LCg.CompSrc _ _ _ _ _ _ _ _ _ _ _ _ _ _); first | (k_unfold; (try dsimp only)) | (k_end; wrow_close) | walk1 | (dsimp only; walk1) | (leave1; try dsimp only))
      set_option maxHeartbeats 400000 in
      all_goals (
        refine' LCg.CompSrc.ledger ?zsh ?zsF ?zsN ?zsm ?zsz ?_
        (case zsh => exact rfl)
        (case zsF => k_asm)
        (case zsN => k_asm)
        (case zsm => k_mem)
        (case zsz => (rw [refs_size, sizeLine_eq]; first | omega | (simp only [List.length_append, List.length_cons, List.length_nil]; omega)))
        intro g9
        refine' comp_cnt ?zsmk ?zsS ?zsrc ?zsone ?zsfin _ 0 [] ?zsk IntsAre.nil
        (case zsmk => assumption)
        (case zsrc => assumption)
        (case zsS => exact Or.inr ⟨_, by k_mem, rfl, _, rfl⟩)
        (case zsk => (rw [refs_size]; exact Nat.zero_add _)))
      · intro b9 I9 oI9 C9 oC9 D9 ys9 m9 h9 tk9 E9 rb9 hn9 hx9 F9 N9
        k_sweep
        repeat' ((fail_if_success with_reducible show wpAny _ _ (call (Value.ref 56) _) _ _ _); first | (k_unfold; (try dsimp only)) | (k_end; wrow_close) | walk1 | (dsimp only; walk1) | (leave1; try dsimp only))
        set_option maxHeartbeats 400000 in
        all_goals (
          refine' countOf_K _ ?zsF ?zsX ?zsN ?zsm ?zsT ?zsz ?zsr ?zsrx ?zshd ?zshu ?_
          (case zsF => k_asm)
          (case zsX => k_asm)
          (case zsN => k_asm)
          (case zsm => k_mem)
          (case zsT => k_asm)
          (case zsr => assumption)
          (case zsrx => assumption)
          (case zsz => omega)
          (case zshd => k_room)
          (case zshu => k_units)
          intro h' tk' t' F' N'
          k_unfold
          exact CntEnd.intro (by k_asm) (by k_asm))
      · intro ys9 hi9
        k_steps
        rename Fr g _ _ _ => F5
        rename News g _ _ _ => N5
        refine' turn_end (ol := ol) (dyn := dyn) F5 N5 ?zsL ?zsH ?zsO ?zsT ?zsc ?zsTh ?zsC ?zsI ?zsa ?zsm ?zsco ?zsd ?zsnc ?zsnt ?zsnr ?zsd1 ?zsd2 ?zsd3 ?zsd4 ?zsd5 ?zsd6 hoff hId hol ?zsol ?zsst ?zscs htold ?zsr ?zsh ?zsi htl
        (case zsnc => rfl)
        (case zsnt => rfl)
        (case zsL => k_mem)
        (case zsH => k_mem)
        (case zsO => k_mem)
        (case zsT => k_mem)
        (case zsc => k_mem)
        (case zsTh => k_mem)
        (case zsC => k_mem)
        (case zsI => k_mem)
        (case zsa => k_mem)
        (case zsm => k_mem)
        (case zsco => k_mem)
        (case zsd => (intro p hp; k_ownIn))
        (case zsd1 => (refine ⟨?_, ?_, ?_, ?_, ?_⟩ <;> omega))
        (case zsd2 => (refine ⟨?_, ?_, ?_, ?_, ?_⟩ <;> omega))
        (case zsd3 => (rename (@Ne Nat _ _ ∧ _) => ho9; refine ⟨Ne.symm ?_, Ne.symm ?_, Ne.symm ?_, Ne.symm ?_, Ne.symm ?_⟩ <;> repeat (first | exact ho9.1 | replace ho9 := ho9.2)))
        (case zsd4 => exact ⟨hI1.1, hI1.2.1, hI1.2.2.1, hI1.2.2.2.1, hI1.2.2.2.2.1⟩)
        (case zsd5 => exact ⟨hT1, hT2, hT3, hT4, hI1.2.2.2.2.2.1⟩)
        (case zsd6 => (refine ⟨?_, ?_, ?_, ?_, ?_⟩ <;> omega))
        (case zsol => assumption)
        (case zsst => (rw [take_snoc hx, st_snoc, ← hst]; exact hstp.symm))
        (case zscs => (rw [take_snoc hx, hcs]))
        (case zsr => exact rh' _ (by simp))
        (case zsh => rfl)
        (case zsi => exact hi9)
        (case zsnr => (intro z h1 h2 h3; obtain ⟨e1, e2, e3⟩ := tdSt_ne h3; simp only [kstB, if_neg h1, if_neg h2, if_neg e1, if_neg e2, if_neg e3, h3, Bool.false_eq_true, if_false]))
  · intro c um h2 tk2 hP F2 N2
    clear F1 N1
    have hlr : (rs.map Value.ref).length = rs.length := by simp
    rw [hlr] at hP
    obtain ⟨ol, hs, ts, ccs, tl, n1, n2, n3, n4, n5, Th, C, dyn⟩ := c
    obtain ⟨sl, hsl⟩ := hP.ol
    dsimp only at hsl
    subst hsl
    dsimp only [tdLed, tdPs] at F2 N2
    k_steps
    exact ret _ _ g T0 dyn tl n5 (fun b o e ne => F2.keep b o (kg b o e (fun q => ne (List.mem_singleton.mp q)))) ⟨⟨_, es, ep, (N2 _ (.head _)).1, hLd, hLk, hLf⟩, fun b o e => F2.keep b o (kg b o (F.keep b o e) (fun q => by rw [List.mem_singleton.mp q, hL0] at e; cases e)), F.above⟩
      F2.keep hP.told (fun p hp => (N2 p (by simp [hp])).1) (N2 (T0, listOf (refs tl) n5) (by simp)).1 hP.len
end
end Mine
namespace Mine
open PySem.Spec
theorem readsAll_snoc {h : Heap} : ∀ {vs : List Value} {ds : List PyData} {as : List Addr} {u : Value} {d : PyData} {bs : List Addr}, ReadsAll h vs ds as → Reads h u d bs → ∃ cs, ReadsAll h (vs ++ [u]) (ds ++ [d]) cs
  | _, _, _, _, _, _, .nil, r => ⟨_, .cons r .nil⟩
  | _, _, _, _, _, _, .cons a b, r => by
    obtain ⟨cs, q⟩ := readsAll_snoc b r
    exact ⟨_, .cons a q⟩
theorem row_reads {h : Heap} {a : Addr} {p : Pt} (r : RowAt h a p) : Reads h (.ref a) (.list [.int p.1, .int p.2]) [a] := by
  obtain ⟨t, u, o, e, c, n, d⟩ := r
  exact .list e c d (.cons (as := []) (.int _ _) (.cons (as := []) (.int _ _) .nil))
section
variable {g h : Heap} {dyn : List (Addr × Obj)}
theorem ent_reads (k : ∀ b o, g.get? b = some o → h.get? b = some o) (kd : ∀ p ∈ dyn, h.get? p.1 = some p.2) {a : Addr} {d : PyData} (e : EntOk g dyn a d) : ∃ as, Reads h (.ref a) d as := by
  obtain ⟨mo, co, r, ns, cv, n1, n2, n3, p, a1, a2, a3, hi, hr, rfl⟩ := e
  have r1 : Reads h (.ref mo) (.list []) [mo] := .list (kd _ a2) rfl rfl .nil
  have r2 : Reads h (.ref co) (.list (ns.map PyData.int)) [co] := .list (kd _ a3) rfl rfl (readsAll_of_ints hi)
  have r3 := row_reads (hr.keeps k)
  exact ⟨_, .list (kd _ a1) rfl rfl (.cons (.bool true) (.cons r1 (.cons r2 (.cons r3 (.cons (.bool true) .nil)))))⟩
theorem told_reads (k : ∀ b o, g.get? b = some o → h.get? b = some o) (kd : ∀ p ∈ dyn, h.get? p.1 = some p.2) {tl : List Addr} {ds : List PyData} (t : ToldOk g dyn tl ds) : ∃ as, ReadsAll h (tl.map Value.ref) ds as := by
  induction t with
  | nil => exact ⟨[], .nil⟩
  | snoc _ e ih =>
    obtain ⟨as, ra⟩ := ih
    obtain ⟨bs, rb⟩ := ent_reads k kd e
    obtain ⟨cs, q⟩ := readsAll_snoc ra rb
    exact ⟨cs, by rw [List.map_append]; exact q⟩
end
theorem lay_all : ∀ {ds : List PyData}, (∀ d ∈ ds, d.canLay0 = true) → PyData.canLayAll0 ds = true
  | [], _ => rfl
  | d :: r, h => by rw [PyData.canLayAll0, h d (by simp), lay_all fun e he => h e (by simp [he])]; rfl
theorem lay_ints (ns : List Int) : PyData.canLayAll0 (ns.map PyData.int) = true := lay_all fun d hd => by
  obtain ⟨n, _, rfl⟩ := List.mem_map.mp hd
  rfl
theorem depth_all : ∀ {ds : List PyData} {n : Nat}, (∀ d ∈ ds, d.depth ≤ n) → PyData.depthAll ds ≤ n
  | [], _, _ => Nat.zero_le _
  | d :: r, n, h => by
    have h1 := h d (by simp)
    have h2 := depth_all (ds := r) (n := n) fun e he => h e (by simp [he])
    simp only [PyData.depthAll]; omega
theorem ent_lay (v : Addr → Pt) (hs cs : List Addr) : (ent v hs cs).canLay0 = true := by
  unfold ent
  simp only [PyData.canLay0, PyData.canLayAll0, lay_ints, Bool.and_true, Bool.and_self]
theorem ent_depth (v : Addr → Pt) (hs cs : List Addr) : (ent v hs cs).depth ≤ 5 := by
  unfold ent
  have h1 : PyData.depthAll ((cs.map fun o => ((cnt v o hs : Nat) : Int)).map PyData.int) ≤ 1 := depth_all fun d hd => by
    obtain ⟨n, _, rfl⟩ := List.mem_map.mp hd
    simp [PyData.depth]
  simp only [PyData.depth, PyData.depthAll]
  omega
theorem toldD_shaped (v : Addr → Pt) (rs : List Addr) (i : Nat) : SeqAt.shaped (.list (toldD v rs i)) = true := by
  unfold SeqAt.shaped
  have a : (PyData.list (toldD v rs i)).canLay0 = true := by
    rw [PyData.canLay0]
    exact lay_all fun d hd => by
      obtain ⟨j, _, rfl⟩ := List.mem_map.mp hd
      exact ent_lay _ _ _
  have b : PyData.depthAll (toldD v rs i) ≤ 5 := depth_all fun d hd => by
    obtain ⟨j, _, rfl⟩ := List.mem_map.mp hd
    exact ent_depth _ _ _
  rw [a, Bool.true_and]
  refine decide_eq_true ?_
  simp only [PyData.depth]
  omega
end Mine
namespace Mine
section
variable {prog : Program} {w : World} {A : Around} {E : Value → Shared → Prop} {s : Shared} {env : Env} {h₀ : Heap} {x : Str} {body : List Stmt} {Q : Flow → Shared → Prop}
/-- a for over a range by ones, with any invariant -/
theorem iter_anyR {r : Addr} {a b : Int} {t0 u0 v0 : Tok} {n : Nat} {m₀ : Str → Option Value} {news : List (Addr × Obj)} (J : Nat → (Str → Option Value) → List (Addr × Obj) → Prop)
    (hh : A.handled = none) (hr : IsRange s.heap r a b 1 t0 u0 v0) (hsm : Builtin.Range.small a b 1 = true) (hn : Builtin.Range.rangeSize a b 1 = ((n : Nat) : Int)) (F : Fr h₀ env.locals s.heap m₀) (N : News h₀ env.locals s.heap news) (hj : J 0 m₀ news)
    (turn : ∀ i t m₁ news₁ h tk I oI, i < n → J i m₁ news₁ → (∀ p ∈ news₁, p.1 ≠ I) → Fr h₀ env.locals h (fun y => if y = x then some (.int (a + (i : Int)) t) else m₁ y) → News h₀ env.locals h ((I, oI) :: news₁) →
      wpAny (model prog w) A (execs body env) (TurnPost h₀ env.locals I oI (J (i + 1)) { s with heap := h, toks := tk } Q) E { s with heap := h, toks := tk })
    (done : ∀ m₁ news₁ h tk, J n m₁ news₁ → Fr h₀ env.locals h m₁ → News h₀ env.locals h news₁ → Q .next { s with heap := h, toks := tk }) :
    wpAny (model prog w) A (pyIter (.ref r)) (fun it s₂ => LoopAtV prog w A h₀ env x body Q E it s₂) E s := by
  refine wpAny_pyIter_range hr hsm ?_
  have W := LCg.range_walks (prog := prog) (w := w) (I := s.heap.objs.size) hh a n
  refine ⟨_, _, _, n, _, _, m₀, news, J, rfl, W, ?_, ?_, ?_, ?_, F.push _, (fun p hp => ⟨Heap.get?_push_of_some _ (N p hp).1, (N p hp).2⟩), hj, ?_, ?_⟩
  · intro hm
    exact absurd F.ns.lt ((List.mem_singleton.mp hm) ▸ Nat.lt_irrefl _)
  · intro b hb
    rw [List.mem_singleton.mp hb]
    exact next_is_new F
  · intro p hp hI
    exact absurd (Heap.lt_size (N p hp).1) ((List.mem_singleton.mp hI) ▸ Nat.lt_irrefl _)
  · show IsRangeIter _ _ _ _ _
    rw [hn]
    simpa using Heap.get?_push_size _ rfl
  · rintro i v m₁ news₁ s₁ own ⟨hh', tk', rfl⟩ hin ⟨t, rfl⟩ hJ hoff hown hget _ hst F₁ N₁
    obtain ⟨oI, hI⟩ : ∃ oI, hh'.get? s.heap.objs.size = some oI := ⟨_, hst⟩
    have hI0 : h₀.get? s.heap.objs.size = none := next_is_new F
    have hIL : s.heap.objs.size ≠ env.locals := Nat.ne_of_gt F.ns.lt
    have hownI : ∀ p ∈ own, p = (s.heap.objs.size, oI) := fun p hp => by
      have e := List.mem_singleton.mp (hown p hp)
      have := hget p hp
      rw [e] at this
      have e2 := hI.symm.trans this
      rw [show p = (p.1, p.2) from rfl, e, Option.some.inj e2]
    have N₂ : News h₀ env.locals hh' ((s.heap.objs.size, oI) :: news₁) := fun p hp => by
      rcases List.mem_cons.mp hp with rfl | hp
      · exact ⟨hI, hIL, hI0⟩
      · exact N₁ p (List.mem_append_right _ hp)
    refine wpAny_mono (turn i t m₁ news₁ hh' tk' _ oI hin hJ (fun p hp e => hoff p hp (by rw [e]; exact .head _)) F₁ N₂) (fun f s₂ p => ?_) fun _ _ e => e
    have fin : TurnEnd h₀ env.locals s.heap.objs.size oI (J (i + 1)) { s with heap := hh', toks := tk' } s₂ → LoopStepU h₀ env.locals [s.heap.objs.size] own (J (i + 1)) { s with heap := hh', toks := tk' } .next s₂ := by
      rintro ⟨h', tk, m', news', e, F', N', ho, hm⟩
      refine ⟨rfl, h', tk, m', news', e, F', fun p hp => ?_, fun p hp hq => ho p hp (List.mem_singleton.mp hq), hm⟩
      rcases List.mem_append.mp hp with hp | hp
      · rw [hownI p hp]; exact N' _ (.head _)
      · exact N' p (.tail _ hp)
    cases f with
    | ret v => exact .ret p
    | brk => exact .brk p
    | next => exact .next (fin p)
    | cont => exact .cont (fin p)
  · rintro h' tk m' news' F' N' _ hJ
    exact done m' news' h' tk hJ F' N'
theorem iter_stR {σ : Type} {r : Addr} {a b : Int} {t0 u0 v0 : Tok} {n : Nat} {m₀ : Str → Option Value} (Led : σ → List (Addr × Obj)) (ps : σ → List (Str × Value)) (stored : List Str) (P : Nat → σ → Prop) (c₀ : σ)
    (hh : A.handled = none) (hr : IsRange s.heap r a b 1 t0 u0 v0) (hsm : Builtin.Range.small a b 1 = true) (hn : Builtin.Range.rangeSize a b 1 = ((n : Nat) : Int)) (F : Fr h₀ env.locals s.heap m₀) (N : News h₀ env.locals s.heap (Led c₀)) (hk : ∀ p ∈ ps c₀, m₀ p.1 = some p.2) (hp : P 0 c₀)
    (turn : ∀ i t c (um : Str → Option Value) h tk I oI, i < n → P i c → (∀ p ∈ Led c, p.1 ≠ I) → Fr h₀ env.locals h (fun y => if y = x then some (.int (a + (i : Int)) t) else kstB (fun z => if stored.contains z then um z else m₀ z) (ps c) y) → News h₀ env.locals h ((I, oI) :: Led c) →
      wpAny (model prog w) A (execs body env) (TurnPost h₀ env.locals I oI (StJ Led ps stored m₀ (P (i + 1))) { s with heap := h, toks := tk } Q) E { s with heap := h, toks := tk })
    (done : ∀ c (um : Str → Option Value) h tk, P n c → Fr h₀ env.locals h (kstB (fun z => if stored.contains z then um z else m₀ z) (ps c)) → News h₀ env.locals h (Led c) → Q .next { s with heap := h, toks := tk }) :
    wpAny (model prog w) A (pyIter (.ref r)) (fun it s₂ => LoopAtV prog w A h₀ env x body Q E it s₂) E s := by
  refine iter_anyR (fun i => StJ Led ps stored m₀ (P i)) hh hr hsm hn F N ⟨c₀, rfl, hk, fun _ _ _ => rfl, hp⟩ ?_ ?_
  · rintro i t m₁ news₁ h tk I oI hi ⟨c, rfl, h1, h2, hP⟩ hI F₁ N₁
    rw [← kst_eq h1 h2] at F₁
    exact turn i t c m₁ h tk I oI hi hP hI F₁ N₁
  · rintro m₁ news₁ h tk ⟨c, rfl, h1, h2, hP⟩ F₁ N₁
    rw [← kst_eq h1 h2] at F₁
    exact done c m₁ h tk hP F₁ N₁
end
end Mine
namespace Mine
section
variable {prog : Program} {A : Around} {E : Value → Shared → Prop} {w : World} {s : Shared} {h₀ : Heap} {L C B R : Addr} {m : Str → Option Value} {news : List (Addr × Obj)} {n n' : Nat} {l rs : List Addr} {x : Addr} {Q : Value → Shared → Prop} {value slice : PySem.Expr} {its : Array Value} {vl vu : Value} {lo hi : Option Int}
theorem len_gr (F : Fr h₀ L s.heap m) (hR : h₀.IsList R (refs rs)) (hz : rs.length ≤ 100) (h : Q (.int rs.length (s.toks + 1)) { s with toks := s.toks + 1 + 1 }) : wpAny (model prog w) A (call (.builtin "len") [.ref R]) Q E s :=
  len_list (hR.at fun o e => F.keep R o e) (by rw [refs_size]; omega) (by rw [refs_size]; exact h)
theorem slice_any (F : Fr h₀ L s.heap m) (N : News h₀ L s.heap news) (hl : s.heap.IsList C its) (pl : IsPart vl lo) (pu : IsPart vu hi)
    (h : ∀ D h', Fr h₀ L h' m → News h₀ L h' ((D, listOf (slicePick its lo hi none) 0) :: news) → (∀ p ∈ news, p.1 < D) → Q (.ref D) { s with heap := h' })
    (hs : subscripted slice false (.ref C) (.ref s.heap.objs.size) = operate [.ref s.heap.objs.size, .ref C] (getItem (.ref C) (.ref s.heap.objs.size))) (hz : its.size ≤ sizeLine) :
    wpAny (model prog w) A (subscriptTail value slice (.ref C) (.ref s.heap.objs.size)) Q E { s with heap := s.heap.push { cls := .type "slice", data := .fields #[vl, vu, .none] } } := by
  refine tail_any (Heap.IsList.typeIs (s := { s with heap := s.heap.push { cls := .type "slice", data := .fields #[vl, vu, .none] } }) (hl.push _)) list_getitem_lookup
    (wpAny_getItem_list_slice (hl.push _) (Heap.IsSliceOf.new ..) pl pu .none (by simp) ?_ hz) hs
  have N1 := News.push (F.push { cls := .type "slice", data := .fields #[vl, vu, .none] }) (N.grown fun _ _ e => Heap.get?_push_of_some _ e) { cls := .type "list", data := .seq (slicePick its lo hi none) }
  rw [Heap.size_push] at N1
  show Q (.ref (s.heap.push _).objs.size) _
  rw [Heap.size_push]
  exact h _ _ ((F.push _).push _) N1 fun p hp => Nat.lt_succ_of_lt (Heap.lt_size (N p hp).1)
theorem pick_upto (i : Nat) : slicePick (refs l) none (some (1 + (i : Int))) none = refs (l.take (i + 1)) := by
  rw [kms_pick_eq]
  unfold kms_pick kms_lo kms_hi
  have h1 : ¬ ((1 : Int) + (i : Int) < 0) := by omega
  have h2 : ((1 : Int) + (i : Int)).toNat = i + 1 := by omega
  simp only [if_neg h1, h2, List.drop_zero, Nat.sub_zero]
  rw [kmk_take_min]
  simp [refs]
theorem pick_last : slicePick (refs l) (some (-3)) none none = refs (l.drop (l.length - 3)) := by
  rw [kms_pick_eq]
  unfold kms_pick kms_lo kms_hi
  have h1 : ((-3 : Int) < 0) := by omega
  have h2 : (-(-3 : Int)).toNat = 3 := by decide
  simp only [if_pos h1, h2]
  rw [List.take_of_length_le (by simp)]
  simp [refs, List.map_drop]
/-- rows[:k] -/
theorem cut_upto {i : Nat} {t : Tok} (F : Fr h₀ L s.heap m) (N : News h₀ L s.heap news) (hR : h₀.IsList R (refs rs)) (hz : rs.length ≤ 100)
    (h : ∀ D h', Fr h₀ L h' m → News h₀ L h' ((D, listOf (refs (rs.take (i + 1))) 0) :: news) → (∀ p ∈ news, p.1 < D) → Q (.ref D) { s with heap := h' })
    (hs : subscripted slice false (.ref R) (.ref s.heap.objs.size) = operate [.ref s.heap.objs.size, .ref R] (getItem (.ref R) (.ref s.heap.objs.size))) :
    wpAny (model prog w) A (subscriptTail value slice (.ref R) (.ref s.heap.objs.size)) Q E { s with heap := s.heap.push { cls := .type "slice", data := .fields #[.none, .int (1 + (i : Int)) t, .none] } } :=
  slice_any F N (hR.at fun o e => F.keep R o e) .none (.int _ _) (by rw [pick_upto]; exact h) hs (by rw [refs_size, sizeLine_eq]; omega)
/-- xs[-3:] -/
theorem cut_last {t : Tok} (F : Fr h₀ L s.heap m) (N : News h₀ L s.heap news) (hm : (C, listOf (refs l) n) ∈ news) (hz : l.length ≤ 100)
    (h : ∀ D h', Fr h₀ L h' m → News h₀ L h' ((D, listOf (refs (l.drop (l.length - 3))) 0) :: news) → (∀ p ∈ news, p.1 < D) → Q (.ref D) { s with heap := h' })
    (hs : subscripted slice false (.ref C) (.ref s.heap.objs.size) = operate [.ref s.heap.objs.size, .ref C] (getItem (.ref C) (.ref s.heap.objs.size))) :
    wpAny (model prog w) A (subscriptTail value slice (.ref C) (.ref s.heap.objs.size)) Q E { s with heap := s.heap.push { cls := .type "slice", data := .fields #[.int (-3) t, .none, .none] } } :=
  slice_any F N ⟨_, N.get hm, rfl, _, rfl⟩ (.int _ _) .none (by rw [pick_last]; exact h) hs (by rw [refs_size, sizeLine_eq]; omega)
end
end Mine
namespace Mine
section
variable {v : Addr → Pt}
theorem sorted_exists (l : List Int) : ∃ l' : List Int, l'.Perm l ∧ l'.Pairwise (· ≤ ·) :=
  ⟨l.mergeSort (fun a b => decide (a ≤ b)), List.mergeSort_perm _ _, by
      have := List.pairwise_mergeSort (le := fun a b : Int => decide (a ≤ b)) (fun a b c h1 h2 => by simp only [decide_eq_true_eq] at *; omega) (fun a b => by simp only [Bool.or_eq_true, decide_eq_true_eq]; omega) l
      simpa using this⟩
/-- the three greatest are one bag -/
theorem top_perm {hs ts out : List Addr} (p : (hs ++ ts).Perm out) (big : ∀ t ∈ ts, ∀ b ∈ hs, kv v t ≤ kv v b) (u : Up v out) (hl : hs.length = min out.length 3) :
    (hs.map (kv v)).Perm ((out.drop (out.length - 3)).map (kv v)) := by
  obtain ⟨h', ph, uh⟩ := sorted_exists (hs.map (kv v))
  obtain ⟨t', pt, ut⟩ := sorted_exists (ts.map (kv v))
  have e : t' ++ h' = out.map (kv v) := by
    refine up_uniq ?_ ?_ (up_map u)
    · have q := (p.map (kv v))
      rw [List.map_append] at q
      exact ((pt.append ph).trans List.perm_append_comm).trans q
    · rw [List.pairwise_append]
      refine ⟨ut, uh, fun a ha b hb => ?_⟩
      obtain ⟨t, ht, rfl⟩ := List.mem_map.mp (pt.mem_iff.mp ha)
      obtain ⟨c, hc, rfl⟩ := List.mem_map.mp (ph.mem_iff.mp hb)
      exact big t ht c hc
  have l1 : h'.length = min out.length 3 := by rw [ph.length_eq, List.length_map, hl]
  have l2 := congrArg List.length e
  simp only [List.length_append, List.length_map] at l2
  have l3 : t'.length = out.length - 3 := by omega
  have e2 : h' = (out.drop (out.length - 3)).map (kv v) := by
    rw [List.map_drop, ← e, ← l3, List.drop_left]
  rw [← e2]
  exact ph.symm
theorem cnt_key (hB : ∀ a, Bd (v a)) (o : Addr) (l : List Addr) : cnt v o l = (l.map (kv v)).countP (fun k => decide (k = kv v o)) := by
  unfold cnt
  rw [List.countP_map]
  refine List.countP_congr fun a _ => ?_
  simp only [decide_eq_true_eq, Function.comp_apply]
  exact ⟨fun e => by unfold kv; rw [e], fun e => key_inj (hB _) (hB _) e⟩
theorem due_ent (hB : ∀ a, Bd (v a)) {cs out : List Addr} (hc : cs ≠ []) (p : out.Perm cs) (u : Up v out) :
    ent v (st v cs).1 cs = ent v (out.drop (out.length - 3)) cs := by
  have iv := (inv_st hB cs).1
  have pk := top_perm (v := v) (iv.perm.trans p.symm) iv.big u (by rw [iv.len, p.length_eq])
  have lc : 0 < cs.length := List.length_pos_iff.mpr hc
  have hh : v ((st v cs).1.headD 0) = v ((out.drop (out.length - 3)).headD 0) := by
    have len1 := iv.len
    have len2 : (out.drop (out.length - 3)).length = min cs.length 3 := by rw [List.length_drop, p.length_eq]; omega
    have low1 := iv.low
    have u2 : Up v (out.drop (out.length - 3)) := u.sublist (List.drop_sublist _ _)
    generalize (st v cs).1 = hs at *
    generalize out.drop (out.length - 3) = la at *
    match hs, la with
    | [], _ => simp at len1; omega
    | _ :: _, [] => simp at len2; omega
    | h :: hr, a :: ar =>
      simp only [List.headD_cons] at low1 ⊢
      refine key_inj (hB _) (hB _) (Int.le_antisymm ?_ ?_)
      · obtain ⟨b, hb, e⟩ := List.mem_map.mp (pk.mem_iff.mpr (List.mem_map_of_mem (f := kv v) (List.mem_cons_self (a := a) (l := ar))))
        have := low1 b hb
        unfold kv at this e
        omega
      · obtain ⟨b, hb, e⟩ := List.mem_map.mp (pk.mem_iff.mp (List.mem_map_of_mem (f := kv v) (List.mem_cons_self (a := h) (l := hr))))
        have : kv v a ≤ kv v b := by
          rcases List.mem_cons.mp hb with rfl | hb
          · exact Int.le_refl _
          · exact (List.pairwise_cons.mp u2).1 b hb
        unfold kv at this e
        omega
  have hcn : (cs.map fun o => ((cnt v o (st v cs).1 : Nat) : Int)) = cs.map fun o => ((cnt v o (out.drop (out.length - 3)) : Nat) : Int) :=
    List.map_congr_left fun o _ => by rw [cnt_key hB, cnt_key hB, pk.countP_eq]
  unfold ent
  rw [hh, hcn]
end
end Mine
namespace Mine
open PyProof.Rows.LCg
section
variable {M : Model} {A : Around} {E : Value → Shared → Prop} {s : Shared}
theorem newEnv_cell {scope : Scope} {globals : Addr} {cl : List (Str × Addr)} {qual : Str} {env : Env} {x : Str} {Q : Env → Shared → Prop} (hcf : ∀ n, cellsFrom n scope.names cl = (x, n) :: cl)
    (hpc : ∀ h : Heap, pushCells h scope.names = h.push { cls := .type "cell", data := .cell none })
    (hQ : Q (newEnv scope s.heap.objs.size globals ((x, s.heap.objs.size + 1) :: cl) qual none .none (some env) builtinsNs) { s with heap := (s.heap.push { cls := .type "dict", data := .dict #[] }).push { cls := .type "cell", data := .cell none } }) :
    wpAny M A (newFunctionEnv scope globals cl [] qual none .none (some env)) Q E s := by
  simp only [newFunctionEnv, Option.isSome_some, if_true]
  refine wpAny_bind (wpAny_alloc ?_)
  refine wpAny_bind (wpAny_layCells _ (fun name kind cells => by cases hkc : kind == NameKind.cell <;> simp [hkc]) _ _ _ _ ?_)
  rw [hcf, hpc]
  rw [show ({ s with heap := s.heap.push { cls := .type "dict", data := .dict #[] } } : Shared).heap.objs.size = s.heap.objs.size + 1 from Heap.size_push ..]
  rw [List.forIn_nil]
  exact wpAny_bind (wpAny_pure (wpAny_pure hQ))
end
def SrcC (prog : Program) (w : World) (A : Around) (h₀ : Heap) (L : Addr) (m : Str → Option Value) (env : Env) (elt : Expr) (x : Str) (scope : Scope) (cl : List (Str × Addr)) (Q : Value → Shared → Prop) (xv : Value) (s₁ : Shared) : Prop :=
  ∃ ax k cs news, ∃ f : Addr → Int, xv = .ref ax ∧ A.handled = none ∧ Fr h₀ L s₁.heap m ∧ News h₀ L s₁.heap news ∧ (ax, listOf (refs cs) k) ∈ news ∧ cs.length ≤ sizeLine ∧
    (∀ b, b ∈ cs → ∀ I oI C oC c oc D ys h tk (E' : Value → Shared → Prop), oc.data = .cell (some (.ref b)) → Fr h₀ L h m → News h₀ L h ((c, oc) :: (I, oI) :: (C, oC) :: (D, lst ys) :: news) →
      wpAny (model prog w) A (eval elt (compEnvC scope ((x, c) :: cl) C env)) (CntEnd h₀ L m { s₁ with heap := h, toks := tk } (f b) ((c, oc) :: (I, oI) :: (C, oC) :: (D, lst ys) :: news)) E' { s₁ with heap := h, toks := tk }) ∧
    (∀ ys D h tk, IntsAre ys (cs.map f) → Fr h₀ L h m → News h₀ L h ((D, lst ys) :: news) → Off1 D news → Q (.ref D) { s₁ with heap := h, toks := tk })
section
variable {prog : Program} {w : World} {A : Around} {E : Value → Shared → Prop} {s : Shared} {h₀ : Heap} {L : Addr} {m : Str → Option Value} {env : Env}
theorem SrcC.intro {elt : Expr} {x : Str} {scope : Scope} {cl : List (Str × Addr)} {Q : Value → Shared → Prop} {s₁ : Shared} {ax : Addr} {k : Nat} {cs : List Addr} {news : List (Addr × Obj)} {f : Addr → Int}
    (hh : A.handled = none) (F : Fr h₀ L s₁.heap m) (N : News h₀ L s₁.heap news) (hm : (ax, listOf (refs cs) k) ∈ news) (hz : cs.length ≤ sizeLine)
    (one : ∀ b, b ∈ cs → ∀ I oI C oC c oc D ys h tk (E' : Value → Shared → Prop), oc.data = .cell (some (.ref b)) → Fr h₀ L h m → News h₀ L h ((c, oc) :: (I, oI) :: (C, oC) :: (D, lst ys) :: news) →
      wpAny (model prog w) A (eval elt (compEnvC scope ((x, c) :: cl) C env)) (CntEnd h₀ L m { s₁ with heap := h, toks := tk } (f b) ((c, oc) :: (I, oI) :: (C, oC) :: (D, lst ys) :: news)) E' { s₁ with heap := h, toks := tk })
    (fin : ∀ ys D h tk, IntsAre ys (cs.map f) → Fr h₀ L h m → News h₀ L h ((D, lst ys) :: news) → Off1 D news → Q (.ref D) { s₁ with heap := h, toks := tk }) :
    SrcC prog w A h₀ L m env elt x scope cl Q (.ref ax) s₁ := ⟨ax, k, cs, news, f, rfl, hh, F, N, hm, hz, one, fin⟩
theorem off1_of {D : Addr} : ∀ {l : List (Addr × Obj)}, (∀ p ∈ l, p.1 ≠ D) → Off1 D l
  | [], _ => trivial
  | _ :: _, h => ⟨h _ List.mem_cons_self, off1_of fun p hp => h p (List.mem_cons_of_mem _ hp)⟩
/-- a comprehension over a list of refs whose target is a cell, whose element gives an int -/
theorem comp_cell {elt iter : Expr} {x : Str} {px : Pos} {scope : Scope} {cl : List (Str × Addr)} {pos : Pos} {Q : Value → Shared → Prop} (F₀ : Fr h₀ L s.heap m)
    (hclos : closureFor scope env = pure cl) (hcf : ∀ n, cellsFrom n scope.names cl = (x, n) :: cl) (hpc : ∀ h : Heap, pushCells h scope.names = h.push { cls := .type "cell", data := .cell none })
    (hkind : scope.kind = .function) (hnames : ∀ y ∈ scope.names, y.2 = .local → scope.names.lookup y.1 = some .local) (hx : (relabel scope env).names.lookup x = some .cell)
    (h : wpAny (model prog w) A (eval iter env) (SrcC prog w A h₀ L m env elt x scope cl Q) E s)
    (hs : ∀ x, foldedSetIterable iter env x = pure x := by intro _; rfl) :
    wpAny (model prog w) A (eval (.ListComp elt [⟨.Name x px, iter, [], 0⟩] scope pos) env) Q E s := by
  rw [eval_ListComp]
  refine wpAny_comprehension_free (use := none) rfl hs hclos hkind hnames (wpAny_mono h (fun xv s₁ h₁ => ?_) fun _ _ e => e)
  obtain ⟨ax, k, cs, news, f, rfl, hh, F, N, hm, hz, one, fin⟩ := h₁
  have hl : s₁.heap.IsList ax (refs cs) := ⟨_, N.get hm, rfl, _, rfl⟩
  have hlt : ax < s₁.heap.objs.size := Heap.lt_size (N.get hm)
  refine wpAny_pyIter_list hl ?_
  generalize hH2 : s₁.heap.push { cls := .type "list_iterator", data := .fields #[.ref ax, .int 0 0] } = H2
  have up : ∀ b o, s₁.heap.get? b = some o → H2.get? b = some o := fun b o e => hH2 ▸ Heap.get?_push_of_some _ e
  have sz2 : H2.objs.size = s₁.heap.objs.size + 1 := by rw [← hH2, Heap.size_push]
  have hI2 : H2.IsListIter s₁.heap.objs.size ax 0 := ⟨_, hH2 ▸ Heap.get?_push_size _ rfl, rfl, rfl⟩
  refine wpAny_newObj_type (newEnv_cell hcf hpc ?_)
  dsimp only
  generalize hH3 : H2.push { cls := .type "list", dict := none, data := .seq ([] : List Value).toArray } = H3
  have sz3 : H3.objs.size = s₁.heap.objs.size + 2 := by rw [← hH3, Heap.size_push, sz2]
  generalize hH4 : H3.push { cls := .type "dict", data := .dict #[] } = H4
  have sz4 : H4.objs.size = s₁.heap.objs.size + 3 := by rw [← hH4, Heap.size_push, sz3]
  generalize hH5 : H4.push { cls := .type "cell", data := .cell none } = H5
  have u3 : ∀ b o, H2.get? b = some o → H3.get? b = some o := fun b o e => hH3 ▸ Heap.get?_push_of_some _ e
  have u4 : ∀ b o, H3.get? b = some o → H4.get? b = some o := fun b o e => hH4 ▸ Heap.get?_push_of_some _ e
  have u5 : ∀ b o, H4.get? b = some o → H5.get? b = some o := fun b o e => hH5 ▸ Heap.get?_push_of_some _ e
  have old : ∀ b o, s₁.heap.get? b = some o → H5.get? b = some o := fun b o e => u5 b o (u4 b o (u3 b o (up b o e)))
  obtain ⟨S, hS⟩ : ∃ S, S = s₁.heap.objs.size := ⟨_, rfl⟩
  have hD5 : H5.get? (S + 1) = some (lst []) := u5 _ _ (u4 _ _ (by rw [hS, ← sz2, ← hH3]; exact Heap.get?_push_size _ rfl))
  have hC5 : H5.Ns (S + 2) (fun _ => none) := by
    have q : H4.Ns H3.objs.size (fun _ => none) := hH4 ▸ Heap.Ns.new H3 (.type "dict")
    rw [sz3, ← hS] at q
    exact q.keeps u5
  have hc5 : H5.IsCell (S + 3) none := ⟨_, by rw [hS, ← sz4, ← hH5]; exact Heap.get?_push_size _ rfl, rfl⟩
  have hI5 : H5.IsListIter S ax 0 := by
    obtain ⟨o, e, r⟩ := hI2
    exact ⟨o, by rw [hS]; exact u5 _ _ (u4 _ _ (u3 _ _ e)), r⟩
  have hLS : @LT.lt Nat _ L S := hS ▸ F.ns.lt
  have lt0 : ∀ (b : Nat) o, h₀.get? b = some o → @LT.lt Nat _ b S := fun b o e => hS ▸ Heap.lt_size (F.keep b o e)
  have none0 : ∀ b, S ≤ b → h₀.get? b = none := fun b hb => by
    cases e : h₀.get? b with
    | none => rfl
    | some o => exact absurd (lt0 b o e) (Nat.not_lt.mpr hb)
  have ltN : ∀ p ∈ news, @LT.lt Nat _ p.1 S := fun p hp => hS ▸ Heap.lt_size (N p hp).1
  have ltx : @LT.lt Nat _ ax S := hS ▸ hlt
  have szD : H2.objs.size = S + 1 := by rw [sz2, hS]
  have szC : H3.objs.size = S + 2 := by rw [sz3, hS]
  rw [szD, szC, show s₁.heap.objs.size = S from hS.symm]
  have W := Walks.list (prog := prog) (w := w) (A := A) hh S ax (Nat.ne_of_lt ltx) (refs cs)
  have W1 : ∀ (i : Nat) (h : Heap), (h.IsListIter S ax i ∧ h.IsList ax (refs cs)) → ∃ o, h.get? S = some o := fun i h st => by obtain ⟨o, e, _⟩ := st.1; exact ⟨o, e⟩
  have loop : codeAny (model prog w) A (.compLoop (.ListComp elt [⟨.Name x px, iter, [], 0⟩] scope pos) 0 (.ref S) (.ref (S + 1)) (compEnvC scope ((x, S + 3) :: cl) (S + 2) env))
        (compPost (model prog w) A E none Q (.ref (S + 1)) (S + 2)) { s₁ with heap := H5 } := by
    refine codeAny_compLoop_tests
      (fun k s' => ∃ (h' : Heap) (tk i : Nat) (ys : List Value) (m' : Str → Option Value) (oc : Option Value), s' = { s₁ with heap := h', toks := tk } ∧ i ≤ cs.length ∧ k = cs.length + 1 - i ∧ ys.length = i ∧ (h'.IsListIter S ax i ∧ h'.IsList ax (refs cs)) ∧ Fr h₀ L h' m ∧ h'.Ns (S + 2) m' ∧ h'.IsCell (S + 3) oc ∧
        News h₀ L h' ((S + 1, lst ys) :: news) ∧ IntsAre ys ((cs.take i).map f)) ?_ (cs.length + 1)
      ⟨H5, _, 0, [], _, none, rfl, Nat.zero_le _, rfl, rfl, ⟨hI5, hl.at fun o e => old _ o e⟩, F.keeps old, hC5, hc5, fun p hp => ?_, .nil⟩
    · rintro k s' ⟨h', tk, i, ys, m', oc, rfl, hi, rfl, hyl, hst', F', hn', hc', N', hy'⟩
      by_cases hlt : i < cs.length
      · refine W.item i _ _ _ (by rw [refs_size]; exact hlt) hst' fun v h₂ tk₂ hPv hst₂ hk₂ => ?_
        have kp2 : ∀ b o, b ≠ S → h'.get? b = some o → h₂.get? b = some o := fun b o hb e => hk₂ b o (by simpa using hb) e
        have hc2 : h₂.IsCell (S + 3) oc := by
          obtain ⟨o, e, d⟩ := hc'
          exact ⟨o, kp2 _ _ (by omega) e, d⟩
        refine wpAny_assign_Name (wpAny_storeName_cell hkind hx (c := S + 3) (by simp [compEnvC]) hc2 fun h₃ hc₃ hs₃ => ?_)
        refine wpAny_tests_nil ?_
        simp only [if_true]
        have kp3 : ∀ b o, b ≠ S + 3 → h₂.get? b = some o → h₃.get? b = some o := fun b o hb e => hs₃.extBut b o hb e
        obtain ⟨b, hb, rfl⟩ : ∃ b, cs[i]? = some b ∧ v = .ref b := by
          simp only [refs, List.getElem?_toArray, List.getElem?_map] at hPv
          cases hq : cs[i]? with
          | none => rw [hq] at hPv; cases hPv
          | some b => rw [hq] at hPv; exact ⟨b, rfl, by simpa using hPv.symm⟩
        have hst₃ : h₃.IsListIter S ax (i + 1) ∧ h₃.IsList ax (refs cs) := W.frame _ _ _ hst₂ fun b hb o e => kp3 b o (by
          rcases List.mem_cons.mp hb with rfl | hb
          · omega
          · rw [List.mem_singleton.mp hb]; omega) e
        obtain ⟨oI, heI⟩ := W1 _ _ hst₃
        obtain ⟨oC, heC, hoC⟩ := ns_obj (hn'.at' fun o e => kp3 _ o (by omega) (kp2 _ o (by omega) e))
        obtain ⟨oc3, hec, hdc⟩ := hc₃
        have F₃ : Fr h₀ L h₃ m := ⟨F'.ns.at' fun o e => kp3 _ o (by omega) (kp2 _ o (by omega) e), fun b o e => by
          have := lt0 b o e
          exact kp3 _ o (by omega) (kp2 _ o (by omega) (F'.keep b o e)), F'.above⟩
        have N₃ : News h₀ L h₃ ((S + 3, oc3) :: (S, oI) :: (S + 2, oC) :: (S + 1, lst ys) :: news) := fun p hp => by
          rcases List.mem_cons.mp hp with rfl | hp
          · exact ⟨hec, by show @Ne Nat (S + 3) (L); omega, none0 _ (by omega)⟩
          · rcases List.mem_cons.mp hp with rfl | hp
            · exact ⟨heI, by show @Ne Nat (S) (L); omega, none0 _ (by omega)⟩
            · rcases List.mem_cons.mp hp with rfl | hp
              · exact ⟨heC, by show @Ne Nat (S + 2) (L); omega, none0 _ (by omega)⟩
              · have z := N' p hp
                have lt : p.1 ≠ S ∧ p.1 ≠ S + 3 := by
                  rcases List.mem_cons.mp hp with rfl | hp
                  · exact ⟨by show @Ne Nat (S + 1) (S); omega, by show @Ne Nat (S + 1) (S + 3); omega⟩
                  · have := ltN p hp; exact ⟨by show @Ne Nat p.1 S; omega, by show @Ne Nat p.1 (S + 3); omega⟩
                exact ⟨kp3 _ _ lt.2 (kp2 _ _ lt.1 z.1), z.2⟩
        refine wpAny_mono (one b (List.mem_of_getElem? hb) S oI (S + 2) oC (S + 3) oc3 (S + 1) ys h₃ tk₂ _ hdc F₃ N₃) (fun y s₄ h₄ => ?_) fun _ _ e => e
        obtain ⟨h₄, tk₄, t, rfl, rfl, F₄, N₄⟩ := h₄
        have zc := (N₄ _ (.head _)).1
        have zI := (N₄ _ (.tail _ (.head _))).1
        have zC := (N₄ _ (.tail _ (.tail _ (.head _)))).1
        have zD := (N₄ _ (.tail _ (.tail _ (.tail _ (.head _))))).1
        have zN : News h₀ L h₄ news := fun p hp => N₄ p (.tail _ (.tail _ (.tail _ (.tail _ hp))))
        refine append_at (hsz := by show ys.toArray.size ≤ sizeLine; rw [List.size_toArray, hyl]; exact Nat.le_trans hi hz) zD fun h₅ hs₅ hD₅ => ?_
        have kp5 : ∀ b o, b ≠ S + 1 → h₄.get? b = some o → h₅.get? b = some o := fun b o hb e => hs₅.extBut b o hb e
        refine ⟨cs.length + 1 - (i + 1), by omega, h₅, tk₄, i + 1, ys ++ [.int (f b) t], _, _, rfl, hlt, rfl, by rw [List.length_append, List.length_singleton, hyl], ⟨?_, ?_⟩, ?_, (hoC.ns zC).sameBut hs₅ (by show @Ne Nat (S + 2) (S + 1); omega), ⟨oc3, kp5 _ _ (by show @Ne Nat (S + 3) (S + 1); omega) zc, hdc⟩, fun p hp => ?_, ?_⟩
        · obtain ⟨o, e, r⟩ := hst₃.1
          rw [heI] at e; cases e
          exact ⟨oI, kp5 _ _ (by show @Ne Nat (S) (S + 1); omega) zI, r⟩
        · exact ⟨_, kp5 _ _ (by show @Ne Nat (ax) (S + 1); omega) (zN.get hm), rfl, _, rfl⟩
        · exact ⟨F₄.ns.at' fun o e => kp5 _ o (by show @Ne Nat (L) (S + 1); omega) e, fun b o e => by
            have := lt0 b o e
            exact kp5 _ o (by omega) (F₄.keep b o e), F₄.above⟩
        · rcases List.mem_cons.mp hp with rfl | hp
          · exact ⟨hD₅.trans (congrArg some (lst_snoc ys _)), by show @Ne Nat (S + 1) (L); omega, none0 _ (by omega)⟩
          · have := ltN p hp
            exact ⟨kp5 _ _ (by show @Ne Nat p.1 (S + 1); omega) (zN p hp).1, (zN p hp).2⟩
        · rw [List.take_add_one, hb, List.map_append]
          exact ints_snoc hy'
      · obtain rfl : i = cs.length := Nat.le_antisymm hi (Nat.not_lt.mp hlt)
        rw [List.take_length] at hy'
        refine W.done _ _ _ (by rw [refs_size]; exact hst') fun h₂ tk₂ hk₂ => ?_
        have kp2 : ∀ b o, b ≠ S → h'.get? b = some o → h₂.get? b = some o := fun b o hb e => hk₂ b o (by simpa using hb) e
        refine ⟨m', hn'.at' fun o e => kp2 _ o (by show @Ne Nat (S + 2) (S); omega) e, fun h₃ hs₃ => fin ys (S + 1) h₃ tk₂ hy' ?_ ?_ (off1_of fun p hp => ?_)⟩
        · have kp3 : ∀ b o, b ≠ S → b ≠ S + 2 → h'.get? b = some o → h₃.get? b = some o := fun b o h1 h2 e => hs₃.extBut b o h2 (kp2 b o h1 e)
          exact ⟨F'.ns.at' fun o e => kp3 _ o (by show @Ne Nat (L) (S); omega) (by show @Ne Nat (L) (S + 2); omega) e, fun b o e => by
            have := lt0 b o e
            exact kp3 _ o (by omega) (by omega) (F'.keep b o e), F'.above⟩
        · intro p hp
          have z := N' p hp
          refine ⟨hs₃.extBut _ _ ?_ (kp2 _ _ ?_ z.1), z.2⟩
          · rcases List.mem_cons.mp hp with rfl | hp
            · show @Ne Nat (S + 1) (S + 2); omega
            · have := ltN p hp; show @Ne Nat (p.1) (S + 2); omega
          · rcases List.mem_cons.mp hp with rfl | hp
            · show @Ne Nat (S + 1) (S); omega
            · have := ltN p hp; show @Ne Nat (p.1) (S); omega
        · have := ltN p hp; show @Ne Nat p.1 (S + 1); omega
    · rcases List.mem_cons.mp hp with rfl | hp
      · exact ⟨hD5, by show @Ne Nat (S + 1) (L); omega, none0 _ (by omega)⟩
      · exact ⟨old _ _ (N p hp).1, (N p hp).2⟩
  exact codeAny_compStart_list loop (W.self 0 _ _ _ ⟨hI5, hl.at fun o e => old _ o e⟩ loop)
end
end Mine
namespace Mine
open PyProof.Rows.LCg PyProof.Rows.LCt
def TstEnd (h₀ : Heap) (L : Addr) (m : Str → Option Value) (s : Shared) (k : Bool) (news : List (Addr × Obj)) (ok : Bool) (s' : Shared) : Prop :=
  ∃ h' tk', ok = k ∧ s' = { s with heap := h', toks := tk' } ∧ Fr h₀ L h' m ∧ News h₀ L h' news
def EltEnd (h₀ : Heap) (L : Addr) (m : Str → Option Value) (s : Shared) (b : Addr) (news : List (Addr × Obj)) (y : Value) (s' : Shared) : Prop :=
  ∃ h' tk', y = .ref b ∧ s' = { s with heap := h', toks := tk' } ∧ Fr h₀ L h' m ∧ News h₀ L h' news
section
variable {prog : Program} {w : World} {A : Around} {s : Shared} {h₀ : Heap} {L : Addr} {m : Str → Option Value} {env : Env} {ct elt : Expr} {x : Str} {scope : Scope} {cl : List (Str × Addr)} {S : List (Addr × Obj) → Prop} {Fin : List Value → List (Addr × Obj) → Prop} {news : List (Addr × Obj)} {la : List Addr} {v : Addr → Pt} {o : Addr}
theorem TstEnd.intro {k : Bool} {h' : Heap} {tk' : Nat} (F : Fr h₀ L h' m) (N : News h₀ L h' news) : TstEnd h₀ L m s k news k { s with heap := h', toks := tk' } := ⟨h', tk', rfl, rfl, F, N⟩
theorem EltEnd.intro {b : Addr} {h' : Heap} {tk' : Nat} (F : Fr h₀ L h' m) (N : News h₀ L h' news) : EltEnd h₀ L m s b news (.ref b) { s with heap := h', toks := tk' } := ⟨h', tk', rfl, rfl, F, N⟩
abbrev flt (v : Addr → Pt) (o : Addr) (l : List Addr) : List Addr := l.filter fun y => decide (v y = v o)
theorem flt_cnt (l : List Addr) : (flt v o l).length = cnt v o l := by unfold flt cnt; rw [List.countP_eq_length_filter]
theorem comp_flt (hS : S news)
    (tst : ∀ b, b ∈ la → ∀ I oI C oC D ys m₂ h tk (E' : Value → Shared → Prop), NsObj oC m₂ → m₂ x = some (.ref b) → Fr h₀ L h m → News h₀ L h ((I, oI) :: (C, oC) :: (D, lst ys) :: news) →
      wpAny (model prog w) A (isTrue ct (compEnvC scope cl C env) (eval ct (compEnvC scope cl C env))) (TstEnd h₀ L m { s with heap := h, toks := tk } (decide (v b = v o)) ((I, oI) :: (C, oC) :: (D, lst ys) :: news)) E' { s with heap := h, toks := tk })
    (one : ∀ b, b ∈ la → ∀ I oI C oC D ys m₂ h tk (E' : Value → Shared → Prop), NsObj oC m₂ → m₂ x = some (.ref b) → Fr h₀ L h m → News h₀ L h ((I, oI) :: (C, oC) :: (D, lst ys) :: news) →
      wpAny (model prog w) A (eval elt (compEnvC scope cl C env)) (EltEnd h₀ L m { s with heap := h, toks := tk } b ((I, oI) :: (C, oC) :: (D, lst ys) :: news)) E' { s with heap := h, toks := tk })
    (fin : Fin ((flt v o la).map Value.ref) news) :
    ∀ k i, i + k = la.length → CompRestT prog w A h₀ L m env ct elt x scope cl s S (fun i u => (refs la)[i]? = some u) Fin k i ((flt v o (la.take i)).map Value.ref) news
  | 0, i, hk => by
    have : i = la.length := by omega
    subst this
    rw [List.take_length]
    exact fin
  | k + 1, i, hk => by
    intro u I oI C oC D m₂ h tk E' hu hn hx F N off ne
    have hb : ∃ b, la[i]? = some b ∧ u = .ref b := by
      simp only [refs, List.getElem?_toArray, List.getElem?_map] at hu
      cases hq : la[i]? with
      | none => rw [hq] at hu; cases hu
      | some b => rw [hq] at hu; exact ⟨b, rfl, by simpa using hu.symm⟩
    obtain ⟨b, hb, rfl⟩ := hb
    have hm := List.mem_of_getElem? hb
    refine wpAny_mono (tst b hm I oI C oC D _ m₂ h tk E' hn hx F N) (fun ok s' hy => ?_) fun _ _ e => e
    obtain ⟨h', tk', rfl, rfl, F', N'⟩ := hy
    have ih := comp_flt hS tst one fin k (i + 1) (by omega)
    by_cases e : v b = v o
    · have e2 : flt v o (la.take (i + 1)) = flt v o (la.take i) ++ [b] := by
        rw [List.take_add_one, hb]; unfold flt; rw [List.filter_append]; simp [e]
      rw [e2, List.map_append] at ih
      simp only [e, decide_true, if_true]
      refine wpAny_mono (one b hm I oI C oC D _ m₂ h' tk' E' hn hx F' N') (fun y s'' hy => ?_) fun _ _ e => e
      obtain ⟨h'', tk'', rfl, rfl, F'', N''⟩ := hy
      exact ⟨h'', tk'', news, rfl, F'', N'', off, hS, ih⟩
    · have e2 : flt v o (la.take (i + 1)) = flt v o (la.take i) := by
        rw [List.take_add_one, hb]; unfold flt; rw [List.filter_append]; simp [e]
      rw [e2] at ih
      simp only [e, decide_false, Bool.false_eq_true, if_false]
      exact ⟨h', tk', news, rfl, F', N', off, hS, ih⟩
end
end Mine
namespace Mine
open PyProof.Rows.TI
local macro_rules | `(tactic| k_room) => `(tactic| ktr_room)
local macro_rules | `(tactic| k_units) => `(tactic| ktr_units)
local macro_rules | `(tactic| walk_at "call builtin:len") => `(tactic| (k_here; (show wpAny _ _ (call (Value.builtin "len") [Value.ref _]) _ _ _); k_dflt (refine' len_gr ?zqF ?zqa ?zqz ?_; (case zqF => k_asm); (case zqa => assumption); (case zqz => omega); k_whole)))
local macro_rules | `(tactic| walk_at "subscriptTail Name Slice ref ref") => `(tactic| (k_here; (with_reducible show wpAny _ _ (subscriptTail _ (PySem.Expr.Slice none (some _) none _) (Value.ref _) (Value.ref _)) _ _ _); k_dflt (refine' cut_upto ?zqF ?zqN ?zql ?zqz ?_ ?zqs; (case zqF => k_asm); (case zqN => k_asm); (case zql => assumption); (case zqz => omega); (case zqs => with_unfolding_all rfl)); intro D' h' F' N' l1; (try k_lt l1); (try k_sweep)))
local macro_rules | `(tactic| walk_at "subscriptTail Name Slice ref ref") => `(tactic| (k_here; (with_reducible show wpAny _ _ (subscriptTail _ (PySem.Expr.Slice (some _) none none _) (Value.ref _) (Value.ref _)) _ _ _); k_dflt (refine' cut_last ?zqF ?zqN ?zql ?zqz ?_ ?zqs; (case zqF => k_asm); (case zqN => k_asm); (case zql => k_mem); (case zqz => (rename List.Perm _ _ => hq9; have hq8 := hq9.length_eq; omega)); (case zqs => with_unfolding_all rfl)); intro D' h' F' N' l1; (try k_lt l1); (try k_sweep)))
local macro_rules | `(tactic| walk_at "call builtin:sorted") => `(tactic| (k_here; (show wpAny _ _ (call (Value.builtin "sorted") [Value.ref _]) _ _ _); k_dflt (refine' sorted_K ?zqB ?zqF ?zqN ?zqa ?zqz ?zqr ?zqu ?_; (case zqB => assumption); (case zqF => k_asm); (case zqN => k_asm); (case zqa => k_mem); (case zqr => assumption); (case zqz => omega); (case zqu => k_units); k_whole); intro D' h' n' out' F' N' l1 hp' hu'; (try k_lt l1); (try k_sweep)))
theorem cmp_eqE {prog : Program} {w : World} {A : Around} {E : Value → Shared → Prop} {s : Shared} {a b : Addr} {v : Addr → Pt} {h₀ : Heap} {L : Addr} {m : Str → Option Value} {Q : Value → Shared → Prop}
    (F : Fr h₀ L s.heap m) (ha : RowAt h₀ a (v a)) (hb : RowAt h₀ b (v b)) (hu : A.units < cLine) (h : Q (.bool (decide (v a = v b))) s) : wpAny (model prog w) A (compareOp .Eq (.ref a) (.ref b)) Q E s :=
  cmp_eq (ha.keeps F.keep) (hb.keeps F.keep) hu h
local macro_rules | `(tactic| walk_at "compareOp Eq ref ref") => `(tactic| (k_here; (with_reducible show wpAny _ _ (compareOp CmpOp.Eq (Value.ref _) (Value.ref _)) _ _ _); k_dflt (refine' cmp_eqE (v := _) ?zqF ?zqk2 ?zqk3 ?zqk4 ?_; (case zqF => k_asm); (case zqk2 => assumption); (case zqk3 => assumption); (case zqk4 => k_units); k_whole)))
local macro_rules | `(tactic| walk_at "call builtin:list.append") => `(tactic| (k_here; (show wpAny _ _ (call (Value.builtin "list.append") [Value.ref _, Value.ref _]) _ _ _); k_dflt (refine' append_cat ?zqk1 ?zqk2 ?zqk3 ?zqz ?_; (case zqk1 => k_asm); (case zqk2 => k_asm); (case zqk3 => k_upd); (case zqz => omega); k_whole); intro h' F' N'; (try k_sweep)))
structure DuS where
  oc : Obj
  tl : List Addr
  n5 : Nat
  dyn : List (Addr × Obj)
def duLed (T0 cL : Addr) (c : DuS) : List (Addr × Obj) := (T0, listOf (refs c.tl) c.n5) :: (cL, c.oc) :: c.dyn
structure DuP (g : Heap) (T0 cL : Addr) (v : Addr → Pt) (rs : List Addr) (i : Nat) (c : DuS) : Prop where
  oc : ∃ z, c.oc.data = .cell z
  told : ToldOk g c.dyn c.tl (toldD v rs i)
  off : OwnOff c.dyn [T0, cL]
  len : c.tl.length = i
theorem range_sz (n : Nat) : Builtin.Range.rangeSize 1 ((n : Int) + 1) 1 = ((n : Nat) : Int) := by
  unfold Builtin.Range.rangeSize
  simp
  omega
theorem duSt_ne {z : Str} (h : [Str.ofString "k"].contains z = false) : z ≠ Str.ofString "k" := fun e => by
  rw [e] at h; exact absurd h (by decide)
theorem fits_long (i : Int) (h0 : 0 ≤ i) (h : i ≤ 100) : Builtin.Range.rangeFitsLong i = true := by
  unfold Builtin.Range.rangeFitsLong
  simp
  omega
theorem range_small (n : Nat) (h : n ≤ 40) : Builtin.Range.small 1 ((n : Int) + 1) 1 = true := by
  unfold Builtin.Range.small
  rw [range_sz, fits_long 1 (by omega) (by omega), fits_long ((n : Int) + 1) (by omega) (by omega), fits_long (n : Int) (by omega) (by omega), if_pos (by decide), fits_long (((n : Int) + 1) + (1 - 1)) (by omega) (by omega)]
  simp
section
variable {g h' : Heap} {L' T0 cL I a mo co r0 : Addr} {oc2 oI : Obj} {v : Addr → Pt} {rs : List Addr} {i : Nat} {m₀ m' : Str → Option Value} {all dyn : List (Addr × Obj)} {tl tt : List Addr} {k5 na nm nc tk : Nat} {cv : List Value} {s₁ : Shared} {vl : Value}
theorem due_end (F : Fr g L' h' m') (N : News g L' h' all)
    (mem : ∀ p ∈ [(a, listOf #[.bool true, .ref mo, .ref co, .ref r0, .bool true] na), (mo, listOf #[] nm), (co, listOf (List.toArray cv) nc), (I, oI), (T0, listOf (refs (tl ++ [a])) k5), (cL, oc2)] ++ dyn, p ∈ all)
    (dis : (@Ne Nat a I ∧ @Ne Nat a T0 ∧ @Ne Nat a cL) ∧ (@Ne Nat mo I ∧ @Ne Nat mo T0 ∧ @Ne Nat mo cL) ∧ (@Ne Nat co I ∧ @Ne Nat co T0 ∧ @Ne Nat co cL) ∧ @Ne Nat T0 I ∧ @Ne Nat cL I)
    (nm' : ∀ z, [Str.ofString "k"].contains z = false → m' z = m₀ z)
    (off : OwnOff dyn [T0, cL]) (hId : ∀ p ∈ dyn, p.1 ≠ I) (told : ToldOk g dyn tl (toldD v rs i)) (dc : oc2.data = .cell (some vl)) (hr : RowAt g r0 (v r0)) (hi : IntsAre cv ((rs.take (i + 1)).map fun o => ((cnt v o (r0 :: tt) : Nat) : Int)))
    (hent : ent v (st v (rs.take (i + 1))).1 (rs.take (i + 1)) = ent v (r0 :: tt) (rs.take (i + 1))) (len : tl.length = i) :
    TurnEnd g L' I oI (StJ (duLed T0 cL) (fun _ => []) [Str.ofString "k"] m₀ (DuP g T0 cL v rs (i + 1))) s₁ { s₁ with heap := h', toks := tk } := by
  obtain ⟨⟨a1, a2, a3⟩, ⟨b1, b2, b3⟩, ⟨c1, c2, c3⟩, d1, d2⟩ := dis
  refine ⟨h', tk, m', duLed T0 cL ⟨oc2, tl ++ [a], k5, (a, listOf #[.bool true, .ref mo, .ref co, .ref r0, .bool true] na) :: (mo, listOf #[] nm) :: (co, listOf (List.toArray cv) nc) :: dyn⟩, rfl, F, fun p hp => N p (mem p ?_), fun p hp => ?_,
    ⟨oc2, tl ++ [a], k5, (a, listOf #[.bool true, .ref mo, .ref co, .ref r0, .bool true] na) :: (mo, listOf #[] nm) :: (co, listOf (List.toArray cv) nc) :: dyn⟩, rfl, fun p hp => absurd hp List.not_mem_nil, fun z _ h3 => nm' z h3, ⟨_, dc⟩, ?_, ?_, ?_⟩
  · simp only [duLed, List.mem_cons, List.cons_append, List.nil_append] at hp ⊢
    rcases hp with h | h | h | h | h | h | h <;> simp [h]
  · simp only [duLed, List.mem_cons] at hp
    rcases hp with rfl | rfl | rfl | rfl | rfl | hp
    · exact d1
    · exact d2
    · exact a1
    · exact b1
    · exact c1
    · exact hId p hp
  · rw [toldD_succ]
    refine .snoc (told.mono fun p hp => by simp [hp]) ?_
    rw [hent]
    exact ⟨mo, co, r0, _, cv, na, nm, nc, v r0, by simp, by simp, by simp, hi, hr, rfl⟩
  · intro p hp b hb
    simp only [List.mem_cons, List.not_mem_nil, or_false] at hp hb
    rcases hp with rfl | rfl | rfl | hp
    · rcases hb with rfl | rfl
      · exact a2
      · exact a3
    · rcases hb with rfl | rfl
      · exact b2
      · exact b3
    · rcases hb with rfl | rfl
      · exact c2
      · exact c3
    · exact off p hp b (by simpa using hb)
  · rw [List.length_append, List.length_singleton, len]
end
section
variable (w : World) {mean : ExcName → Option Value} {mg mb : Str → Option Value} {dp un : Nat} {gd : Option (List Code)} {cn : Str} {cs : Scope} {a : Addr} {ccd : Value} {cl : List (Str × Addr)} {h₀ : Heap} {L : Addr} {m : Str → Option Value} {s : Shared}
    {Q E : Value → Shared → Prop} {R : Addr} {v : Addr → Pt} {rs : List Addr}
theorem due_ok
    (F : Fr h₀ L s.heap m) (X : (Mine.hd.heap_39 w.params).In h₀) (T : Top Mine.hd.view_39 (looseW Mine.hd.view_39 []) mean mg mb h₀) (hk : cs.kind = .function)
    (hR : s.heap.IsList R (refs rs)) (hB : ∀ a, Bd (v a)) (hz : rs.length ≤ 40) (r : ∀ b ∈ rs, RowAt s.heap b (v b)) (hd : dp + 20 < recursionLimit) (hu : un + 200 < cLine)
    (ret : ∀ h' tk' g T0 dyn tl n5, (∀ b o, s.heap.get? b = some o → h'.get? b = some o) → (∀ b o, g.get? b = some o → h'.get? b = some o) → ToldOk g dyn tl (toldD v rs rs.length) → (∀ p ∈ dyn, h'.get? p.1 = some p.2) →
      h'.get? T0 = some (listOf (refs tl) n5) → tl.length = rs.length → Q (.ref T0) { s with heap := h', toks := tk' }) :
    wpAny (model PySem.Challenge.rw_ny0078_01.row.prog w) (ktrTop dp un gd cn cs L a ccd cl []) (call (.ref 80) [.ref R]) Q E s := by
  revert X; k_fill; intro X
  refine wpAny_call ?_
  k_dflt (refine' code_cells F X T [] ?kY ?k6 ?k7 ?k8 ?k9 ?kB ?kD ?_ ?c2 ?c3 ?c4; (case kY => exact fun b hb => absurd hb List.not_mem_nil); (case k6 => k_is); (case k7 => k_is); (case k8 => k_room); (case k9 => exact BindsTo.of_eq rfl); (case kD => decide +kernel); (case kB => exact rfl); (case c2 => exact rfl); (case c3 => exact rfl); (case c4 => exact rfl); k_whole; intro g L' h' tk' cells' kg gk gY kh lt' F' NC' Y' nc' X' T'; (try dsimp only); k_cells Y'; (try dsimp only); (try k_fold))
  have hRg : g.IsList R (rs.map Value.ref).toArray := hR.at fun o e => kg R o e List.not_mem_nil
  have rg : ∀ b ∈ rs, RowAt g b (v b) := fun b hb => (r b hb).keeps fun b o e => kg b o e List.not_mem_nil
  repeat' ((fail_if_success with_reducible show wpAny _ _ (exec (Stmt.For _ _ _ _ _) _) _ _ _); first | (k_unfold; (try dsimp only)) | (k_end; wrow_close) | walk1 | (dsimp only; walk1) | (leave1; try dsimp only))
  refine For_invV g rfl rfl ?_
  repeat' ((fail_if_success with_reducible show wpAny _ _ (pyIter _) _ _ _); first | (k_unfold; (try dsimp only)) | walk1)
  rename_i oc dc T0 ha l1 hb F0 N0 hc tkc t1 u1 v1 Rn F1 N1 K1
  clear F0 N0
  have l2 : @LT.lt Nat _ (L' + 1) T0 := l1
  refine iter_stR (σ := DuS) (duLed T0 (L' + 1)) (fun _ => []) [Str.ofString "k"] (DuP g T0 (L' + 1) v rs)
    ⟨oc, [], 0, []⟩ rfl Rn (range_small _ hz) (range_sz _) F1 ?_ ?_ ?_ ?_ ?_
  · intro q hq
    simp only [duLed, List.mem_cons, List.not_mem_nil, or_false] at hq
    rcases hq with rfl | rfl <;> exact N1 _ (by simp [refs])
  · intro q hq; exact absurd hq List.not_mem_nil
  · exact ⟨⟨_, dc⟩, .nil, fun p hp => absurd hp List.not_mem_nil, rfl⟩
  · intro i t c um h2 tk2 I oI hi hP hI F2 N2
    obtain ⟨oc, tl, n5, dyn⟩ := c
    obtain ⟨⟨z, hoc⟩, htold, hoff, htl⟩ := hP
    dsimp only [duLed] at hoc htold hoff htl hI F2 N2
    change Fr g L' _ _ at F2
    change News g L' _ _ at N2
    have hI1 : @Ne Nat T0 I ∧ @Ne Nat (L' + 1) I := ⟨hI (T0, listOf (refs tl) n5) (by simp), hI (L' + 1, oc) (by simp)⟩
    have hId : ∀ p ∈ dyn, p.1 ≠ I := fun p hp => hI p (by simp [hp])
    clear F1 N1 Rn K1
    have hztl : tl.length ≤ 40 := by omega
    have rtk : ∀ b ∈ rs.take (i + 1), RowAt g b (v b) := fun b hb => rg b (List.mem_of_mem_take hb)
    have hzk : (rs.take (i + 1)).length ≤ 40 := by rw [List.length_take]; omega
    repeat' ((fail_if_success with_reducible show wpAny _ _ (eval (PySem.Expr.ListComp _ _ _ _) _) _ _ _); first | (k_unfold; (try dsimp only)) | (k_end; wrow_close) | walk1 | (dsimp only; walk1) | (leave1; try dsimp only))
    rename_i S1 hS1 lS1 S2 hS2 n2 out hperm hup lS2 La hLa lLa hst oc2 dc2 mo hmo F3 N3 lmo
    have hne : rs.take (i + 1) ≠ [] := by
      intro e
      have := congrArg List.length e
      rw [List.length_take, List.length_nil] at this
      omega
    have hent := due_ent hB hne hperm hup
    have hlo : out.length = i + 1 := by rw [hperm.length_eq, List.length_take]; omega
    obtain ⟨h0, tt, hla⟩ : ∃ h0 tt, out.drop (out.length - 3) = h0 :: tt := by
      cases hq : out.drop (out.length - 3) with
      | nil =>
        have := congrArg List.length hq
        rw [List.length_drop, List.length_nil] at this
        omega
      | cons h0 tt => exact ⟨h0, tt, rfl⟩
    have rla : ∀ b ∈ h0 :: tt, RowAt g b (v b) := fun b hb => rtk b (hperm.mem_iff.mp (List.mem_of_mem_drop (hla ▸ hb)))
    have hzla : (h0 :: tt).length ≤ 40 := by
      have := congrArg List.length hla
      rw [List.length_drop] at this
      omega
    rw [hla] at N3 hent
    refine comp_cell F3 (cl := [(Str.ofString "last", L' + 1)]) (by with_unfolding_all rfl) (fun _ => rfl) (fun _ => rfl) rfl (by decide) rfl ?_
    repeat' ((fail_if_success with_reducible show SrcC _ _ _ _ _ _ _ _ _ _ _ _ _ _); first | (k_unfold; (try dsimp only)) | (k_end; wrow_close) | walk1 | (dsimp only; walk1) | (leave1; try dsimp only))
    rename_i ax hax F4 N4 lax
    refine SrcC.intro (f := fun o => ((cnt v o (h0 :: tt) : Nat) : Int)) rfl F4 N4 (.head _) (by rw [sizeLine_eq]; omega) ?_ ?_
    · intro b9 hb9 I9 oI9 C9 oC9 c9 oc9 D9 ys9 h9 tk9 E9 d9 F9 N9
      have rb9 := rtk b9 hb9
      clear F4 N4
      repeat' ((fail_if_success with_reducible show wpAny _ _ (eval (PySem.Expr.ListComp _ _ _ _) _) _ _ _); first | (k_unfold; (try dsimp only)) | (k_end; wrow_close) | walk1 | (dsimp only; walk1) | (leave1; try dsimp only))
      refine LCt.ListComp_T F9 (by with_unfolding_all rfl) (by decide) (by rfl) (by decide) (by rfl) ?_
      repeat' ((fail_if_success with_reducible show LCt.CompSrcT _ _ _ _ _ _ _ _ _ _ _ _ _ _ _); first | (k_unfold; (try dsimp only)) | (k_end; wrow_close) | walk1 | (dsimp only; walk1) | (leave1; try dsimp only))
      refine LCt.CompSrcT.ledger rfl F9 N9 (its := refs (h0 :: tt)) (k := 0) (by k_mem) (by rw [refs_size, sizeLine_eq]; omega) ?_
      intro g9
      refine comp_flt (v := v) (o := b9) (Or.inr ⟨_, by k_mem, rfl, _, rfl⟩) ?_ ?_ ?_ _ 0 (by rw [refs_size]; exact Nat.zero_add _)
      · intro b8 hb8 I8 oI8 C8 oC8 D8 ys8 m8 h8 tk8 E8 hn8 hx8 F8 N8
        have rb8 := rla b8 hb8
        clear F9 N9
        k_steps
        exact TstEnd.intro (by assumption) (by assumption)
      · intro b8 hb8 I8 oI8 C8 oC8 D8 ys8 m8 h8 tk8 E8 hn8 hx8 F8 N8
        clear F9 N9
        k_steps
        exact EltEnd.intro (by assumption) (by assumption)
      · intro D8 h8 tk8 F8 N8 o8
        clear F9 N9
        have hzf : (flt v b9 (h0 :: tt)).length ≤ 100 := Nat.le_trans (List.length_filter_le _ _) (by omega)
        repeat' ((fail_if_success with_reducible show wpAny _ _ (call (Value.builtin "len") _) _ _ _); first | (k_unfold; (try dsimp only)) | walk1)
        refine len_refs N8 (.head _) hzf ?_
        rw [flt_cnt]
        (try dsimp only)
        exact CntEnd.intro F8 (fun p hp => N8 p (.tail _ hp))
    · intro ys9 D9 h9 tk9 hi9 F9 N9 o9
      clear F4 N4
      simp only [LCg.Off1, and_true] at o9
      k_steps
      rename Fr g _ _ _ => F5
      rename News g _ _ _ => N5
      rename_i En hEn lEn hfin
      refine due_end F5 N5 (cv := ys9) (co := D9) (a := En) (mo := mo) (na := 0) (nm := 0) (nc := ys9.length) (k5 := n5 + 1) ?_ ?_ ?_ hoff hId htold dc2 (rla h0 (by simp)) hi9 hent htl
      · intro p hp
        simp only [List.cons_append, List.nil_append, List.mem_cons] at hp ⊢
        rcases hp with h | h | h | h | h | h | h
        · exact Or.inl h
        · exact Or.inr (Or.inr (Or.inr (Or.inl h)))
        · exact Or.inr (Or.inl h)
        · simp [h]
        · simp [h]
        · simp [h]
        · simp [h]
      · refine ⟨⟨?_, ?_, ?_⟩, ⟨?_, ?_, ?_⟩, ⟨?_, ?_, ?_⟩, ?_, ?_⟩ <;> omega
      · intro z h3
        have e1 := duSt_ne h3
        simp only [kstB, if_neg e1, h3, Bool.false_eq_true, if_false]
  · intro c um h2 tk2 hP F2 N2
    obtain ⟨oc, tl, n5, dyn⟩ := c
    dsimp only [duLed] at F2 N2
    change Fr g L' _ _ at F2
    change News g L' _ _ at N2
    clear F1 N1 Rn K1
    k_steps
    exact ret _ _ g T0 dyn tl n5 (fun b o e => F2.keep b o (kg b o e List.not_mem_nil)) F2.keep hP.told (fun p hp => (N2 p (by simp [hp])).1) (N2 (T0, listOf (refs tl) n5) (by simp)).1 hP.len
end
end Mine
namespace Mine
open PyProof.Rows.LCg
open Classical in
/-- the value of a row -/
noncomputable def vOf (h : Heap) (a : Addr) : Pt := if e : ∃ x, RowAt h a x ∧ Bd x then Classical.choose e else (0, 0)
theorem vOf_bd (h : Heap) (a : Addr) : Bd (vOf h a) := by
  unfold vOf
  split
  · rename_i e; exact (Classical.choose_spec e).2
  · exact ⟨by decide, by decide⟩
theorem vOf_row {h : Heap} {a : Addr} {x : Pt} (r : RowAt h a x) (b : Bd x) : RowAt h a (vOf h a) := by
  have e : ∃ x, RowAt h a x ∧ Bd x := ⟨x, r, b⟩
  unfold vOf
  rw [dif_pos e]
  exact (Classical.choose_spec e).1
abbrev rowO (p q : Int) (t u : Tok) (n : Nat) : Obj := listOf #[.int p t, .int q u] n
def RowsIn (news : List (Addr × Obj)) (rs : List Addr) : Prop := ∀ b ∈ rs, ∃ p q t u n, (b, rowO p q t u n) ∈ news ∧ 0 ≤ q ∧ q < 4
def RowEnd (h₀ : Heap) (L : Addr) (m : Str → Option Value) (s : Shared) (I C D : Addr) (all : List (Addr × Obj)) (y : Value) (s' : Shared) : Prop :=
  ∃ h' tk' b p q t u n, y = .ref b ∧ s' = { s with heap := h', toks := tk' } ∧ Fr h₀ L h' m ∧ News h₀ L h' ((b, rowO p q t u n) :: all) ∧ (0 ≤ q ∧ q < 4) ∧ @Ne Nat b I ∧ @Ne Nat b C ∧ @Ne Nat b D
section
variable {prog : Program} {w : World} {A : Around} {s : Shared} {h₀ : Heap} {L : Addr} {m : Str → Option Value} {env : Env} {elt : Expr} {x : Str} {scope : Scope} {cl : List (Str × Addr)} {Fin : List Value → List (Addr × Obj) → Prop} {ax : Addr} {vs : List Value} {ns : List Int}
theorem RowEnd.intro {I C D b : Addr} {p q : Int} {t u : Tok} {n : Nat} {h' : Heap} {tk' : Nat} {all : List (Addr × Obj)} (F : Fr h₀ L h' m) (N : News h₀ L h' ((b, rowO p q t u n) :: all)) (hq : 0 ≤ q ∧ q < 4) (hne : @Ne Nat b I ∧ @Ne Nat b C ∧ @Ne Nat b D) :
    RowEnd h₀ L m s I C D all (.ref b) { s with heap := h', toks := tk' } := ⟨h', tk', b, p, q, t, u, n, rfl, rfl, F, N, hq, hne⟩
theorem intsAre_get : ∀ {vs : List Value} {ns : List Int}, IntsAre vs ns → ∀ {i : Nat} {u : Value}, vs[i]? = some u → ∃ k t, u = .int k t
  | _, _, .nil, i, u, h => by simp at h
  | _, _, .cons n t r, 0, u, h => by simp at h; exact ⟨_, _, h.symm⟩
  | _, _, .cons n t r, i + 1, u, h => intsAre_get r (by simpa using h)
theorem comp_rows (hi : IntsAre vs ns)
    (one : ∀ k t I oI C oC D ys m₂ h tk (E' : Value → Shared → Prop) news, NsObj oC m₂ → m₂ x = some (.int k t) → Fr h₀ L h m → News h₀ L h ((I, oI) :: (C, oC) :: (D, lst ys) :: news) →
      wpAny (model prog w) A (eval elt (compEnvC scope cl C env)) (RowEnd h₀ L m { s with heap := h, toks := tk } I C D ((I, oI) :: (C, oC) :: (D, lst ys) :: news)) E' { s with heap := h, toks := tk })
    (fin : ∀ rs news, rs.length = vs.length → RowsIn news rs → Fin (rs.map Value.ref) news) :
    ∀ k i rs news, i + k = vs.length → rs.length = i → RowsIn news rs → SrcAt h₀ ax vs.toArray news → CompRest prog w A h₀ L m env elt x scope cl s (SrcAt h₀ ax vs.toArray) (fun i u => vs.toArray[i]? = some u) Fin k i (rs.map Value.ref) news
  | 0, i, rs, news, hk, hr, hrow, _ => fin rs news (by omega) hrow
  | k + 1, i, rs, news, hk, hr, hrow, hS => by
    intro u I oI C oC D m₂ h tk E' hu hn hx F N off ne
    obtain ⟨kk, t, rfl⟩ := intsAre_get hi (by simpa using hu)
    refine wpAny_mono (one kk t I oI C oC D _ m₂ h tk E' news hn hx F N) (fun y s' hy => ?_) fun _ _ e => e
    obtain ⟨h', tk', b, p, q, t', u', n, rfl, rfl, F', N', hq, n1, n2, n3⟩ := hy
    have hS' : SrcAt h₀ ax vs.toArray ((b, rowO p q t' u' n) :: news) := by
      rcases hS with hS | ⟨o, hm, r⟩
      · exact .inl hS
      · exact .inr ⟨o, .tail _ hm, r⟩
    have ih := comp_rows hi one fin k (i + 1) (rs ++ [b]) ((b, rowO p q t' u' n) :: news) (by omega) (by rw [List.length_append, List.length_singleton, hr]) (fun c hc => by
      rcases List.mem_append.mp hc with hc | hc
      · obtain ⟨p, q, t, u, n, hm, hb⟩ := hrow c hc
        exact ⟨p, q, t, u, n, .tail _ hm, hb⟩
      · rw [List.mem_singleton.mp hc]
        exact ⟨p, q, t', u', n, .head _, hq⟩) hS'
    rw [List.map_append] at ih
    refine ⟨h', tk', (b, rowO p q t' u' n) :: news, rfl, F', fun z hz => N' z ?_, ⟨⟨n1, n2, n3⟩, off⟩, hS', ih⟩
    simp only [List.mem_cons] at hz ⊢
    rcases hz with h | h | h | h | h <;> simp [h]
end
end Mine
namespace Mine
local macro_rules | `(tactic| k_room) => `(tactic| ktr_room)
local macro_rules | `(tactic| k_units) => `(tactic| ktr_units)
theorem law_holds : PySem.Challenge.rw_ny0078_01.Holds := Mine.hd (by
  k_go0
  all_goals try k_fold
  repeat' ((fail_if_success with_reducible show wpAny _ _ (exec (Stmt.Assign _ _ _) _) _ _ _); first | (k_unfold; (try dsimp only)) | (k_end; wrow_close) | walk1 | (dsimp only; walk1) | (leave1; try dsimp only))
  rename Fr _ _ _ _ => F0
  refine LCg.Assign_ListComp_U F0 (by rfl) (by with_unfolding_all rfl) (by with_unfolding_all rfl) (by decide) (by rfl) (by decide) (by rfl) (by rfl) (by rfl) ?_
  repeat' ((fail_if_success with_reducible show LCg.CompSrc _ _ _ _ _ _ _ _ _ _ _ _ _ _); first | (k_unfold; (try dsimp only)) | (k_end; wrow_close) | walk1 | (dsimp only; walk1) | (leave1; try dsimp only))
  rename_i Dsl wsl hsl hIsl hCsl hLsl lsl Dx wsx hx Fx Nx hIx lx
  have hlen : wsx.length ≤ 12 := by
    rw [hIx.length, List.length_append, List.length_take]
    simp only [List.length_cons, List.length_nil]
    omega
  refine LCg.CompSrc.ledger rfl Fx Nx (its := wsx.toArray) (k := 0) (.head _) (by rw [List.size_toArray, sizeLine_eq]; omega) ?_
  intro g9
  refine comp_rows hIx ?_ ?_ _ 0 [] _ (by rw [List.size_toArray]; exact Nat.zero_add _) rfl (fun b hb => absurd hb List.not_mem_nil) (Or.inr ⟨_, .head _, rfl, _, rfl⟩)
  · intro k9 t9 I9 oI9 C9 oC9 D9 ys9 m9 h9 tk9 E9 news9 hn9 hx9 F9 N9
    clear Fx Nx
    k_steps
    rename News _ _ _ _ => N7
    refine RowEnd.intro (by assumption) N7 ⟨Int.fmod_nonneg_of_pos _ (by decide), Int.fmod_lt_of_pos _ (by decide)⟩ ⟨?_, ?_, ?_⟩ <;> omega
  · intro rs news hrl hrow D8 h8 tk8 F8 N8 o8
    clear Fx Nx
    have hzr : rs.length ≤ 40 := by omega
    have hr8 : ∀ b ∈ rs, RowAt h8 b (vOf h8 b) := fun b hb => by
      obtain ⟨p, q, t, u, n, hm, h0, h4⟩ := hrow b hb
      exact vOf_row (x := (p, q)) ⟨t, u, _, (N8 _ (.tail _ hm)).1, rfl, _, rfl⟩ ⟨h0, h4⟩
    have hnL : ∀ b ∈ rs, b ≠ _ := fun b hb => by
      obtain ⟨p, q, t, u, n, hm, h0, h4⟩ := hrow b hb
      exact (N8 _ (.tail _ hm)).2.1
    have hD8 := (N8 _ (.head _)).1
    have hDL := (N8 _ (.head _)).2.1
    repeat' ((fail_if_success with_reducible show wpAny _ _ (call (Value.ref 75) _) _ _ _); first | (k_unfold; (try dsimp only)) | (k_end; wrow_close) | walk1 | (dsimp only; walk1) | (leave1; try dsimp only))
    k_dflt (refine told_ok _ (v := vOf h8) (rs := rs) F8 (by assumption) (by assumption) rfl ⟨_, hD8, rfl, _, rfl⟩ (vOf_bd h8) hzr hr8 (by decide) (by decide) ?_)
    intro h7 tk7 g7 T7 dyn7 tl7 n7 kp7 F7 kg7 told7 kd7 hT7 hl7
    have N7 : News _ _ h7 ((D8, LCg.lst (List.map Value.ref rs)) :: news) := fun p hp => ⟨kp7 _ _ (N8 p hp).1 (N8 p hp).2.1, (N8 p hp).2⟩
    have hD7 : h7.get? D8 = _ := kp7 _ _ hD8 hDL
    have hr7 : ∀ b ∈ rs, RowAt h7 b (vOf h8 b) := fun b hb => by
      obtain ⟨t, u, o, e, q⟩ := hr8 b hb
      exact ⟨t, u, o, kp7 _ _ e (hnL b hb), q⟩
    clear F8 N8
    repeat' ((fail_if_success with_reducible show wpAny _ _ (call (Value.ref 80) _) _ _ _); first | (k_unfold; (try dsimp only)) | (k_end; wrow_close) | walk1 | (dsimp only; walk1) | (leave1; try dsimp only))
    k_dflt (refine due_ok _ (v := vOf h8) (rs := rs) F7 (by assumption) (by assumption) rfl ⟨_, hD7, rfl, _, rfl⟩ (vOf_bd h8) hzr hr7 (by decide) (by decide) ?_)
    intro h6 tk6 g6 T6 dyn6 tl6 n6 kp6 kg6 told6 kd6 hT6 hl6
    have F6 := Fr.keeps F7 kp6
    have N6 : News _ _ h6 ((D8, LCg.lst (List.map Value.ref rs)) :: news) := fun p hp => ⟨kp6 _ _ (N7 p hp).1, (N7 p hp).2⟩
    obtain ⟨as7, ra7⟩ := told_reads (h := h6) (fun b o e => kp6 b o (kg7 b o e)) (fun p hp => kp6 _ _ (kd7 p hp)) told7
    obtain ⟨as6, ra6⟩ := told_reads (h := h6) kg6 kd6 told6
    have rd7 : Reads h6 (.ref T7) (.list (toldD (vOf h8) rs rs.length)) _ := .list (kp6 _ _ hT7) rfl rfl ra7
    have rd6 : Reads h6 (.ref T6) (.list (toldD (vOf h8) rs rs.length)) _ := .list hT6 rfl rfl ra6
    clear F7 N7
    repeat' ((fail_if_success with_reducible show wpAny _ _ (compareOp _ _ _) _ _ _); first | (k_unfold; (try dsimp only)) | (k_end; wrow_close) | walk1 | (dsimp only; walk1) | (leave1; try dsimp only))
    have hsh := toldD_shaped (vOf h8) rs rs.length
    k_dflt (refine eq_dataH (s := { heap := h6, gens := _, drawn := _, toks := _, os := _ }) rd7 rd6 hsh hsh (show 4 + 3 + 64 < cLine by decide) ?_)
    rw [SeqAt.eqv_refl _ (SeqAt.canLay_of_shaped hsh)]
    k_steps)
end Mine
theorem PySem.Challenge.cw_ny0078_01_holds : PySem.Challenge.rw_ny0078_01.Holds := by
  exact Mine.law_holds
