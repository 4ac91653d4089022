import PyProof.Rows.All
import Wide.All
import OpenK.AllK
import Wide.FinOn
import KE.KSortAsk
import Lean
import PySem.Challenge.RW_ij0174_01
set_option Elab.async false
set_option maxRecDepth 100000
set_option maxHeartbeats 8000000
set_option linter.all false
set_option compiler.extract_closed false
-- Hd
section
open PySem PySem.W PyProof.Rows
set_option maxHeartbeats 0
namespace Mine
noncomputable def topRunT (tb : String → Option Builtin) (p : Program) (w : World) (n₀ : Nat) (ann : Option Value) : Nat → SharedT → Thread → Option SharedT
  | 0, _, _ => none
  | n + 1, s, t => match through t with
    | true => some s
    | false => match stepOk n₀ ann t with
      | false => none
      | true => match stepT (denote tb) p w s t with
        | some (s', t') => topRunT tb p w n₀ ann n s' t'
        | none => none
theorem topRun_ofT {tb : String → Option Builtin} {p : Program} {w : World} {n₀ : Nat} {ann : Option Value} : ∀ {n : Nat} {s s' : SharedT} {t : Thread}, topRunT tb p w n₀ ann n s t = some s' → topRun tb p w n₀ ann n s.abs t = some s'.abs
  | 0, _, _, _, h => by cases h
  | n + 1, s, s', t, h => by
    unfold topRunT at h
    unfold topRun
    cases he : through t with
    | true => rw [he] at h; cases h; rfl
    | false =>
      rw [he] at h
      cases hk : stepOk n₀ ann t with
      | false => rw [hk] at h; cases h
      | true =>
        rw [hk] at h
        cases hs : stepT (denote tb) p w s t with
        | none => rw [hs] at h; cases h
        | some r => obtain ⟨s₂, t₂⟩ := r; rw [hs] at h; rw [stepT_spec hs]; exact topRun_ofT h
noncomputable def treed : List Obj → Nat → BT → Option BT
  | [], _, t => some t
  | o :: os, n, t => match ((t.ins n o).get n).isSome with
    | true => treed os (n + 1) (t.ins n o)
    | false => none
theorem treed_abs (life : Life) : ∀ {os : List Obj} {n : Nat} {t t' : BT}, treed os n t = some t' → absHeap t' (n + os.length) life = ⟨(absHeap t n life).objs ++ os.toArray, life⟩
  | [], n, t, t', h => by
    cases h
    simp [absHeap]
  | o :: os, n, t, t', h => by
    unfold treed at h
    cases hg : ((t.ins n o).get n).isSome with
    | false => rw [hg] at h; cases h
    | true =>
      rw [hg] at h
      have z := treed_abs life h
      rw [List.length_cons, show n + (os.length + 1) = n + 1 + os.length by omega, z, absHeap_ins hg]
      congr 1
      apply Array.toList_inj.mp
      simp [Heap.push]
theorem treed_heap {h : Heap} {t : BT} (e : treed h.objs.toList 0 .nil = some t) : absHeap t h.objs.size h.life = h := by
  have z := treed_abs h.life e
  rw [Nat.zero_add, Array.length_toList] at z
  rw [z]
  obtain ⟨objs, life⟩ := h
  congr 1
  apply Array.toList_inj.mp
  simp [absHeap, BT.list]
noncomputable def treeOf (s : Shared) : Option SharedT := (treed s.heap.objs.toList 0 .nil).map fun T => ⟨T, s.heap.objs.size, s.heap.life, s.gens, s.drawn, s.toks, s.os⟩
theorem treeOf_abs {s : Shared} {t : SharedT} (e : treeOf s = some t) : t.abs = s := by
  obtain ⟨T, h1, rfl⟩ := Option.map_eq_some_iff.mp e
  show (⟨absHeap T s.heap.objs.size s.heap.life, s.gens, s.drawn, s.toks, s.os⟩ : Shared) = s
  rw [treed_heap h1]
noncomputable def importEndsT (tb : String → Option Builtin) (p : Program) (w : World) : Nat → SharedT → Thread → Option SharedT
  | 0, _, _ => none
  | n + 1, s, t => match t.atExitBegin with
    | some [] => some s
    | some (_ :: _) => none
    | none => match stepT (denote tb) p w s t with
      | some (s', t') => importEndsT tb p w n s' t'
      | none => none
theorem importEnds_ofT {tb : String → Option Builtin} {p : Program} {w : World} : ∀ {n : Nat} {s s' : SharedT} {t : Thread}, importEndsT tb p w n s t = some s' → importEnds tb p w n s.abs t = some s'.abs
  | 0, _, _, _, h => by cases h
  | n + 1, s, s', t, h => by
    unfold importEndsT at h
    unfold importEnds
    cases he : t.atExitBegin with
    | some l => rw [he] at h; cases l with
      | nil => cases h; rfl
      | cons _ _ => cases h
    | none =>
      rw [he] at h
      cases hs : stepT (denote tb) p w s t with
      | none => rw [hs] at h; cases h
      | some r => obtain ⟨s₂, t₂⟩ := r; rw [hs] at h; dsimp only; rw [stepT_spec hs]; exact importEnds_ofT h
noncomputable def obsT (as : List Addr) (s : SharedT) : List (Option Obj) × Nat × Nat := (as.map fun a => match Nat.blt a s.n with | true => alive ((s.tree.get a).getD default) | false => none, s.n, s.toks)
theorem obsT_eq (as : List Addr) (s : SharedT) : obsT as s = X.obsZ as s.abs := by
  unfold obsT X.obsZ
  have e : (absHeap s.tree s.n s.life).objs.size = s.n := absHeap_size ..
  show _ = (as.map (absHeap s.tree s.n s.life).get?, (absHeap s.tree s.n s.life).objs.size, s.toks)
  rw [e]
  congr 1
  refine List.map_congr_left fun a _ => ?_
  cases hb : Nat.blt a s.n with
  | true =>
    have hb : a < s.n := Nat.blt_eq.mp hb
    dsimp only
    have z := absHeap_at s.tree s.n s.life a
    rw [if_pos hb] at z
    unfold Heap.get?
    rw [z]
    generalize (s.tree.get a).getD default = o
    obtain ⟨c, d, dt, sl⟩ := o
    cases dt <;> rfl
  | false => exact (abs_get_none (by intro q; rw [Nat.blt_eq.mpr q] at hb; cases hb)).symm
noncomputable def headT (p q : Program) (loose : List Str) (Xt : Shared → Bool) {α : Type} (YT : SharedT → α) (N m₀ : Nat) (ann : Option Value) (w : World) :=
  (treeOf (start (opening p)).1).bind fun sI => (importEndsT treeTable (opening p) w N sI (start (opening p)).2).bind fun sF => (fenceModules? p sF.abs).bind fun s₀ => match s₀.heap.isNs mainGlobals && s₀.gens.size == 0 && Nat.beq s₀.heap.objs.size m₀ && decide (s₀.heap.nsMap mainGlobals "__annotations__" = ann) with
    | true => (treeOf s₀).bind fun sT => (topRunT treeTable p w m₀ ann N sT (topStub p)).bind fun s₁ =>
          match staticsOk (importedModules p.main.body) s₀.heap s₁.abs.heap && namesBound p s₁.abs.heap && gensDone s₁.abs && laidKept s₀.heap s₁.abs.heap with
          | true => some (openSeen q loose (importedModules p.main.body) Xt true s₁.abs, YT s₁)
          | false => none
    | false => none
theorem left_of_run {p q : Program} {loose : List Str} {Xt : Shared → Bool} {α : Type} {Yf : Shared → α} {Ya : World → α} {N : Nat} (YT : SharedT → α) (hY : ∀ s, YT s = Yf s.abs) (m₀ : Nat) (ann : Option Value) (h : ∀ w, headT p q loose Xt YT N m₀ ann w = some (openGood q loose, Ya w)) : LeftO p q loose Xt Yf Ya N := fun w => by
  obtain ⟨sI, i0, h⟩ := Option.bind_eq_some_iff.mp (h w)
  obtain ⟨sF, i1, h⟩ := Option.bind_eq_some_iff.mp h
  obtain ⟨s₀, i2, h⟩ := Option.bind_eq_some_iff.mp h
  have i1 := importEnds_ofT i1
  rw [treeOf_abs i0] at i1
  have h0 : fencedOpening treeTable p w N = some s₀ := by
    unfold fencedOpening
    rw [i1]
    exact i2
  cases hg : (s₀.heap.isNs mainGlobals && s₀.gens.size == 0 && Nat.beq s₀.heap.objs.size m₀ && decide (s₀.heap.nsMap mainGlobals "__annotations__" = ann)) with
  | false => rw [hg] at h; cases h
  | true =>
    rw [hg] at h
    obtain ⟨hg, ha⟩ := Bool.and_eq_true_iff.mp hg
    obtain ⟨hg, hm⟩ := Bool.and_eq_true_iff.mp hg
    have ha := of_decide_eq_true ha
    have hm := Nat.eq_of_beq_eq_true hm
    obtain ⟨sT, h1, h⟩ := Option.bind_eq_some_iff.mp h
    obtain ⟨s₁, h2, h⟩ := Option.bind_eq_some_iff.mp h
    have h2 := topRun_ofT h2
    rw [treeOf_abs h1] at h2
    cases hs : (staticsOk (importedModules p.main.body) s₀.heap s₁.abs.heap && namesBound p s₁.abs.heap && gensDone s₁.abs && laidKept s₀.heap s₁.abs.heap) with
    | false => rw [hs] at h; cases h
    | true =>
      rw [hs] at h
      unfold openEnds
      rw [h0]
      show (topFrom treeTable p w N s₀).map _ = _
      unfold topFrom
      rw [hg, hm, ha]
      show (Option.bind _ _).map _ = _
      rw [h2]
      show Option.map _ (match staticsOk (importedModules p.main.body) s₀.heap s₁.abs.heap && namesBound p s₁.abs.heap && gensDone s₁.abs && laidKept s₀.heap s₁.abs.heap with | true => some s₁.abs | false => none) = _
      rw [hs]
      show some (openSeen q loose (importedModules p.main.body) Xt true s₁.abs, Yf s₁.abs) = _
      rw [← hY]
      exact h
noncomputable def PV : Program := view PySem.Challenge.pw_ij0174_01 [0, 1, 3, 5, 6, 7, 8, 9, 10, 11, 12, 14, 17, 18, 19, 20, 23, 25, 26, 27, 28, 29, 30, 31, 32]
noncomputable abbrev loo : List Str := [Str.ofString "groupby", Str.ofString "_grouper", Str.ofString "count", Str.ofString "itemgetter", Str.ofString "_rank", Str.ofString "correlation"]
theorem law_said : OpenLaw.wellSaid PySem.Challenge.rw_ij0174_01 = true := (congrFun PySem.W.Fast.te9446332074065402090 PySem.Challenge.rw_ij0174_01).trans (by kernel_rfl)
local macro_rules | `(tactic| o_law) => `(tactic| refine holds_law law_said fun said => ?_)
noncomputable def head_ok (as : List Addr) (K : Params → List (Addr × Obj)) hl hw hc := holds_openX (q := PV) (loose := loo) (Xt := fun s => xlAt PV [] s && recOk (RowW.records (OpenRow.toRowW PySem.Challenge.rw_ij0174_01.row)) s) (XP := XL PV []) (Yf := X.obsZ as) (Ya := X.valZ K 368 867) (N := 4814) hl (fun s e => xl_of s (Bool.and_eq_true_iff.mp e).1) XL.keeps (by rfl) (by rfl) (by rfl) (fun s e => recFacts_of (Bool.and_eq_true_iff.mp e).2) (by rfl) (row_said law_said) (by decide +kernel) ⟨rfl, rfl, rfl, rfl, rfl, by decide +kernel⟩ hw hc
local macro_rules | `(tactic| o_head (kHook $K $as $_)) => `(tactic| (refine head_ok $as $K ?hl ?hw ?hc; (case hl => exact left_of_run (obsT $as) (obsT_eq $as) 39 (some (.ref 6)) fun w => by kernel_rfl)))
open_top hd for PySem.Challenge.rw_ij0174_01


end Mine
end
-- Base
section
open PySem PySem.W PyProof.Rows PySem.Spec PySem.Calls
namespace Mine
noncomputable abbrev LO : List Str := looseW PV [Str.ofString "groupby", Str.ofString "_grouper", Str.ofString "count", Str.ofString "itemgetter", Str.ofString "_rank", Str.ofString "correlation"]
noncomputable abbrev AT (dp un : Nat) (gd : Option (List Code)) (cn : Str) (nm : List (Str × NameKind)) (ig ic : Bool) (mo : List (Str × Const)) (L a : Addr) (ccd : Value) (outer : List Env) : Around :=
  { handled := none, depth := dp, frames := some (envOf cn ⟨.function, nm, ig, ic, mo⟩ L a ccd :: outer), guards := gd, units := un }
noncomputable abbrev Fs (outer : List Env) : List Addr := outer.filterMap (·.frame)
structure Gd (w : World) (mean : ExcName → Option Value) (mg mb : Str → Option Value) (A₀ : Around) (base : Heap) (outer : List Env) (h₀ : Heap) : Prop where
  B : Below A₀ base outer h₀
  X : (Mine.hd.heap_1 w.params).In h₀
  T : Top PV LO mean mg mb h₀
  XB : (Mine.hd.heap_1 w.params).In base
  TB : Top PV LO mean mg mb base
  D : KtsDicts (Fs outer) h₀
noncomputable def TokBase (_n : Nat) : Prop := True
theorem tok_gen {α : Type} {M : Model} {A : Around} {t : Sem α} {Q : α → Shared → Prop} {E : Value → Shared → Prop} {h : Heap} {g : Array GenState} {d : Drawn} {os : OsState} {n X : Nat} (_b : TokBase n) (hX : n ≤ X) (k : ∀ tk, n ≤ tk → wpAny M A t Q E ⟨h, g, d, tk, os⟩) : wpAny M A t Q E ⟨h, g, d, X, os⟩ := k X hX
theorem ns_none_of {K : Frag} {h : Heap} {mg : Str → Option Value} {n : Str} {a : Addr} (X : K.In h) (G : h.Ns a mg) (e : nsIn K a n = some none) : mg n = none := by
  obtain ⟨o, es, ep, ho, hd, _, hf⟩ := G
  unfold nsIn at e
  split at e
  · rename_i c d es' n' sl q
    have := X _ _ q
    rw [ho] at this
    cases this
    cases hd
    split at e
    · cases e
    · rename_i he
      rw [← hf]
      unfold nsFind findBy
      rw [← Array.find?_toList, he]
      rfl
  · cases e

noncomputable def Telling (h : Heap) : Prop := ∃ mc, h.Ns cStatics mc ∧ mc sharingNotToldKey = none

section
variable {M : Model} {A : Around} {E : Value → Shared → Prop} {s : Shared}
theorem notTold {t : Tok} {Q : Bool → Shared → Prop} (hn : Telling s.heap) (h : Q false s) : wpAny M A (sharingNotTold t) Q E s := by
  obtain ⟨mc, h1, h2⟩ := hn
  unfold sharingNotTold
  refine wpAny_bind (wpAny_nsGet h1 ?_)
  rw [h2]
  exact wpAny_pure h
theorem created_ok {b : Bool} {t u : Tok} {Q : Bool → Shared → Prop} (ht : t ≠ 0) (hu : u ≠ 0) (hb : t = u → b = true) (hn : Telling s.heap) (h : ∀ c, (c = true → b = true) → Q c s) : wpAny M A (isSame.created b t u) Q E s := by
  unfold isSame.created
  have e1 : (t == 0 || u == 0) = false := by simp [ht, hu]
  rw [e1]
  simp only [Bool.false_eq_true, if_false]
  by_cases htu : t = u
  · have e2 : (t == u) = true := by simp [htu]
    simp only [e2, if_true]
    exact wpAny_pure (h true fun _ => hb htu)
  · have e2 : (t == u) = false := by simp [htu]
    simp only [e2, Bool.false_eq_true, if_false]
    cases hbb : b with
    | false =>
      simp only [Bool.not_false, if_true]
      exact wpAny_pure (h false fun x => by cases x)
    | true =>
      simp only [Bool.not_true, Bool.false_eq_true, if_false]
      refine wpAny_bind (notTold hn ?_)
      simp only [Bool.false_eq_true, if_false]
      refine wpAny_bind (notTold hn ?_)
      simp only [Bool.false_eq_true, if_false]
      refine wpAny_bind (wpAny_rule ?_)
      refine wpAny_bind (wpAny_askSetting ?_)
      exact wpAny_pure (h _ fun _ => hbb)
theorem is_ints {i j : Int} {t u : Tok} {Q : Value → Shared → Prop} (ht : t ≠ 0) (hu : u ≠ 0) (htu : t = u → i = j) (hn : Telling s.heap) (h : ∀ c : Bool, (c = true → i = j) → Q (.bool c) s) : wpAny M A (compareOp .Is (.int i t) (.int j u)) Q E s := by
  show wpAny M A (isSame (.int i t) (.int j u) >>= fun b => pure (Value.bool b)) Q E s
  refine wpAny_bind ?_
  show wpAny M A (if (i == j && smallInt i) = true then isSame.cachedInt t u else isSame.created (i == j) t u) _ E s
  split
  · rename_i hq
    unfold isSame.cachedInt
    have e1 : (t == 0 || u == 0) = false := by simp [ht, hu]
    rw [e1]
    simp only [Bool.false_eq_true, if_false]
    refine wpAny_bind (wpAny_rule (wpAny_pure (wpAny_pure (h true fun _ => ?_))))
    simp at hq; exact hq.1
  · exact created_ok ht hu (fun e => by simp [htu e]) hn fun c hc => wpAny_pure (h c fun x => by simpa using hc x)
theorem is_bytes {x y : Array UInt8} {t u : Tok} {Q : Value → Shared → Prop} (ht : t ≠ 0) (hu : u ≠ 0) (htu : t = u → x = y) (hn : Telling s.heap) (h : ∀ c : Bool, (c = true → x = y) → Q (.bool c) s) : wpAny M A (compareOp .Is (.bytes x t) (.bytes y u)) Q E s := by
  show wpAny M A (isSame (.bytes x t) (.bytes y u) >>= fun b => pure (Value.bool b)) Q E s
  refine wpAny_bind ?_
  show wpAny M A (isSame.created (x == y) t u) _ E s
  exact created_ok ht hu (fun e => by simp [htu e]) hn fun c hc => wpAny_pure (h c fun x => by simpa using hc x)
end

inductive Key where
  | i (n : Int)
  | b (x : Array UInt8)
deriving DecidableEq
noncomputable def Key.val : Key → Tok → Value
  | .i n, t => .int n t
  | .b x, t => .bytes x t
noncomputable def KeyPair (p q : Key × Tok) : Prop := p.2 ≠ 0 ∧ q.2 ≠ 0 ∧ (p.2 = q.2 → p.1 = q.1) ∧ ((∃ x y, p.1 = .i x ∧ q.1 = .i y) ∨ (∃ x y, p.1 = .b x ∧ q.1 = .b y))

theorem bytes_eq_of {x y : Array UInt8} (h : (x.toList == y.toList) = true) : x = y := Array.ext' (by simpa using h)
theorem bytes_ne_of {x y : Array UInt8} (h : (x.toList == y.toList) = false) : ¬ x = y := fun e => by subst e; simp at h
theorem kmu_slot {prog : Program} {w : World} {A : Around} {E : Value → Shared → Prop} {s : Shared} {K : Frag} {x C p L : Addr} {ox od : Obj} {name : Str} {h₀ : Heap} {m : Str → Option Value} {pl : Sem Bool} {Q : Value × List Value → Shared → Prop} {v : Value} {i : Nat}
    (F : Fr h₀ L s.heap m) (X₀ : K.In h₀) (I : InstAt s.heap x ox C (some od)) (hg : plainGet K C name = true) (hc : isClsIn K C = true) (ha : findIn K (.ref C) name = some (some (.ref p))) (ht' : typeIn K (.ref p) = some (.type "member_descriptor"))
    (hn : specialIn K (.ref p) "__get__" = some (some (.builtin "member_descriptor.__get__"))) (ht : takesIn K (.ref p) = some true) (hp : slotIn K p C = some i)
    (hv : (ox.slots[i]?).join = some v) (hh : handedIn v = true) (h : Q (v, []) { s with toks := s.toks + 1 }) : wpAny (model prog w) A (getMethod (.ref x) name pl) Q E s :=
  method_usual (r := some (.ref p)) (X₀.keeps F.keep) I (plainGet_of hg).1 (plainGet_of hg).2 ha (by simp only [Option.all_some, ht', Option.any_some]; decide +kernel)
    (get_slot F X₀ I hg hc ha hn ht hp hv hh h)
theorem Key.handed (k : Key) (t : Tok) : handedIn (k.val t) = true := by cases k <;> rfl
theorem ne_of_allLt {D x : Addr} : ∀ {l : List (Addr × Obj)}, AllLt D l → @LE.le Nat _ D x → ∀ p ∈ l, p.1 ≠ x
  | [], _, _ => fun _ h => nomatch h
  | p :: r, h, hx => fun q hq => by
    rcases List.mem_cons.mp hq with e | e
    · subst e; exact Nat.ne_of_lt (Nat.lt_of_lt_of_le h.1 hx)
    · exact ne_of_allLt h.2 hx q e
theorem lt_of_allLt {D x : Addr} : ∀ {l : List (Addr × Obj)}, AllLt D l → @LE.le Nat _ D x → ∀ p ∈ l, @LT.lt Nat _ p.1 x
  | [], _, _ => fun _ h => nomatch h
  | p :: r, h, hx => fun q hq => by
    rcases List.mem_cons.mp hq with e | e
    · subst e; exact Nat.lt_of_lt_of_le h.1 hx
    · exact lt_of_allLt h.2 hx q e
theorem ne_of_ltall {D x : Addr} {l : List (Addr × Obj)} (h : ∀ p ∈ l, p.1 < D) (hx : @LE.le Nat _ D x) : ∀ p ∈ l, p.1 ≠ x := fun p hp => Nat.ne_of_lt (Nat.lt_of_lt_of_le (h p hp) hx)
theorem lt_of_ltall {D x : Addr} {l : List (Addr × Obj)} (h : ∀ p ∈ l, p.1 < D) (hx : @LE.le Nat _ D x) : ∀ p ∈ l, @LT.lt Nat _ p.1 x := fun p hp => Nat.lt_of_lt_of_le (h p hp) hx
theorem ne_of_allLt' {D x : Addr} {l : List (Addr × Obj)} (h : AllLt D l ∧ @LE.le Nat _ D x) : ∀ p ∈ l, p.1 ≠ x := ne_of_allLt h.1 h.2
theorem lt_of_allLt' {D x : Addr} {l : List (Addr × Obj)} (h : AllLt D l ∧ @LE.le Nat _ D x) : ∀ p ∈ l, @LT.lt Nat _ p.1 x := lt_of_allLt h.1 h.2
theorem tok_any {α : Type} {M : Model} {A : Around} {t : Sem α} {Q : α → Shared → Prop} {E : Value → Shared → Prop} {h : Heap} {g : Array GenState} {d : Drawn} {os : OsState} {X : Nat} (k : ∀ tk, wpAny M A t Q E ⟨h, g, d, tk, os⟩) : wpAny M A t Q E ⟨h, g, d, X, os⟩ := k X
theorem let_ar {α : Type} {M : Model} {A : Around} {c : Sem α} {Q : α → Shared → Prop} {E : Value → Shared → Prop} {s : Shared} (h : let a := A; wpAny M a c Q E s) : wpAny M A c Q E s := h
theorem c2 {a b P : Prop} (h : a ∧ b) (k : a → b → P) : P := k h.1 h.2
theorem c3 {a b c P : Prop} (h : a ∧ b ∧ c) (k : a → b → c → P) : P := k h.1 h.2.1 h.2.2
theorem c4 {a b c d P : Prop} (h : a ∧ b ∧ c ∧ d) (k : a → b → c → d → P) : P := k h.1 h.2.1 h.2.2.1 h.2.2.2
theorem c5 {a b c d e P : Prop} (h : a ∧ b ∧ c ∧ d ∧ e) (k : a → b → c → d → e → P) : P := k h.1 h.2.1 h.2.2.1 h.2.2.2.1 h.2.2.2.2
theorem c6 {a b c d e f P : Prop} (h : a ∧ b ∧ c ∧ d ∧ e ∧ f) (k : a → b → c → d → e → f → P) : P := k h.1 h.2.1 h.2.2.1 h.2.2.2.1 h.2.2.2.2.1 h.2.2.2.2.2
theorem c7 {a b c d e f g P : Prop} (h : a ∧ b ∧ c ∧ d ∧ e ∧ f ∧ g) (k : a → b → c → d → e → f → g → P) : P := k h.1 h.2.1 h.2.2.1 h.2.2.2.1 h.2.2.2.2.1 h.2.2.2.2.2.1 h.2.2.2.2.2.2
theorem x1c2 {X : Type} {a b : X → Prop} {P : Prop} (h : ∃ x, a x ∧ b x) (k : ∀ x, a x → b x → P) : P := by obtain ⟨x, ha, hb⟩ := h; exact k x ha hb
theorem x1c3 {X : Type} {a b c : X → Prop} {P : Prop} (h : ∃ x, a x ∧ b x ∧ c x) (k : ∀ x, a x → b x → c x → P) : P := by obtain ⟨x, ha, hb, hc⟩ := h; exact k x ha hb hc
theorem x1c4 {X : Type} {a b c d : X → Prop} {P : Prop} (h : ∃ x, a x ∧ b x ∧ c x ∧ d x) (k : ∀ x, a x → b x → c x → d x → P) : P := by obtain ⟨x, ha, hb, hc, hd⟩ := h; exact k x ha hb hc hd
theorem x2c2 {X Y : Type} {a b : X → Y → Prop} {P : Prop} (h : ∃ x y, a x y ∧ b x y) (k : ∀ x y, a x y → b x y → P) : P := by obtain ⟨x, y, ha, hb⟩ := h; exact k x y ha hb
theorem x2c3 {X Y : Type} {a b c : X → Y → Prop} {P : Prop} (h : ∃ x y, a x y ∧ b x y ∧ c x y) (k : ∀ x y, a x y → b x y → c x y → P) : P := by obtain ⟨x, y, ha, hb, hc⟩ := h; exact k x y ha hb hc
theorem x2c4 {X Y : Type} {a b c d : X → Y → Prop} {P : Prop} (h : ∃ x y, a x y ∧ b x y ∧ c x y ∧ d x y) (k : ∀ x y, a x y → b x y → c x y → d x y → P) : P := by obtain ⟨x, y, ha, hb, hc, hd⟩ := h; exact k x y ha hb hc hd
theorem x4c8 {X Y Z U : Type} {a b c d e f g i : X → Y → Z → U → Prop} {P : Prop} (h : ∃ x y z u, a x y z u ∧ b x y z u ∧ c x y z u ∧ d x y z u ∧ e x y z u ∧ f x y z u ∧ g x y z u ∧ i x y z u) (k : ∀ x y z u, a x y z u → b x y z u → c x y z u → d x y z u → e x y z u → f x y z u → g x y z u → i x y z u → P) : P := by obtain ⟨x, y, z, u, ha, hb, hc, hd, he, hf, hg, hi⟩ := h; exact k x y z u ha hb hc hd he hf hg hi
theorem om1 {l n c : Nat} (h : l = n) (k : n < 12 ∧ 5 ≤ n) (e : Nat.ble 12 c = true) : l < c := h ▸ Nat.lt_of_lt_of_le k.1 (Nat.le_of_ble_eq_true e)
theorem om2 {l n c : Nat} (h : l = n) (k : n < 12 ∧ 5 ≤ n) (e : Nat.ble 11 c = true) : l ≤ c := h ▸ Nat.le_trans (Nat.le_of_lt_succ k.1) (Nat.le_of_ble_eq_true e)
theorem om3 {l n c : Nat} (h : l = n) (k : n < 12 ∧ 5 ≤ n) (e : Nat.ble (c + 1) 5 = true) : c < l := h ▸ Nat.lt_of_lt_of_le (Nat.le_of_ble_eq_true e) k.2
theorem om4 {l n c : Nat} (h : l = n) (k : n < 12 ∧ 5 ≤ n) (e : Nat.ble c 5 = true) : c ≤ l := h ▸ Nat.le_trans (Nat.le_of_ble_eq_true e) k.2
theorem om20 {a m b : Nat} (h : m < b) (k : a ≤ m + 1) : a ≤ b := Nat.le_trans k h
theorem om21 {a m b : Nat} (h : m ≤ b) (k : a ≤ m) : a ≤ b := Nat.le_trans k h
theorem om22 {n l : Nat} (h : n = min 6 l + 5) : n < 12 ∧ 5 ≤ n := by omega
theorem om23 {n l : Nat} (h : min 6 l + 5 = n) : n < 12 ∧ 5 ≤ n := om22 h.symm
noncomputable def IsN (zs : List Int) (n : Nat) : Prop := n = min 6 zs.length + 5
theorem IsN.five {zs : List Int} {n : Nat} (h : IsN zs n) : n < 12 ∧ 5 ≤ n := om22 h
theorem om24 {l n j : Nat} (h : l = n) (k : j ≤ n) : j ≤ l := h ▸ k
theorem omE {e f n j : Nat} (h : j < f - e) (k : f ≤ n) : e + j < n := Nat.lt_of_lt_of_le (Nat.add_lt_of_lt_sub' h) k
theorem omN {i j : Nat} (h : i < j + 1) (k : ¬ i = j) : i < j := Nat.lt_of_le_of_ne (Nat.le_of_lt_succ h) k
theorem om14 {n c : Nat} (h : n < 12 ∧ 5 ≤ n) (e : Nat.ble 6 c = true) : n / 2 < c := Nat.lt_of_lt_of_le (Nat.div_lt_of_lt_mul h.1) (Nat.le_of_ble_eq_true e)
theorem om15 {n : Nat} (h : n < 12 ∧ 5 ≤ n) : n / 2 < n := Nat.div_lt_self (Nat.lt_of_lt_of_le (by decide) h.2) (by decide)
theorem om25 {e j : Nat} (h : j < e) : e - j = e - (j + 1) + 1 := by rw [Nat.sub_add_eq, Nat.sub_add_cancel (Nat.sub_pos_of_lt h)]
theorem om26 {n : Nat} (h : n % 2 = 1) : n / 2 = (n - 1) / 2 := by
  have e := Nat.div_add_mod n 2
  rw [h] at e
  exact ((congrArg (fun x => (x - 1) / 2) e).symm.trans (Nat.mul_div_cancel_left (n / 2) (by decide))).symm
theorem om27 {n c : Nat} (h : n < 12 ∧ 5 ≤ n) (e : Nat.ble 6 c = true) : (n - 1) / 2 < c := Nat.lt_of_le_of_lt (Nat.div_le_div_right (Nat.sub_le n 1)) (om14 h e)
theorem om28 {n : Nat} (h : n < 12 ∧ 5 ≤ n) : (n - 1) / 2 < n := Nat.lt_of_le_of_lt (Nat.div_le_div_right (Nat.sub_le n 1)) (om15 h)
theorem om29 {n : Nat} (h : n < 12 ∧ 5 ≤ n) : n ≤ 11 := Nat.le_of_lt_succ h.1
theorem om30 {l n : Nat} (e : l = n) (h : n < 12 ∧ 5 ≤ n) : (n - 1) / 2 < l := by rw [e]; exact om28 h
theorem om31 {l n c : Nat} (e : l = n) (h : n % 2 = c) : l % 2 = c := by rw [e]; exact h
theorem om32 {n : Nat} (h : n < 12 ∧ 5 ≤ n) : ((n : Nat) : Int) - 1 = ((n - 1 : Nat) : Int) := (Int.ofNat_sub (Nat.le_trans (by decide) h.2)).symm
theorem om5 {n j : Nat} (h : j < n) : n - (j + 1) < n - j := Nat.sub_succ_lt_self _ _ h
theorem om6 {n j r : Nat} (h : n - j = r + 1) : n - (j + 1) = r := by rw [Nat.sub_add_eq, h]; rfl
theorem om7 {n j r : Nat} (h : n - j = r + 1) : j < n := Nat.lt_of_sub_eq_succ h
theorem om8 {j : Nat} (h : j ≤ 3) : j = 0 ∨ j = 1 ∨ j = 2 ∨ j = 3 := match j, h with | 0, _ => .inl rfl | 1, _ => .inr (.inl rfl) | 2, _ => .inr (.inr (.inl rfl)) | 3, _ => .inr (.inr (.inr rfl))
theorem om9 {l n j : Nat} (h : l = n) (k : j < l) : j < n := h ▸ k
theorem om10 {l n j : Nat} (h : l = n) (k : j < n) : j < l := h ▸ k
theorem om11 {n k : Nat} (h : n < 64) (e : Nat.ble 64 k = true) : n < k := Nat.lt_of_lt_of_le h (Nat.le_of_ble_eq_true e)
theorem om12 {n k : Nat} (h : 2 ≤ n) (e : Nat.ble k 2 = true) : k ≤ n := Nat.le_trans (Nat.le_of_ble_eq_true e) h
theorem om13 {x a : Prop} (h : x ∧ a) : a := h.2
theorem om16 {l n : Nat} (e : l = n) (h : n < 12 ∧ 5 ≤ n) : n / 2 < l := by rw [e]; exact om15 h
theorem om17 {l n c : Nat} (e : l = n) (h : n < 12 ∧ 5 ≤ n) (k : Nat.ble 6 c = true) : l / 2 < c := by rw [e]; exact om14 h k
theorem om18 {l n : Nat} (e : l = n) (h : n < 12 ∧ 5 ≤ n) : l / 2 < n := by rw [e]; exact om15 h
theorem om19 {l n : Nat} (e : l = n) (h : n < 12 ∧ 5 ≤ n) : l / 2 < l := by rw [e]; exact om15 h
theorem A1 {a b : Prop} (h : a ∧ b) : a := h.1
theorem A2 {a b x1 : Prop} (h : x1 ∧ a ∧ b) : a := h.2.1
theorem A3 {a b x1 x2 : Prop} (h : x1 ∧ x2 ∧ a ∧ b) : a := h.2.2.1
theorem A4 {a b x1 x2 x3 : Prop} (h : x1 ∧ x2 ∧ x3 ∧ a ∧ b) : a := h.2.2.2.1
theorem A5 {a b x1 x2 x3 x4 : Prop} (h : x1 ∧ x2 ∧ x3 ∧ x4 ∧ a ∧ b) : a := h.2.2.2.2.1
theorem A6 {a b x1 x2 x3 x4 x5 : Prop} (h : x1 ∧ x2 ∧ x3 ∧ x4 ∧ x5 ∧ a ∧ b) : a := h.2.2.2.2.2.1
theorem A7 {a b x1 x2 x3 x4 x5 x6 : Prop} (h : x1 ∧ x2 ∧ x3 ∧ x4 ∧ x5 ∧ x6 ∧ a ∧ b) : a := h.2.2.2.2.2.2.1
theorem A8 {a b x1 x2 x3 x4 x5 x6 x7 : Prop} (h : x1 ∧ x2 ∧ x3 ∧ x4 ∧ x5 ∧ x6 ∧ x7 ∧ a ∧ b) : a := h.2.2.2.2.2.2.2.1
theorem Q1 {a b x1 : Prop} (h : x1 ∧ a) (k : b) : a ∧ b := ⟨h.2, k⟩
theorem Q2 {a b x1 x2 : Prop} (h : x1 ∧ x2 ∧ a) (k : b) : a ∧ b := ⟨h.2.2, k⟩
theorem Q3 {a b x1 x2 x3 : Prop} (h : x1 ∧ x2 ∧ x3 ∧ a) (k : b) : a ∧ b := ⟨h.2.2.2, k⟩
theorem Q4 {a b x1 x2 x3 x4 : Prop} (h : x1 ∧ x2 ∧ x3 ∧ x4 ∧ a) (k : b) : a ∧ b := ⟨h.2.2.2.2, k⟩
theorem Q5 {a b x1 x2 x3 x4 x5 : Prop} (h : x1 ∧ x2 ∧ x3 ∧ x4 ∧ x5 ∧ a) (k : b) : a ∧ b := ⟨h.2.2.2.2.2, k⟩
theorem Q6 {a b x1 x2 x3 x4 x5 x6 : Prop} (h : x1 ∧ x2 ∧ x3 ∧ x4 ∧ x5 ∧ x6 ∧ a) (k : b) : a ∧ b := ⟨h.2.2.2.2.2.2, k⟩
theorem Q7 {a b x1 x2 x3 x4 x5 x6 x7 : Prop} (h : x1 ∧ x2 ∧ x3 ∧ x4 ∧ x5 ∧ x6 ∧ x7 ∧ a) (k : b) : a ∧ b := ⟨h.2.2.2.2.2.2.2, k⟩
theorem Q8 {a b x1 x2 x3 x4 x5 x6 x7 x8 : Prop} (h : x1 ∧ x2 ∧ x3 ∧ x4 ∧ x5 ∧ x6 ∧ x7 ∧ x8 ∧ a) (k : b) : a ∧ b := ⟨h.2.2.2.2.2.2.2.2, k⟩
def walkW (s : String) : Lean.MacroM (Lean.TSyntax `tactic) := if s = "" then `(tactic| skip) else `(tactic| walk_at $(Lean.Syntax.mkStrLit s))
def callM (f : Lean.Name) (k ad : Nat) (args : String) (ns : List Lean.Name) (post : String) : Lean.MacroM Lean.Syntax := do
  let u ← `(_)
  let us := (List.replicate k u).toArray
  let g ← if ad = 0 then `(tactic| skip) else `(tactic| show wpAny _ _ (call (Value.ref $(Lean.quote ad)) _) _ _ _)
  let is : Array Lean.Term := (ns.map Lean.mkIdent).toArray
  let i ← if ns = [] then `(tactic| skip) else `(tactic| intro $is*)
  `(tactic| (k_here; $g:tactic; (with_unfolding_all refine' $(Lean.mkIdent f) $us* ?_; $(← walkW args):tactic); $i:tactic; $(← walkW post):tactic))
def dfltM (f : Lean.Name) (k : Nat) : Lean.MacroM Lean.Syntax := do
  let u ← `(_)
  let us := (List.replicate k u).toArray
  `(tactic| (k_here; k_dflt (refine' $(Lean.mkIdent f) $us* ?_; walk_at "argi")))
theorem rm0 {a k c : Nat} (h : a + k < c) (_ : Nat.ble 0 k = true) : a < c := Nat.lt_of_le_of_lt (Nat.le_add_right a k) h
theorem rm1 {a k c x : Nat} (h : a + k < c) (e : Nat.ble x k = true) : a + x < c := Nat.lt_of_le_of_lt (Nat.add_le_add_left (Nat.le_of_ble_eq_true e) a) h
theorem rm2 {a k c x y : Nat} (h : a + k < c) (e : Nat.ble (x + y) k = true) : a + x + y < c := by rw [Nat.add_assoc]; exact rm1 h e
theorem rmd0 {A : Around} {env : Env} {k c : Nat} (h : A.depth + k < c) (e : Nat.ble 1 k = true) : (A.deeper env).depth < c := rm1 h e
theorem rmd1 {A : Around} {env : Env} {k c x : Nat} (h : A.depth + k < c) (e : Nat.ble (1 + x) k = true) : (A.deeper env).depth + x < c := rm2 h e
theorem rmd2 {A : Around} {env : Env} {k c x y : Nat} (h : A.depth + k < c) (e : Nat.ble (1 + (x + y)) k = true) : (A.deeper env).depth + x + y < c := by rw [Nat.add_assoc]; exact rmd1 h e
theorem rmu0 {A : Around} {env : Env} {k c : Nat} (h : A.units + k < c) (e : Nat.ble 3 k = true) : (A.deeper env).units < c := rm1 h e
theorem rmu1 {A : Around} {env : Env} {k c x : Nat} (h : A.units + k < c) (e : Nat.ble (3 + x) k = true) : (A.deeper env).units + x < c := rm2 h e
theorem rmu2 {A : Around} {env : Env} {k c x y : Nat} (h : A.units + k < c) (e : Nat.ble (3 + (x + y)) k = true) : (A.deeper env).units + x + y < c := by rw [Nat.add_assoc]; exact rmu1 h e
theorem rmc {x c : Nat} (h : Nat.ble (x + 1) c = true) : x < c := Nat.le_of_ble_eq_true h
theorem fa_cons {α : Type} {p : α → Prop} {a : α} {l : List α} (h : p a) (t : ∀ x ∈ l, p x) : ∀ x ∈ a :: l, p x := List.forall_mem_cons.mpr ⟨h, t⟩
theorem mem_rot {α : Type} {q : α} {l : List α} (l₁ l₂ : List α) (h : q ∈ l₂ ++ (l₁ ++ l)) : q ∈ l₁ ++ (l₂ ++ l) := by
  simp only [List.mem_append] at h ⊢
  exact h.elim (fun h => .inr (.inl h)) fun h => h.elim .inl fun h => .inr (.inr h)
theorem mem_ins {α : Type} {q x : α} {l : List α} (l₁ : List α) (h : q ∈ l₁ ++ l) : q ∈ l₁ ++ x :: l := by
  simp only [List.mem_append, List.mem_cons] at h ⊢
  exact h.elim .inl fun h => .inr (.inr h)
theorem mem_sk {α : Type} {q x : α} {l l' : List α} (f : q ∈ l → q ∈ l') (h : q ∈ x :: l) : q ∈ x :: l' := (List.mem_cons.mp h).elim (fun e => List.mem_cons.mpr (.inl e)) fun h => .tail _ (f h)
theorem mem_ap {α : Type} {q t : α} {X r : List α} (A : List α) (g : q ∈ X → q = t ∨ q ∈ r) (h : q ∈ A ++ X) : q ∈ t :: (A ++ r) := (List.mem_append.mp h).elim (fun a => .tail _ (List.mem_append_left _ a)) fun x => (g x).elim (fun e => e ▸ .head _) fun y => .tail _ (List.mem_append_right _ y)
theorem mem_p3 {α : Type} {q a b c : α} {l : List α} (h : q ∈ a :: b :: c :: l) : q ∈ c :: b :: a :: l := by
  simp only [List.mem_cons] at h ⊢
  rcases h with h | h | h | h <;> simp [h]
end Mine
end
-- WTok
section
open PySem PySem.W PyProof.Rows PySem.Spec PySem.Calls
namespace Mine
theorem runs_toks {M : Model} {Γ : PySem.Ctx} {p : Pos} {t : Sem PySem.Fin} {fs : List Frame} {s s' : Shared} {e : End} (h : Runs M Γ p t fs s e s') : s.toks ≤ s'.toks := by
  induction h
  case fresh ih => exact Nat.le_of_succ_le ih
  all_goals first
    | exact Nat.le_refl _
    | assumption
    | (rename_i i1 i2; exact Nat.le_trans i1 i2)
theorem wakes_toks {M : Model} {Γ : PySem.Ctx} {p : Pos} {g : Nat} {r : Resume} {s s' : Shared} {res : GenResult} (h : Wakes M Γ p g r s res s') : s.toks ≤ s'.toks := by
  unfold Wakes at h
  split at h
  · exact h.elim
  · split at h
    · obtain ⟨e₁, s₁, h1, _, _, rfl⟩ := h
      exact (show (s.setGen g .running).toks ≤ s₁.toks from runs_toks h1)
    · obtain ⟨_, rfl⟩ := h
      exact Nat.le_refl _
    · obtain ⟨_, rfl⟩ := h
      exact Nat.le_refl _
  · obtain ⟨e₁, s₁, h1, _, _, rfl⟩ := h
    exact (show (s.setGen g .running).toks ≤ s₁.toks from runs_toks h1)
  · obtain ⟨_, rfl⟩ := h
    exact Nat.le_refl _
  · obtain ⟨_, rfl⟩ := h
    exact Nat.le_refl _
theorem wp_toks {α : Type} {M : Model} {Γ : PySem.Ctx} (n : Nat) : ∀ (t : Sem α) {Q : α → Pos → Shared → Prop} {E : Value → Pos → Shared → Prop} {p : Pos} {s : Shared}, n ≤ s.toks → Sem.wp M Γ t Q E p s →
    Sem.wp M Γ t (fun a p' s' => Q a p' s' ∧ n ≤ s'.toks) (fun e p' s' => E e p' s' ∧ n ≤ s'.toks) p s := by
  intro t
  induction t
  all_goals intro Q E p s hn h
  all_goals simp only [Sem.wp] at h ⊢
  all_goals first
    | exact ⟨h, hn⟩
    | exact h
    | (rename_i ih; exact ih _ hn h)
    | (rename_i ih; obtain ⟨o, h1, h2⟩ := h; exact ⟨o, h1, ih _ hn h2⟩)
    | (rename_i ih; exact ⟨h.1, ih _ hn h.2⟩)
    | (rename_i ih; exact ih _ (Nat.le_succ_of_le hn) h)
    | (rename_i ih; obtain ⟨r, s₁, h1, h2⟩ := h; exact ⟨r, s₁, h1, ih _ (Nat.le_trans hn (runs_toks h1)) h2⟩)
    | (rename_i ih; obtain ⟨r, s₁, h1, h2⟩ := h; exact ⟨r, s₁, h1, ih _ (Nat.le_trans hn (wakes_toks h1)) h2⟩)
theorem wpAny_toks {α : Type} {M : Model} {A : Around} {t : Sem α} {Q : α → Shared → Prop} {E : Value → Shared → Prop} {s : Shared} (h : wpAny M A t (fun a s' => s.toks ≤ s'.toks → Q a s') (fun e s' => s.toks ≤ s'.toks → E e s') s) : wpAny M A t Q E s := fun Γ p hΓ =>
  Sem.wp_mono (post := fun a _ s' => (s.toks ≤ s'.toks → Q a s') ∧ s.toks ≤ s'.toks) (exc := fun e _ s' => (s.toks ≤ s'.toks → E e s') ∧ s.toks ≤ s'.toks) M Γ t (fun a _ s' q => q.1 q.2) (fun e _ s' q => q.1 q.2) p s (wp_toks s.toks t (Nat.le_refl _) (h Γ p hΓ))
theorem execs_cons_tok {prog : Program} {w : World} {A : Around} {E : Value → Shared → Prop} {s : Shared} {env : Env} {st : Stmt} {rest : List Stmt} {Q : Flow → Shared → Prop}
    (h : wpAny (model prog w) A (exec st env) (fun f s' => s.toks ≤ s'.toks → match f with | .next => wpAny (model prog w) A (execs rest env) Q E s' | f => Q f s') E s) :
    wpAny (model prog w) A (execs (st :: rest) env) Q E s :=
  wpAny_execs_cons (wpAny_toks (wpAny_mono h (fun _ _ q => q) fun _ _ q _ => q))
end Mine
end
-- PSort
section
open PySem PySem.W PyProof.Rows
namespace Mine
noncomputable def KasAll {α : Type} (n : Nat) (lt : Nat → Nat → Bool) (Q : α → Prop) : KasT α → Prop
  | .ret a => Q a
  | .ask i j k => i < n ∧ j < n ∧ KasAll n lt Q (k (lt i j))
section
variable {α β : Type} {n : Nat} {lt : Nat → Nat → Bool}
theorem all_bind {Q : β → Prop} {f : α → KasT β} : ∀ {t : KasT α}, KasAll n lt (fun a => KasAll n lt Q (f a)) t → KasAll n lt Q (t.bind f)
  | .ret _, h => h
  | .ask _ _ _, h => ⟨h.1, h.2.1, all_bind h.2.2⟩
theorem all_mono {P Q : α → Prop} (k : ∀ a, P a → Q a) : ∀ {t : KasT α}, KasAll n lt P t → KasAll n lt Q t
  | .ret _, h => k _ h
  | .ask _ _ _, h => ⟨h.1, h.2.1, all_mono k h.2.2⟩
theorem all_wp {cmp : Nat → Nat → (Bool → Shared → Prop) → Shared → Prop} {I : Shared → Prop} {P : α → Prop} {Q : α → Shared → Prop} (hc : ∀ i j C s, i < n → j < n → I s → (∀ s', I s' → C (lt i j) s') → cmp i j C s)
    (hq : ∀ a s', P a → I s' → Q a s') : ∀ (t : KasT α) (s : Shared), I s → KasAll n lt P t → t.kasWp cmp Q s
  | .ret _, s, hs, h => hq _ s h hs
  | .ask _ _ _, s, hs, h => hc _ _ _ s h.1 h.2.1 hs fun s' hs' => all_wp hc hq _ s' hs' h.2.2
structure LinLt (n : Nat) (lt : Nat → Nat → Bool) : Prop where
  tr : ∀ i j k, i < n → j < n → k < n → lt i j = true → lt j k = true → lt i k = true
  tot : ∀ i j, i < n → j < n → i ≠ j → lt i j = false → lt j i = true
  asy : ∀ i j, i < n → j < n → lt i j = true → lt j i = false
noncomputable def Ok (n : Nat) (p : Array Nat) : Prop := p.toList.Perm (List.range n)
noncomputable abbrev at' (p : Array Nat) (i : Nat) : Nat := p.getD i 0
theorem Ok.size {p : Array Nat} (h : Ok n p) : p.size = n := by have := h.length_eq; simpa using this
theorem at_get {p : Array Nat} {i : Nat} (h : i < p.size) : p[i]? = some (at' p i) := by
  simp [at', Array.getD_eq_getD_getElem?, h]
theorem Ok.bnd {p : Array Nat} (h : Ok n p) {i : Nat} (hi : i < n) : at' p i < n := by
  have hs : i < p.size := by rw [h.size]; exact hi
  have : at' p i ∈ p.toList := by
    have e := at_get hs
    exact Array.mem_toList_iff.mpr (Array.mem_of_getElem? e)
  simpa using h.mem_iff.mp this
theorem Ok.inj {p : Array Nat} (h : Ok n p) {i j : Nat} (hi : i < n) (hj : j < n) (hij : i ≠ j) : at' p i ≠ at' p j := by
  have nd : p.toList.Nodup := h.nodup_iff.mpr List.nodup_range
  intro e
  have hi' : i < p.toList.length := by simp [h.size, hi]
  have hj' : j < p.toList.length := by simp [h.size, hj]
  refine hij ((List.getElem_inj (h₀ := hi') (h₁ := hj') nd).mp ?_)
  have e1 := at_get (p := p) (i := i) (by rw [h.size]; exact hi)
  have e2 := at_get (p := p) (i := j) (by rw [h.size]; exact hj)
  rw [e] at e1
  have e3 : p[i]? = p[j]? := e1.trans e2.symm
  rw [Array.getElem?_eq_getElem (by rw [h.size]; exact hi), Array.getElem?_eq_getElem (by rw [h.size]; exact hj)] at e3
  simpa using e3
theorem Ok.rev {p : Array Nat} (h : Ok n p) (i j : Nat) : Ok n (kas_rev p i j) := (Array.perm_iff_toList_perm.mp (mirror_perm p i j _)).trans h
theorem Ok.bub {p : Array Nat} (h : Ok n p) (i j : Nat) : Ok n (bubble p i j) := (Array.perm_iff_toList_perm.mp (bubble_perm p i j)).trans h
theorem at_rev {p : Array Nat} {k : Nat} (hk : k ≤ p.size) (i : Nat) : at' (kas_rev p 0 k) i = if i < k then at' p (k - 1 - i) else at' p i := by
  have e := getElem?_mirror_all (i := 0) hk i
  simp only [at', Array.getD_eq_getD_getElem?, kas_rev]
  rw [e]
  by_cases h : i < k
  · rw [if_pos ⟨Nat.zero_le _, h⟩, if_pos h]; simp
  · rw [if_neg (by omega), if_neg h]
theorem at_bub {p : Array Nat} {src d : Nat} (hs : src < p.size) (hd : d ≤ src) (k : Nat) : at' (bubble p src d) k = if k = src - d then at' p src else if src - d < k ∧ k ≤ src then at' p (k - 1) else at' p k := by
  have e := getElem?_bubble hs d hd k
  simp only [at', Array.getD_eq_getD_getElem?]
  rw [e]
  split
  · rfl
  · split <;> rfl
noncomputable def Srt (lt : Nat → Nat → Bool) (p : Array Nat) (k : Nat) : Prop := ∀ i j, i < j → j < k → lt (at' p i) (at' p j) = true
noncomputable def Dsc (lt : Nat → Nat → Bool) (p : Array Nat) (k : Nat) : Prop := ∀ i j, i < j → j < k → lt (at' p j) (at' p i) = true
variable (H : LinLt n lt)
include H
theorem srt_next {p : Array Nat} (h : Ok n p) {k : Nat} (hk : k < n) (h1 : 1 ≤ k) (s : Srt lt p k) (e : lt (at' p k) (at' p (k - 1)) = false) : Srt lt p (k + 1) := by
  have e1 := H.tot _ _ (h.bnd hk) (h.bnd (show k - 1 < n by omega)) (h.inj hk (by omega) (by omega)) e
  intro i j hij hj
  by_cases hjk : j < k
  · exact s i j hij hjk
  · have : j = k := by omega
    subst this
    by_cases hi : i = j - 1
    · subst hi; exact e1
    · exact H.tr _ _ _ (h.bnd (by omega)) (h.bnd (show j - 1 < n by omega)) (h.bnd hk) (s i (j - 1) (by omega) (by omega)) e1
theorem dsc_next {p : Array Nat} (h : Ok n p) {k : Nat} (hk : k < n) (h1 : 1 ≤ k) (s : Dsc lt p k) (e : lt (at' p k) (at' p (k - 1)) = true) : Dsc lt p (k + 1) := by
  intro i j hij hj
  by_cases hjk : j < k
  · exact s i j hij hjk
  · have : j = k := by omega
    subst this
    by_cases hi : i = j - 1
    · subst hi; exact e
    · exact H.tr _ _ _ (h.bnd hk) (h.bnd (show j - 1 < n by omega)) (h.bnd (by omega)) e (s i (j - 1) (by omega) (by omega))
theorem asc_ok {p : Array Nat} (h : Ok n p) : ∀ (f k : Nat), 1 ≤ k → k + f = n → Srt lt p k → KasAll n lt (fun m => k ≤ m ∧ m ≤ n ∧ Srt lt p m ∧ (m < n → lt (at' p m) (at' p (m - 1)) = true)) (kas_asc p f k)
  | 0, k, h1, hk, s => ⟨Nat.le_refl _, by omega, s, fun z => by omega⟩
  | f + 1, k, h1, hk, s => by
    refine ⟨h.bnd (by omega), h.bnd (by omega), ?_⟩
    dsimp only
    cases e : lt (p.getD k 0) (p.getD (k - 1) 0) with
    | true => exact ⟨Nat.le_refl _, by omega, s, fun _ => e⟩
    | false =>
      rw [if_neg (by simp)]
      exact all_mono (fun m hm => ⟨by omega, hm.2⟩) (asc_ok h f (k + 1) (by omega) (by omega) (srt_next H h (by omega) h1 s e))
theorem desc_ok {p : Array Nat} (h : Ok n p) : ∀ (f k : Nat), 1 ≤ k → k + f = n → Dsc lt p k → KasAll n lt (fun r => r.1 = p ∧ r.2.2 = 0 ∧ k ≤ r.2.1 ∧ r.2.1 ≤ n ∧ Dsc lt p r.2.1) (kas_desc f p k 0)
  | 0, k, h1, hk, s => ⟨rfl, rfl, Nat.le_refl _, (by show k ≤ n; omega), s⟩
  | f + 1, k, h1, hk, s => by
    refine ⟨h.bnd (by omega), h.bnd (by omega), ?_⟩
    dsimp only
    cases e : lt (p.getD k 0) (p.getD (k - 1) 0) with
    | true =>
      rw [if_pos rfl, if_neg (by omega)]
      exact all_mono (fun m hm => ⟨hm.1, hm.2.1, by omega, hm.2.2.2⟩) (desc_ok h f (k + 1) (by omega) (by omega) (dsc_next H h (by omega) h1 s e))
    | false =>
      rw [if_neg (by simp)]
      have e1 := H.tot _ _ (h.bnd (show k < n by omega)) (h.bnd (show k - 1 < n by omega)) (h.inj (by omega) (by omega) (by omega)) e
      refine ⟨h.bnd (by omega), h.bnd (by omega), ?_⟩
      dsimp only
      rw [show lt (p.getD (k - 1) 0) (p.getD k 0) = true from e1, if_pos rfl]
      exact ⟨rfl, rfl, Nat.le_refl _, (by show k ≤ n; omega), s⟩
theorem tail3_ok {p : Array Nat} (h : Ok n p) {k : Nat} (h1 : 1 ≤ k) (hk : k ≤ n) (s : Dsc lt p k) : KasAll n lt (fun r => Ok n r.2 ∧ 1 ≤ r.1 ∧ r.1 ≤ n ∧ Srt lt r.2 r.1) (kas_tail3 k n p) := by
  have hr := h.rev 0 k
  have s' : Srt lt (kas_rev p 0 k) k := by
    intro i j hij hj
    rw [at_rev (by rw [h.size]; exact hk), at_rev (by rw [h.size]; exact hk), if_pos (by omega), if_pos hj]
    exact s _ _ (by omega) (by omega)
  exact all_bind (all_mono (fun m hm => ⟨hr, by omega, hm.2.1, hm.2.2.1⟩) (asc_ok H hr (n - k) k h1 (by omega) s'))
theorem descPart_ok {p : Array Nat} (h : Ok n p) (hn : 1 < n) (e : lt (at' p 1) (at' p 0) = true) : KasAll n lt (fun r => Ok n r.2 ∧ 1 ≤ r.1 ∧ r.1 ≤ n ∧ Srt lt r.2 r.1) (kas_descPart 1 n p) := by
  refine all_bind (all_mono (fun r hr => ?_) (desc_ok H h (n - 2) 2 (by omega) (by omega) fun i j hij hj => ?_))
  · obtain ⟨r1, r2, r3⟩ := r
    obtain ⟨rfl, rfl, h3, h4, h5⟩ := hr
    dsimp only at h3 h4 h5 ⊢
    rw [if_neg (by omega)]
    exact tail3_ok H h (by omega) h4 h5
  · have e1 : i = 0 := by omega
    have e2 : j = 1 := by omega
    subst e1 e2; exact e
theorem count_ok {p : Array Nat} (h : Ok n p) (hn : 1 ≤ n) : KasAll n lt (fun r => Ok n r.2 ∧ 1 ≤ r.1 ∧ r.1 ≤ n ∧ Srt lt r.2 r.1) (kas_count n p) := by
  refine all_bind (all_mono (fun m hm => ?_) (asc_ok H h (n - 1) 1 (by omega) (by omega) fun i j hij hj => by omega))
  obtain ⟨h1, h2, h3, h4⟩ := hm
  by_cases e : m = n
  · rw [if_pos (by simp [e])]; exact ⟨h, h1, h2, h3⟩
  · rw [if_neg (by simp [e])]
    by_cases e2 : m > 1
    · rw [if_pos e2]
      refine ⟨h.bnd (by omega), h.bnd (by omega), ?_⟩
      dsimp only
      rw [show lt (p.getD 0 0) (p.getD (m - 1) 0) = true from h3 0 (m - 1) (by omega) (by omega), if_pos rfl]
      exact ⟨h, h1, h2, h3⟩
    · rw [if_neg e2]
      have : m = 1 := by omega
      subst this
      exact descPart_ok H h (by omega) (h4 (by omega))
omit H in
theorem half_in {l r : Nat} (h : l < r) : (l + r) / 2 < r ∧ l ≤ (l + r) / 2 := by omega
omit H in
theorem half_up {l r m f : Nat} (h : r - l ≤ f + 1) (k : l ≤ m) (q : m < r) : r - (m + 1) ≤ f := by omega
theorem place_ok {p : Array Nat} (h : Ok n p) {k : Nat} (hk : k < n) : ∀ (f l r : Nat), r - l ≤ f → l ≤ r → r ≤ k → (∀ i, i < l → lt (at' p i) (at' p k) = true) → (∀ i, r ≤ i → i < k → lt (at' p k) (at' p i) = true) → Srt lt p k →
    KasAll n lt (fun l => l ≤ k ∧ (∀ i, i < l → lt (at' p i) (at' p k) = true) ∧ (∀ i, l ≤ i → i < k → lt (at' p k) (at' p i) = true)) (kas_place p k f l r)
  | 0, l, r, hf, hlr, hr, a, b, s => by
    have : l = r := by omega
    subst this
    exact ⟨hr, a, b⟩
  | f + 1, l, r, hf, hlr, hr, a, b, s => by
    unfold kas_place
    by_cases hl : l ≥ r
    · rw [if_pos hl]
      have : l = r := by omega
      subst this
      exact ⟨hr, a, b⟩
    · rw [if_neg hl]
      obtain ⟨hm, hm'⟩ := half_in (Nat.lt_of_not_le hl)
      have hm2 := Nat.lt_of_lt_of_le hm hr
      have hmn := Nat.lt_trans hm2 hk
      clear hlr hl
      refine ⟨h.bnd hk, h.bnd hmn, ?_⟩
      dsimp only
      generalize (l + r) / 2 = m at *
      cases e : lt (p.getD k 0) (p.getD (m) 0) with
      | true =>
        rw [if_pos rfl]
        refine place_ok h hk f l m (Nat.le_of_lt_succ (Nat.lt_of_lt_of_le (Nat.sub_lt_sub_right hm' hm) hf)) hm' (Nat.le_of_lt hm2) a (fun i h1 h2 => ?_) s
        by_cases hi : i = m
        · subst hi; exact e
        · exact H.tr _ _ _ (h.bnd hk) (h.bnd hmn) (h.bnd (Nat.lt_trans h2 hk)) e (s _ _ (Nat.lt_of_le_of_ne h1 (Ne.symm hi)) h2)
      | false =>
        rw [if_neg (by simp)]
        have e1 := H.tot _ _ (h.bnd hk) (h.bnd hmn) (h.inj hk hmn (Nat.ne_of_gt hm2)) e
        refine place_ok h hk f (m + 1) r (half_up hf hm' hm) hm hr (fun i h1 => ?_) b s
        by_cases hi : i = m
        · subst hi; exact e1
        · exact H.tr _ _ _ (h.bnd (Nat.lt_of_lt_of_le h1 hmn)) (h.bnd hmn) (h.bnd hk) (s _ _ (Nat.lt_of_le_of_ne (Nat.le_of_lt_succ h1) hi) hm2) e1
theorem bin_ok : ∀ (f k : Nat) (p : Array Nat), Ok n p → k + f = n → Srt lt p k → KasAll n lt (fun p => Ok n p ∧ Srt lt p n) (kas_bin f p k)
  | 0, k, p, h, hk, s => by
    have : k = n := by omega
    subst this
    exact ⟨h, s⟩
  | f + 1, k, p, h, hk, s => by
    refine all_bind (all_mono (fun l hl => ?_) (place_ok H h (show k < n by omega) k 0 k (by omega) (by omega) (Nat.le_refl _) (fun i hi => by omega) (fun i h1 h2 => by omega) s))
    obtain ⟨h1, h2, h3⟩ := hl
    have hkn : k < n := by omega
    refine bin_ok f (k + 1) _ (h.bub _ _) (by omega) ?_
    intro i j hij hj
    rw [at_bub (by rw [h.size]; omega) (by omega), at_bub (by rw [h.size]; omega) (by omega)]
    have hkl : k - (k - l) = l := Nat.sub_sub_self h1
    rw [hkl]
    clear hkl hk hkn
    by_cases hi : i = l
    · rw [if_pos hi, if_neg (by omega), if_pos (by omega)]
      exact h3 _ (by omega) (by omega)
    · rw [if_neg hi]
      by_cases hj' : j = l
      · rw [if_pos hj', if_neg (by omega)]
        exact h2 _ (by omega)
      · rw [if_neg hj']
        split <;> split
        · exact s _ _ (by omega) (by omega)
        · omega
        · exact s _ _ (by omega) (by omega)
        · exact s _ _ (by omega) (by omega)
theorem sort_ok (hn : 1 ≤ n) : KasAll n lt (fun p => Ok n p ∧ Srt lt p n) (kas_sort n) := by
  refine all_bind (all_mono (fun r hr => ?_) (count_ok H (p := List.toArray (List.range n)) (List.Perm.refl _) hn))
  obtain ⟨m, p⟩ := r
  obtain ⟨h1, h2, h3, h4⟩ := hr
  dsimp only at h1 h2 h3 h4 ⊢
  by_cases h : m < n
  · rw [if_pos h]
    have : max m 1 = m := by omega
    rw [this]
    exact bin_ok H _ _ _ h1 (by omega) h4
  · rw [if_neg h]
    have : m = n := by omega
    subst this
    exact ⟨h1, h4⟩
end
end Mine
end
-- PBytes
section
open PySem PySem.W PyProof.Rows
namespace Mine
theorem slot_bytes_lt : Slot "bytes" (cmpInfo .Lt).2.1 "bytes.__lt__" :=
  .of (owner := "bytes") (n := "__lt__") (by rw [typeLookup_type, builtinLookup_eq_fast]; kernel_rfl) (by decide +kernel) (by decide +kernel) (by decide +kernel)
    (by first | exact .inl (by decide +kernel) | exact .inr (by decide +kernel)) (by rw [isSubtype_type]; kernel_rfl)
theorem entry_bytes_lt : entryFor table "bytes.__lt__" = some Builtin.«bytes.__lt__» := entryFor_of_tree (by kernel_rfl)
theorem args_bytes_lt (a b : Value) : argsOk "bytes.__lt__" ⟨[a, b], []⟩ := by
  unfold argsOk; rw [signature?_of (id := "bytes.__lt__") (n := ['_', '_', 't', 'l', '_', '_']) (o := ['s', 'e', 't', 'y', 'b']) (by kernel_rfl) FB.owner_bytes]; kernel_rfl
noncomputable abbrev nats (b : Array UInt8) : List Nat := b.toList.map (·.toNat)
theorem order_lt : ∀ a b : List UInt8, (Builtin.Bytes.order a b == .lt) = decide (a.map (·.toNat) < b.map (·.toNat))
  | [], [] => by simp [Builtin.Bytes.order]
  | [], _ :: _ => by simp [Builtin.Bytes.order]
  | _ :: _, [] => by simp [Builtin.Bytes.order]
  | x :: a, y :: b => by
    simp only [Builtin.Bytes.order, List.map_cons, List.cons_lt_cons_iff]
    by_cases h1 : x < y
    · have : x.toNat < y.toNat := h1
      simp [h1, this]
    · by_cases h2 : x > y
      · have h3 : y.toNat < x.toNat := h2
        have h4 : ¬ x.toNat < y.toNat := by omega
        have h5 : ¬ x.toNat = y.toNat := by omega
        simp [h1, h2, h4, h5]
      · have : x = y := UInt8.le_antisymm (UInt8.not_lt.mp h2) (UInt8.not_lt.mp h1)
        subst this
        have ih := order_lt a b
        simp only [h1, if_false]
        simp [ih]
theorem bytes_lt_body (b c : Array UInt8) (t u : Tok) {M : Model} {A : Around} {E : Value → Shared → Prop} {s : Shared} {Q : Value → Shared → Prop} (hq : Q (.bool (decide (nats b < nats c))) s) :
    wpAny M A (Builtin.«bytes.__lt__» ⟨[.bytes b t, .bytes c u], []⟩) (fun fin s' => ∃ v, fin = .done (.ret v) ∧ Q v s') E s := by
  show wpAny M A (isInstance (.bytes c u) (.type "bytes") >>= fun r => _) _ E s
  refine wpAny_bind (wpAny_isInstance (typeIs_bytes s c u) F.sub_bytes_bytes ?_)
  exact wpAny_pure ⟨_, rfl, by rw [← order_lt] at hq; exact hq⟩
theorem gives_bytes_lt (b c : Array UInt8) (t u : Tok) : Gives (Builtin.«bytes.__lt__» ⟨[.bytes b t, .bytes c u], []⟩) (.val (.bool (decide (nats b < nats c)))) :=
  .of_wp fun _ _ _ _ _ hq => bytes_lt_body b c t u hq
noncomputable abbrev bKind : KeyKind where
  α := List Nat
  blt a b := decide (a < b)
  irrefl := strKind.irrefl
  trans := strKind.trans
  negTrans := strKind.negTrans
  total := strKind.total
  keyOf v := match v with | .bytes x _ => some (nats x) | _ => none
  dflt := []
section
variable {prog : Program} {w : World} {A : Around} {E : Value → Shared → Prop} {s : Shared}
theorem lt_bytes {b c : Array UInt8} {t u : Tok} {Q : Value → Shared → Prop} (h : Q (.bool (decide (nats b < nats c))) s) : wpAny (model prog w) A (compareOp .Lt (.bytes b t) (.bytes c u)) Q E s :=
  compareOp_gives (op := .Lt) (typeIs_bytes s b t) (typeIs_bytes s c u) slot_bytes_lt entry_bytes_lt (args_bytes_lt _ _) (gives_bytes_lt b c t u) (fun e => nomatch e) h
theorem oneLt_bytes {b c : Array UInt8} {t u : Tok} {Q : Bool → Shared → Prop} (h : Q (decide (nats b < nats c)) s) : wpAny (model prog w) A (oneLt' true (.bytes b t) (.bytes c u)) Q E s := by
  rw [oneLt'_eq]
  simp only [if_true]
  refine wpAny_bind (wpAny_cRoomFor_byValue rfl ?_)
  refine wpAny_bind (wpAny_callSpecialIfBound?_slot (typeIs_bytes s b t) slot_bytes_lt ?_)
  exact wpAny_call_entry slot_bytes_lt (typeIs_bytes s b t) entry_bytes_lt (bytes_lt_body b c t u (wpAny_truthy_bool h)) (args_bytes_lt _ _)
end
theorem bKind_oneLt : bKind.OneLt := by
  intro prog w A E s x y a b Q ha hb h
  cases x <;> simp only [bKind, reduceCtorEq, Option.some.injEq] at ha
  cases y <;> simp only [bKind, reduceCtorEq, Option.some.injEq] at hb
  cases ha; cases hb
  exact oneLt_bytes h
end Mine
end
-- PFl
section
open PySem PySem.W PyProof.Rows
namespace Mine
noncomputable def hv (z : Int) : UInt64 := Float64.ofFrac (decide (z < 0)) z.natAbs 2
theorem hv0 : ∀ n : Fin 12, 2 ≤ n.val → hv (-(n : Nat) - 1) = Float64.sub (hv (1 - (n : Nat))) (Float64.ofInt 1) := by decide +kernel
theorem hvadd : ∀ z : Fin 30, ∀ d : Fin 13, hv ((z : Nat) - 15 + 2 * (d : Nat)) = Float64.add (hv ((z : Nat) - 15)) (Float64.ofInt (d : Nat)) := by decide +kernel
theorem hvrk : ∀ z : Fin 30, ∀ d : Fin 13, hv ((z : Nat) - 15 + (d : Nat) + 1) = Float64.add (hv ((z : Nat) - 15)) (Float64.ofFrac (decide ((d : Nat) + (1 : Int) < 0) != decide ((2 : Int) < 0)) ((d : Nat) + (1 : Int)).natAbs (Int.natAbs 2)) := by decide +kernel
end Mine
end
-- PFx
section
open PySem PySem.W PyProof.Rows
open PySem.Float64
namespace Mine
theorem V_inj {t t' : Nat} (h : V t = V t') : t = t' := by
  rcases Nat.lt_trichotomy t t' with q | q | q
  · have := V_lt q; omega
  · exact q
  · have := V_lt q; omega
theorem dist_up {W X : Nat} (h : W ≤ X) : dist W X = X - W := by unfold dist; rw [Nat.sub_eq_zero_of_le h, Nat.zero_add]
theorem dist_down {W X : Nat} (h : X ≤ W) : dist W X = W - X := by unfold dist; rw [Nat.sub_eq_zero_of_le h, Nat.add_zero]
theorem dist_mid {W X Y Z : Nat} (h : X < Y) (k : Y < Z) (e : dist W X = dist W Z) : dist W Y < dist W X := by
  rcases Nat.le_total W Y with q | q
  · rw [e, dist_up q, dist_up (Nat.le_of_lt (Nat.lt_of_le_of_lt q k))]
    exact Nat.sub_lt_sub_right q k
  · rw [dist_down q, dist_down (Nat.le_of_lt (Nat.lt_of_lt_of_le h q))]
    exact Nat.sub_lt_sub_left (Nat.lt_of_lt_of_le h q) h
theorem dist_zero {W X : Nat} (h : dist W X = 0) : W = X := by
  unfold dist at h
  exact Nat.le_antisymm (Nat.le_of_sub_eq_zero (Nat.eq_zero_of_add_eq_zero_right h)) (Nat.le_of_sub_eq_zero (Nat.eq_zero_of_add_eq_zero_left h))
theorem exact_right {r : UInt64} {neg : Bool} {W D t0 : Nat} (h : Right r neg W D) (hD : 0 < D) (hW : W = D * V t0) (h0 : t0 < infMag) : r = pack neg t0 := by
  obtain ⟨t, rfl, hle, hover, hn⟩ := h
  have hV : V (infMag - 1) = (2 ^ 53 - 1) * 2 ^ 2045 := by
    have e : infMag - 1 = 2045 * 2 ^ 52 + (2 ^ 53 - 1) := by unfold infMag; omega
    rw [e]
    exact V_at (by omega) (by omega)
  have hm : V t0 ≤ V (infMag - 1) := V_mono (by omega)
  have hlt : t < infMag := by
    refine Nat.lt_of_le_of_ne hle fun e => ?_
    have q := hover.mp e
    rw [hW] at q
    rw [hV] at hm
    have hP : 0 < 2 ^ 2045 := Nat.two_pow_pos 2045
    generalize 2 ^ 2045 = P at q hm hP
    have m1 : D * V t0 ≤ D * ((2 ^ 53 - 1) * P) := Nat.mul_le_mul_left _ hm
    have e1 : D * ((2 ^ 53 - 1) * P) = 9007199254740991 * (D * P) := by rw [Nat.mul_left_comm]
    have e2 : D * ((2 ^ 54 - 1) * P) = 18014398509481983 * (D * P) := by rw [Nat.mul_left_comm]
    rw [e1] at m1
    rw [e2] at q
    have := Nat.mul_pos hD hP
    omega
  have q := (hn hlt t0).1
  have z : dist W (D * V t0) = 0 := by rw [← hW, dist_up (Nat.le_refl _), Nat.sub_self]
  have z2 : W = D * V t := dist_zero (Nat.le_zero.mp (z ▸ q))
  rw [hW] at z2
  rw [V_inj (Nat.eq_of_mul_eq_mul_left hD z2)]
theorem odd_next {a : Nat} (h : a % 2 = 0) (k : (a + 1) % 2 = 0) : False := by omega
theorem right_one {r r' : UInt64} {neg : Bool} {W D : Nat} (h : Right r neg W D) (h' : Right r' neg W D) (hD : 0 < D) : r = r' := by
  obtain ⟨t, rfl, hle, hover, hn⟩ := h
  obtain ⟨t', rfl, hle', hover', hn'⟩ := h'
  have key : ∀ a b, a < infMag → b < infMag → (∀ t', dist W (D * V a) ≤ dist W (D * V t') ∧ (V t' ≠ V a → dist W (D * V a) = dist W (D * V t') → a % 2 = 0)) → (∀ t', dist W (D * V b) ≤ dist W (D * V t') ∧ (V t' ≠ V b → dist W (D * V b) = dist W (D * V t') → b % 2 = 0)) → a < b → False := by
    intro a b la lb ha hb hab
    have v1 := V_lt hab
    have e : dist W (D * V a) = dist W (D * V b) := Nat.le_antisymm (ha b).1 (hb a).1
    have p1 := (ha b).2 (Nat.ne_of_gt v1) e
    have p2 := (hb a).2 (Nat.ne_of_lt v1) e.symm
    have w1 : V a < V (a + 1) := V_lt (Nat.lt_succ_self a)
    have w2 : V (a + 1) < V b := V_lt (Nat.lt_of_le_of_ne hab fun e => odd_next p1 (e ▸ p2))
    have m1 : D * V a < D * V (a + 1) := Nat.mul_lt_mul_of_pos_left w1 hD
    have m2 : D * V (a + 1) < D * V b := Nat.mul_lt_mul_of_pos_left w2 hD
    have q := (ha (a + 1)).1
    exact Nat.lt_irrefl _ (Nat.lt_of_lt_of_le (dist_mid m1 m2 e) q)
  by_cases c : t = infMag
  · rw [hover'.mpr (hover.mp c), c]
  · have c' : t' ≠ infMag := fun e => c (hover.mpr (hover'.mp e))
    have l1 : t < infMag := Nat.lt_of_le_of_ne hle c
    have l2 : t' < infMag := Nat.lt_of_le_of_ne hle' c'
    rcases Nat.lt_trichotomy t t' with q | q | q
    · exact (key t t' l1 l2 (hn l1) (hn' l2) q).elim
    · rw [q]
    · exact (key t' t l2 l1 (hn' l2) (hn l1) q).elim
theorem V_rep {n : Nat} (h : n < 2 ^ 53) : ∃ t, t < infMag ∧ V t = n * 2 ^ 1070 := by
  by_cases h0 : n = 0
  · exact ⟨0, by decide, by rw [V_zero, h0, Nat.zero_mul]⟩
  · have l1 : n.log2 < 53 := (Nat.log2_lt h0).mpr h
    have l2 : 2 ^ n.log2 ≤ n := Nat.log2_self_le h0
    have l3 : n < 2 ^ (n.log2 + 1) := Nat.lt_log2_self
    generalize hL : n.log2 = L at *
    have e52 : 2 ^ L * 2 ^ (52 - L) = 2 ^ 52 := by rw [← Nat.pow_add, Nat.add_sub_cancel' (Nat.le_of_lt_succ l1)]
    have e53 : 2 ^ (L + 1) * 2 ^ (52 - L) = 2 ^ 53 := by rw [← Nat.pow_add, Nat.add_right_comm, Nat.add_sub_cancel' (Nat.le_of_lt_succ l1)]
    have hp : 0 < 2 ^ (52 - L) := Nat.two_pow_pos _
    have a1 : 2 ^ 52 ≤ n * 2 ^ (52 - L) := by rw [← e52]; exact Nat.mul_le_mul_right _ l2
    have a2 : n * 2 ^ (52 - L) < 2 ^ 53 := by rw [← e53]; exact Nat.mul_lt_mul_of_pos_right l3 hp
    refine ⟨(1070 - (52 - L)) * 2 ^ 52 + n * 2 ^ (52 - L), ?_, ?_⟩
    · exact Nat.lt_of_lt_of_le (Nat.add_lt_add_of_le_of_lt (Nat.mul_le_mul_right (2 ^ 52) (Nat.sub_le 1070 (52 - L))) a2) (by decide)
    · rw [V_at (Nat.le_of_lt a2) (.inl a1), Nat.mul_assoc, ← Nat.pow_add, Nat.add_sub_cancel' (Nat.le_trans (Nat.sub_le 52 L) (by decide))]
noncomputable def fx (neg : Bool) (n : Nat) : UInt64 := ofFrac neg n 16
theorem fx_of {r : UInt64} {neg : Bool} {n W D : Nat} (h : Right r neg W D) (hD : 0 < D) (hW : W = D * (n * 2 ^ 1070)) (hn : n < 2 ^ 53) : r = fx neg n := by
  obtain ⟨t, ht, hv⟩ := V_rep hn
  rw [exact_right h hD (t0 := t) (by rw [hv]; exact hW) ht]
  have hr : Right (fx neg n) neg (n * 2 ^ 1070) 1 := ofFrac_right (by decide) (by rw [Nat.mul_one, show (2 : Nat) ^ 1074 = 2 ^ 1070 * 16 from by rw [show 1074 = 1070 + 4 from rfl, Nat.pow_add], Nat.mul_assoc]) (by decide)
  rw [exact_right hr (by decide) (t0 := t) (by rw [hv, Nat.one_mul]) ht]
noncomputable def F (x : UInt64) (a : Bool) (u : Int) : Prop := (∃ m e, decode x = .fin a m e) ∧ val x = u * ((2 ^ 1070 : Nat) : Int)
theorem F_fx {neg : Bool} {n : Nat} (hn : n < 2 ^ 53) : F (fx neg n) neg (sgn neg n) := by
  obtain ⟨t, ht, hv⟩ := V_rep hn
  have hr : Right (fx neg n) neg (n * 2 ^ 1070) 1 := ofFrac_right (by decide) (by rw [Nat.mul_one, show (2 : Nat) ^ 1074 = 2 ^ 1070 * 16 from by rw [show 1074 = 1070 + 4 from rfl, Nat.pow_add], Nat.mul_assoc]) (by decide)
  rw [exact_right hr (by decide) (t0 := t) (by rw [hv, Nat.one_mul]) ht]
  obtain ⟨m, e, hd, _⟩ := decode_pack neg ht
  refine ⟨⟨m, e, hd⟩, ?_⟩
  rw [val_pack neg ht, hv, sgn_mul]
noncomputable def cx (u : Int) : UInt64 := fx (decide (u < 0)) u.natAbs
theorem sgn_self (u : Int) : sgn (decide (u < 0)) u.natAbs = u := by
  unfold sgn
  by_cases h : u < 0
  · rw [decide_eq_true h, if_pos rfl]; omega
  · rw [decide_eq_false h, if_neg (by decide)]; omega
theorem F_cx {u : Int} (h : u.natAbs < 2 ^ 53) : F (cx u) (decide (u < 0)) u := by
  have := F_fx (neg := decide (u < 0)) h
  rwa [sgn_self] at this
theorem cx0 : cx 0 = zero false := by decide +kernel
theorem F_zero (b : Bool) : F (zero b) b 0 := by
  refine ⟨?_, ?_⟩
  · cases b
    · exact ⟨0, -1074, by kernel_rfl⟩
    · exact ⟨0, -1074, by kernel_rfl⟩
  · cases b <;> decide +kernel
theorem F_neg {x : UInt64} {a : Bool} {u : Int} (h : F x a u) : F (neg x) (!a) (-u) := by
  obtain ⟨⟨m, e, hd⟩, hv⟩ := h
  exact ⟨⟨m, e, neg_decode hd⟩, by rw [neg_val hd, hv, Int.neg_mul]⟩
theorem add_F {x y : UInt64} {a b : Bool} {u v : Int} (hx : F x a u) (hy : F y b v) (hs : (u + v).natAbs < 2 ^ 53) : (u + v = 0 → add x y = zero (a && b)) ∧ (u + v ≠ 0 → add x y = cx (u + v)) := by
  obtain ⟨⟨m, e, hd⟩, hv⟩ := hx
  obtain ⟨⟨k, f, hd'⟩, hv'⟩ := hy
  obtain ⟨q0, q1⟩ := add_right hd hd'
  rw [hv, hv', ← Int.add_mul] at q0 q1
  have hP : (0 : Int) < ((2 ^ 1070 : Nat) : Int) := Int.ofNat_lt.mpr (Nat.two_pow_pos _)
  generalize hPP : ((2 ^ 1070 : Nat) : Int) = P at *
  constructor
  · intro h
    exact q0 (by rw [h, Int.zero_mul])
  · intro h
    have q := q1 (by intro e; rcases Int.mul_eq_zero.mp e with e | e <;> omega)
    have hneg : decide ((u + v) * P < 0) = decide (u + v < 0) := by
      apply decide_eq_decide.mpr
      constructor
      · intro h2
        by_cases h3 : u + v < 0
        · exact h3
        · have := Int.mul_nonneg (show 0 ≤ u + v by omega) (Int.le_of_lt hP); omega
      · intro h2
        exact Int.mul_neg_of_neg_of_pos h2 hP
    rw [hneg] at q
    refine fx_of q (by decide) ?_ hs
    rw [← hPP, Int.natAbs_mul, Int.natAbs_natCast, Nat.one_mul]
theorem add_cx {x y : UInt64} {a b : Bool} {u v : Int} (hx : F x a u) (hy : F y b v) (hs : (u + v).natAbs < 2 ^ 53) (h0 : u + v = 0 → (a && b) = false) : add x y = cx (u + v) := by
  have q := add_F hx hy hs
  by_cases h : u + v = 0
  · rw [q.1 h, h0 h, h, cx0]
  · exact q.2 h
theorem mul_F {x y : UInt64} {a b : Bool} {u v : Int} {n : Nat} (hx : F x a u) (hy : F y b v) (hn : n < 2 ^ 53) (hw : u.natAbs * v.natAbs = 16 * n) : mul x y = fx (a != b) n := by
  obtain ⟨⟨m, e, hd⟩, hv⟩ := hx
  obtain ⟨⟨k, f, hd'⟩, hv'⟩ := hy
  refine fx_of (mul_right hd hd') (Nat.two_pow_pos _) ?_ hn
  rw [hv, hv', Int.natAbs_mul, Int.natAbs_mul, Int.natAbs_natCast, show (2 : Nat) ^ 1074 = 2 ^ 1070 * 16 from by rw [show 1074 = 1070 + 4 from rfl, Nat.pow_add]]
  generalize (2 : Nat) ^ 1070 = P
  calc u.natAbs * P * (v.natAbs * P) = u.natAbs * v.natAbs * (P * P) := by ac_rfl
    _ = 16 * n * (P * P) := by rw [hw]
    _ = P * 16 * (n * P) := by ac_rfl
theorem exps {x y a c : Int} (h : c ≤ a) (_ : -2148 ≤ a) (hc : -2148 ≤ c) (hx : 0 ≤ x) (hy : 0 ≤ y) (e : x + y = a + 2148) : x.toNat + y.toNat = (a - c).toNat + (c + 2148).toNat := by
  rw [← Int.toNat_add hx hy, ← Int.toNat_add (Int.sub_nonneg_of_le h) (by omega), e]
  congr 1
  omega
theorem low1 {e : Int} (h : -1074 ≤ e) : -2148 ≤ e := Int.le_trans (by decide) h
theorem low2 {e f : Int} (h : -1074 ≤ e) (k : -1074 ≤ f) : -2148 ≤ e + f := Int.add_le_add h k
theorem low3 {e : Int} (h : -1074 ≤ e) : 0 ≤ e + 1074 := by omega
theorem fma_F {x y z : UInt64} {a b : Bool} {u v w : Int} (hx : F x a u) (hy : F y b v) (hz : F z (!(a != b)) w) (hw : u * v + 16 * w = 0) : fma x y z = zero false := by
  obtain ⟨⟨m, e, hd⟩, hv⟩ := hx
  obtain ⟨⟨k, f, hd'⟩, hv'⟩ := hy
  obtain ⟨⟨n, g, hd''⟩, hv''⟩ := hz
  have he := decode_ge hd
  have hf := decode_ge hd'
  have hg := decode_ge hd''
  have key : sgn (a != b) (m * k * 2 ^ (e + f - min (e + f) g).toNat) + sgn (!(a != b)) (n * 2 ^ (g - min (e + f) g).toNat) = 0 := by
    have hval : val x * val y + val z * ((2 ^ 1074 : Nat) : Int) = 0 := by
      rw [hv, hv', hv'', show ((2 ^ 1074 : Nat) : Int) = ((2 ^ 1070 : Nat) : Int) * 16 from by rw [show 1074 = 1070 + 4 from rfl, Nat.pow_add, Int.natCast_mul]; rfl]
      generalize ((2 ^ 1070 : Nat) : Int) = P
      have : u * P * (v * P) + w * P * (P * 16) = (u * v + 16 * w) * (P * P) := by
        rw [Int.add_mul]
        congr 1
        · ac_rfl
        · ac_rfl
      rw [this, hw, Int.zero_mul]
    have hxy : val x * val y = sgn (a != b) (m * k * 2 ^ ((e + 1074).toNat + (f + 1074).toNat)) := by
      rw [val_eq hd, val_eq hd']
      have : ∀ (a b : Bool) (p q : Nat), sgn a p * sgn b q = sgn (a != b) (p * q) := by
        intro a b p q
        cases a <;> cases b <;> simp [sgn, Int.neg_mul, Int.mul_neg]
      rw [this, Nat.pow_add]
      congr 1
      ac_rfl
    have hz2 : val z * ((2 ^ 1074 : Nat) : Int) = sgn (!(a != b)) (n * 2 ^ ((g + 1074).toNat + 1074)) := by
      rw [val_eq hd'', ← sgn_mul, Nat.mul_assoc, ← Nat.pow_add]
    rw [hxy, hz2] at hval
    have hp1 : (e + 1074).toNat + (f + 1074).toNat = (e + f - min (e + f) g).toNat + (min (e + f) g + 2148).toNat := exps (Int.min_le_left _ _) (low2 he hf) (Int.le_min.mpr ⟨low2 he hf, low1 hg⟩) (low3 he) (low3 hf) (by omega)
    have hp2 : (g + 1074).toNat + 1074 = (g - min (e + f) g).toNat + (min (e + f) g + 2148).toNat := exps (y := 1074) (Int.min_le_right _ _) (low1 hg) (Int.le_min.mpr ⟨low2 he hf, low1 hg⟩) (low3 hg) (by decide) (by rw [Int.add_assoc]; rfl)
    rw [hp1, hp2, Nat.pow_add, Nat.pow_add, ← Nat.mul_assoc, ← Nat.mul_assoc, sgn_mul (a != b) (m * k * 2 ^ (e + f - min (e + f) g).toNat), sgn_mul (!(a != b)) (n * 2 ^ (g - min (e + f) g).toNat), ← Int.add_mul] at hval
    rcases Int.mul_eq_zero.mp hval with h | h
    · exact h
    · exact absurd (Int.ofNat.inj h) (Nat.ne_of_gt (Nat.two_pow_pos _))
  have hfma : fma x y z = (if sgn (a != b) (m * k * 2 ^ (e + f - min (e + f) g).toNat) + sgn (!(a != b)) (n * 2 ^ (g - min (e + f) g).toNat) == 0 then zero (if m * k == 0 && n == 0 then (a != b) && !(a != b) else false) else ofBin (decide (sgn (a != b) (m * k * 2 ^ (e + f - min (e + f) g).toNat) + sgn (!(a != b)) (n * 2 ^ (g - min (e + f) g).toNat) < 0)) (sgn (a != b) (m * k * 2 ^ (e + f - min (e + f) g).toNat) + sgn (!(a != b)) (n * 2 ^ (g - min (e + f) g).toNat)).natAbs (min (e + f) g)) := by
    unfold fma
    rw [hd, hd', hd'']
    rfl
  rw [hfma, key]
  simp
theorem F_pos {y : UInt64} {b : Bool} {v : Int} (h : F y b v) (hv : 0 < v) : b = false := by
  obtain ⟨⟨m, e, hd⟩, hq⟩ := h
  cases b
  · rfl
  · exfalso
    rw [val_eq hd] at hq
    have hP : (0 : Int) < ((2 ^ 1070 : Nat) : Int) := Int.ofNat_lt.mpr (Nat.two_pow_pos _)
    have := Int.mul_pos hv hP
    rw [← hq] at this
    unfold sgn at this
    simp only [if_true] at this
    omega
theorem dlSum_F {x y : UInt64} {b : Bool} {u v : Int} (hx : F x (decide (u < 0)) u) (hy : F y b v) (hu : u.natAbs < 2 ^ 51) (hv : v.natAbs < 2 ^ 51) : Builtin.Math.dlSum x y = (cx (u + v), zero false) := by
  have b1 : u.natAbs < 2 ^ 53 := Nat.lt_trans hu (by decide)
  have b2 : v.natAbs < 2 ^ 53 := Nat.lt_trans hv (by decide)
  have b3 : (u + v).natAbs < 2 ^ 53 := Nat.lt_of_le_of_lt (Int.natAbs_add_le u v) (Nat.lt_trans (Nat.add_lt_add hu hv) (by decide))
  have c1 : u + v + -u = v := by rw [Int.add_right_comm, Int.add_right_neg, Int.zero_add]
  have c2 : u + v + -v = u := by rw [Int.add_assoc, Int.add_right_neg, Int.add_zero]
  have e1 : add x y = cx (u + v) := add_cx hx hy b3 fun h => by
    by_cases c : u < 0
    · rw [F_pos hy (by omega)]; simp
    · simp [c]
  have fz : F (cx (u + v)) (decide (u + v < 0)) (u + v) := F_cx b3
  have e2 : sub (cx (u + v)) x = cx v := by
    have := add_cx fz (F_neg hx) (by rw [c1]; exact b2) fun h => by
      have : v = 0 := by omega
      subst this
      simp
    rw [c1] at this
    unfold Float64.sub; exact this
  have fv : F (cx v) (decide (v < 0)) v := F_cx b2
  have e3 : sub (cx (u + v)) (cx v) = cx u := by
    have := add_cx fz (F_neg fv) (by rw [c2]; exact b1) fun h => by
      have : u = 0 := by omega
      subst this
      simp
    rw [c2] at this
    unfold Float64.sub; exact this
  have fu : F (cx u) (decide (u < 0)) u := F_cx b1
  have e4 : sub x (cx u) = zero false := by
    have := (add_F hx (F_neg fu) (by rw [Int.add_right_neg]; decide)).1 (Int.add_right_neg u)
    rw [Bool.and_not_self] at this
    unfold Float64.sub; exact this
  obtain ⟨c, e5⟩ : ∃ c, sub y (cx v) = zero c := ⟨_, by unfold Float64.sub; exact (add_F hy (F_neg fv) (by rw [Int.add_right_neg]; decide)).1 (Int.add_right_neg v)⟩
  have e6 : add (zero false) (zero c) = zero false := by cases c <;> decide +kernel
  unfold Builtin.Math.dlSum
  simp only [e1, e2, e3, e4, e5, e6]
theorem dlSum_0 : Builtin.Math.dlSum (zero false) (zero false) = (zero false, zero false) := by decide +kernel
theorem add_0 : add (zero false) (zero false) = zero false := by decide +kernel
theorem tlFma_F {x y : UInt64} {a b : Bool} {u v S w : Int} (hx : F x a u) (hy : F y b v) (hw : u * v = 16 * w) (hS : S.natAbs < 2 ^ 51) (hw2 : w.natAbs < 2 ^ 51) :
   Builtin.Math.tlFma x y (cx S, zero false, zero false) = (cx (S + w), zero false, zero false) := by
  have hn : u.natAbs * v.natAbs = 16 * w.natAbs := by rw [← Int.natAbs_mul, hw, Int.natAbs_mul]; rfl
  have e1 : mul x y = fx (a != b) w.natAbs := mul_F hx hy (by omega) hn
  have fp : F (fx (a != b) w.natAbs) (a != b) (sgn (a != b) w.natAbs) := F_fx (by omega)
  have hsg : sgn (a != b) w.natAbs = w := by
    have key : ∀ (p : Bool) (z : Int), (0 < z → p = false) → (z < 0 → p = true) → sgn p z.natAbs = z := by
      intro p z h1 h2
      rcases Int.lt_trichotomy z 0 with h | h | h
      · rw [h2 h]; unfold sgn; simp only [if_true]; omega
      · subst h; cases p <;> rfl
      · rw [h1 h]; unfold sgn; simp only [Bool.false_eq_true, if_false]; omega
    have sx : ∀ {x : UInt64} {a : Bool} {u : Int}, F x a u → (0 < u → a = false) ∧ (u < 0 → a = true) := fun h => ⟨F_pos h, fun q => by have := F_pos (F_neg h) (by omega); simpa using this⟩
    obtain ⟨p1, p2⟩ := sx hx
    obtain ⟨q1, q2⟩ := sx hy
    have wz : u = 0 ∨ v = 0 → w = 0 := by rintro (h | h) <;> subst h <;> simp at hw <;> omega
    refine key _ _ (fun h => ?_) (fun h => ?_)
    · rcases Int.lt_trichotomy u 0 with c | c | c
      · rcases Int.lt_trichotomy v 0 with d | d | d
        · rw [p2 c, q2 d]; rfl
        · have := wz (.inr d); omega
        · have := Int.mul_neg_of_neg_of_pos c d; omega
      · have := wz (.inl c); omega
      · rcases Int.lt_trichotomy v 0 with d | d | d
        · have := Int.mul_neg_of_pos_of_neg c d; omega
        · have := wz (.inr d); omega
        · rw [p1 c, q1 d]; rfl
    · rcases Int.lt_trichotomy u 0 with c | c | c
      · rcases Int.lt_trichotomy v 0 with d | d | d
        · have := Int.mul_pos_of_neg_of_neg c d; omega
        · have := wz (.inr d); omega
        · rw [p2 c, q1 d]; rfl
      · have := wz (.inl c); omega
      · rcases Int.lt_trichotomy v 0 with d | d | d
        · rw [p1 c, q2 d]; rfl
        · have := wz (.inr d); omega
        · have := Int.mul_pos c d; omega
  rw [hsg] at fp
  have e2 : Builtin.Math.dlMul x y = (fx (a != b) w.natAbs, zero false) := by
    unfold Builtin.Math.dlMul
    simp only [e1]
    rw [fma_F hx hy (F_neg fp) (by omega)]
  have e3 := dlSum_F (F_cx (u := S) (by omega)) fp hS hw2
  unfold Builtin.Math.tlFma
  simp only [e2, e3, dlSum_0, add_0]
theorem tlTo_F {S : Int} (hS : S.natAbs < 2 ^ 51) : Builtin.Math.tlToFloat (cx S, zero false, zero false) = cx S := by
  have h := dlSum_F (x := zero false) (u := 0) (F_zero false) (F_cx (u := S) (by omega)) (by decide) hS
  rw [Int.zero_add] at h
  have h2 : add (zero false) (cx S) = cx S := by
    have := add_cx (F_zero false) (F_cx (u := S) (by omega)) (by omega) (fun _ => rfl)
    rwa [Int.zero_add] at this
  unfold Builtin.Math.tlToFloat
  simp only [h, add_0, h2]
theorem zero_add_cx {S : Int} (hS : S.natAbs < 2 ^ 51) : add (zero false) (cx S) = cx S := by
  have := add_cx (F_zero false) (F_cx (u := S) (by omega)) (by omega) (fun _ => rfl)
  rwa [Int.zero_add] at this
theorem cx_fin {S : Int} (hS : S.natAbs < 2 ^ 53) : isFinite (cx S) = true := by
  obtain ⟨⟨m, e, hd⟩, _⟩ := F_cx hS
  unfold isFinite; rw [hd]
theorem two_lt {a b : Nat} (h : a < b) : a + b < 2 * b := by rw [Nat.two_mul]; exact Nat.add_lt_add_right h b
theorem two_lt' {a b : Nat} (h : a < b) : 2 * a < b + a := by rw [Nat.two_mul]; exact Nat.add_lt_add_right h a
theorem four_neg {A : Int} : 4 * A < 0 ↔ A < 0 := by omega
theorem sqrt_F {x : UInt64} {r : Nat} (hx : F x false ((r : Int) * r)) (h0 : 0 < r) (hr : 4 * r < 2 ^ 53) : sqrt x = cx (4 * r) := by
  obtain ⟨⟨m, e, hd⟩, hv⟩ := hx
  obtain ⟨t0, ht0, hV⟩ := V_rep (n := 4 * r) hr
  have hP : 0 < 2 ^ 1070 := Nat.two_pow_pos _
  have hva : (val x).natAbs = r * r * 2 ^ 1070 := by rw [hv, Int.natAbs_mul, Int.natAbs_mul, Int.natAbs_natCast, Int.natAbs_natCast]
  have hm : m ≠ 0 := by
    intro c
    rw [val_natAbs hd, c, Nat.zero_mul] at hva
    have := Nat.mul_pos (Nat.mul_pos h0 h0) hP
    omega
  obtain ⟨t, ht, hlt, h1, h2⟩ := sqrt_right hd hm
  have hsq : 4 * ((val x).natAbs * 2 ^ 1074) = (2 * V t0) * (2 * V t0) := by
    rw [hva, hV, show (2 : Nat) ^ 1074 = 2 ^ 1070 * 16 from by rw [show 1074 = 1070 + 4 from rfl, Nat.pow_add]]
    generalize (2 : Nat) ^ 1070 = P
    calc 4 * (r * r * P * (P * 16)) = 64 * (r * r * (P * P)) := by rw [show r * r * P * (P * 16) = 16 * (r * r * (P * P)) by ac_rfl]; omega
      _ = 2 * (4 * r * P) * (2 * (4 * r * P)) := by rw [show 2 * (4 * r * P) * (2 * (4 * r * P)) = (2 * 4 * (2 * 4)) * (r * r * (P * P)) by ac_rfl]
  have e : t = t0 := by
    rcases Nat.lt_trichotomy t t0 with c | c | c
    · exfalso
      have q := h1 t0 c
      have v := V_lt c
      rw [hsq] at q
      exact Nat.lt_irrefl _ (Nat.lt_of_lt_of_le (Nat.mul_lt_mul_of_lt_of_le (two_lt v) (Nat.le_of_lt (two_lt v)) (Nat.lt_of_le_of_lt (Nat.zero_le _) (two_lt v))) q)
    · exact c
    · exfalso
      have q := h2 t0 c
      have v := V_lt c
      rw [hsq] at q
      exact Nat.lt_irrefl _ (Nat.lt_of_lt_of_le (Nat.mul_lt_mul_of_lt_of_le (two_lt' v) (Nat.le_of_lt (two_lt' v)) (Nat.lt_of_le_of_lt (Nat.zero_le _) (two_lt' v))) q)
  have hr' : Right (fx false (4 * r)) false (4 * r * 2 ^ 1070) 1 := ofFrac_right (by decide) (by rw [Nat.mul_one, show (2 : Nat) ^ 1074 = 2 ^ 1070 * 16 from by rw [show 1074 = 1070 + 4 from rfl, Nat.pow_add]]; ac_rfl) (by decide)
  have hc : cx (4 * (r : Int)) = fx false (4 * r) := by
    unfold cx
    rw [decide_eq_false (show ¬ (4 * (r : Int) < 0) from Int.not_lt.mpr (Int.natCast_nonneg (4 * r))), show (4 * (r : Int)).natAbs = 4 * r from rfl]
  rw [hc, exact_right hr' (by decide) (t0 := t0) (by rw [hV, Nat.one_mul]) ht0, ht, e]
theorem div_F {A B : Int} (hB : 0 < B) (hA : (4 * A).natAbs < 2 ^ 53) (hB2 : (4 * B).natAbs < 2 ^ 53) : div (cx (4 * A)) (cx (4 * B)) = ofFrac (decide (A < 0) != decide (B < 0)) A.natAbs B.natAbs := by
  obtain ⟨⟨m, e, hd⟩, hv⟩ := F_cx hA
  obtain ⟨⟨k, f, hd'⟩, hv'⟩ := F_cx hB2
  have hP : 0 < 2 ^ 1070 := Nat.two_pow_pos _
  have n1 : (val (cx (4 * A))).natAbs = 4 * A.natAbs * 2 ^ 1070 := by rw [hv, Int.natAbs_mul, Int.natAbs_natCast, Int.natAbs_mul]; rfl
  have n2 : (val (cx (4 * B))).natAbs = 4 * B.natAbs * 2 ^ 1070 := by rw [hv', Int.natAbs_mul, Int.natAbs_natCast, Int.natAbs_mul]; rfl
  have hk : k ≠ 0 := by
    intro c
    rw [val_natAbs hd', c, Nat.zero_mul] at n2
    have := Nat.mul_pos (Nat.mul_pos (show 0 < 4 by decide) (Int.natAbs_pos.mpr (Int.ne_of_gt hB))) hP
    omega
  have q := div_right hd hd' hk
  have hb : 0 < B.natAbs := Int.natAbs_pos.mpr (Int.ne_of_gt hB)
  rw [n1, n2] at q
  rw [show decide (4 * A < 0) = decide (A < 0) from decide_eq_decide.mpr four_neg, show decide (4 * B < 0) = decide (B < 0) from decide_eq_decide.mpr four_neg] at q
  refine right_one q (ofFrac_right hb ?_ (Nat.mul_pos (Nat.mul_pos (show 0 < 4 by decide) hb) hP)) (Nat.mul_pos (Nat.mul_pos (show 0 < 4 by decide) hb) hP)
  generalize (2 : Nat) ^ 1070 = P
  generalize (2 : Nat) ^ 1074 = Q
  ac_rfl
theorem hv_cx {z : Int} (h : (8 * z).natAbs < 2 ^ 53) : hv z = cx (8 * z) := by
  unfold hv cx
  rw [show decide (8 * z < 0) = decide (z < 0) from decide_eq_decide.mpr (by omega)]
  refine fx_of (W := z.natAbs * 2 ^ 1073) (D := 1) (ofFrac_right (by decide) ?_ (by decide)) (by decide) ?_ h
  · rw [show (2 : Nat) ^ 1074 = 2 ^ 1073 * 2 from by rw [show 1074 = 1073 + 1 from rfl, Nat.pow_add], Nat.mul_one, Nat.mul_assoc]
  · rw [show (2 : Nat) ^ 1073 = 2 ^ 1070 * 8 from by rw [show 1073 = 1070 + 3 from rfl, Nat.pow_add], show (8 * z).natAbs = 8 * z.natAbs by omega, Nat.one_mul]
    generalize (2 : Nat) ^ 1070 = P
    ac_rfl
end Mine
end
-- PSm
section
open PySem PySem.W PyProof.Rows
namespace Mine
noncomputable def psum (f : Nat → Int) : Nat → Int
  | 0 => 0
  | n + 1 => psum f n + f n
theorem psum_bound {f : Nat → Int} {B : Nat} {n : Nat} (h : ∀ i, i < n → (f i).natAbs ≤ B) : (psum f n).natAbs ≤ n * B := by
  induction n with
  | zero => simp [psum]
  | succ n ih =>
    rw [Nat.succ_mul]
    exact Nat.le_trans (Int.natAbs_add_le (psum f n) (f n)) (Nat.add_le_add (ih fun i hi => h i (Nat.lt_succ_of_lt hi)) (h n (Nat.lt_succ_self n)))
theorem psum_congr {f g : Nat → Int} {n : Nat} (h : ∀ i, i < n → f i = g i) : psum f n = psum g n := by
  induction n with
  | zero => rfl
  | succ n ih => show psum f n + f n = psum g n + g n; rw [ih fun i hi => h i (Nat.lt_succ_of_lt hi), h n (Nat.lt_succ_self n)]
theorem psum_nonneg {f : Nat → Int} {n : Nat} (h : ∀ i, i < n → 0 ≤ f i) : 0 ≤ psum f n := by
  induction n with
  | zero => exact Int.le_refl _
  | succ n ih => exact Int.add_nonneg (ih fun i hi => h i (Nat.lt_succ_of_lt hi)) (h n (Nat.lt_succ_self n))
theorem mul_bound {a b : Int} {A B : Nat} (ha : a.natAbs ≤ A) (hb : b.natAbs ≤ B) : (a * b).natAbs ≤ A * B := by
  rw [Int.natAbs_mul]; exact Nat.mul_le_mul ha hb
end Mine
end
section
open PySem PySem.W PyProof.Rows PySem.Spec PySem.Calls Mine
set_option hygiene false
local macro_rules | `(tactic| walk_at "lt") => `(tactic| ((try dsimp only); first | assumption | exact A1 (by assumption) | exact A2 (by assumption) | exact A3 (by assumption) | exact A4 (by assumption) | exact A5 (by assumption) | exact A6 (by assumption) | exact A7 (by assumption) | exact A8 (by assumption) | (refine Nat.lt_trans ?_ (by assumption); walk_at "lt")))
local macro_rules | `(tactic| walk_at "le") => `(tactic| first | exact Nat.le_refl _ | assumption | exact Nat.le_of_lt (by walk_at "lt"))
local macro_rules | `(tactic| walk_at "allLt") => `(tactic| first | exact ⟨by assumption, by walk_at "le"⟩ | exact Q1 (by assumption) (by walk_at "le") | exact Q2 (by assumption) (by walk_at "le") | exact Q3 (by assumption) (by walk_at "le") | exact Q4 (by assumption) (by walk_at "le") | exact Q5 (by assumption) (by walk_at "le") | exact Q6 (by assumption) (by walk_at "le") | exact Q7 (by assumption) (by walk_at "le") | exact Q8 (by assumption) (by walk_at "le"))
local macro_rules | `(tactic| k_ne) => `(tactic| (refine neN ?_; (try dsimp only); first | assumption | exact Ne.symm (by assumption) | exact Nat.ne_of_lt (by walk_at "lt") | exact Nat.ne_of_gt (by walk_at "lt")))
local macro_rules | `(tactic| k_lt $h:ident) => `(tactic| (replace $h := allLt_of $h; dsimp only [AllLt] at $h:ident))
local macro_rules | `(tactic| k_room) => `(tactic| first | exact rm1 (by assumption) rfl | exact rmc rfl | exact rm0 (by assumption) rfl | exact rm2 (by assumption) rfl | exact rmd1 (by assumption) rfl | exact rmd0 (by assumption) rfl | exact rmd2 (by assumption) rfl | exact rmu1 (by assumption) rfl | exact rmu0 (by assumption) rfl | exact rmu2 (by assumption) rfl)
local macro_rules | `(tactic| k_units) => `(tactic| k_room)
local macro_rules | `(tactic| units_room) => `(tactic| k_room)
local macro_rules | `(tactic| walk_at "all") => `(tactic| first | assumption | exact List.forall_mem_nil _ | exact ne_of_ltall (by assumption) (by walk_at "le") | exact lt_of_ltall (by assumption) (by walk_at "le") | exact ne_of_allLt' (by walk_at "allLt") | exact lt_of_allLt' (by walk_at "allLt") | exact fa_cons (by first | ((with_reducible show _ ≠ _); k_ne) | exact ltN (by walk_at "lt")) (by walk_at "all"))
local macro_rules | `(tactic| k_all) => `(tactic| walk_at "all")

set_option hygiene true in
local macro_rules | `(tactic| walk_at "execs cons") => `(tactic| ((refine tok_any ?_); intro tk9; (with_reducible refine wpAny_execs_cons ?_); try dsimp only))
local macro_rules | `(tactic| walk_at "execs nil") => `(tactic| (refine wpAny_execs_nil ?_))
local macro_rules | `(tactic| walk_at "mem") => `(tactic| first | assumption | exact List.mem_cons_self | (refine List.mem_cons_of_mem _ ?_; walk_at "mem"))
local macro_rules | `(tactic| k_mem) => `(tactic| walk_at "mem")
local macro_rules | `(tactic| walk_at "args") => `(tactic| ((any_goals with_reducible exact ‹Fr _ _ _ _›); (all_goals try first | (fail_if_success (intros; fail_if_success (with_reducible show wpAny _ _ _ _ _ _))) | (fail_if_success show (_ : Prop)) | with_reducible assumption | k_mem | k_updF | k_room | k_ne | k_all | exact ⟨by assumption, by assumption, by assumption, by assumption, by assumption, by assumption⟩ | assumption | k_asm | (show @LT.lt Nat _ _ _; omega)); k_whole))
local macro_rules | `(tactic| walk_at "argi") => `(tactic| first | ((all_goals first | (with_reducible show wpAny _ _ _ _ _ _) | (fail_if_success show (_ : Prop)) | with_reducible assumption | k_is | k_slotget | k_inst | k_handed | k_mem | k_asm | exact Nat.lt_of_eq_of_lt ‹_› ‹_› | omega); k_whole) | fail)
local macro_rules | `(tactic| walk_at "post") => `(tactic| ((try dsimp only at N9); (try dsimp only at ht9); (try k_lt l9)))
local macro_rules | `(tactic| walk_at "getMethod ref") => dfltM `kmu_slot 12
local macro_rules | `(tactic| k_handed) => `(tactic| exact Mine.Key.handed _ _)
set_option hygiene true in
local macro_rules | `(tactic| walk_at "forall") => `(tactic| ((with_reducible show @LE.le Nat _ _ _ → _); intro htk8; dsimp only at htk8))
-- WSame
section
namespace Mine
theorem rstWSame : True := by (w_top off); trivial
section
variable {w : World} {mean : ExcName → Option Value} {mg mb : Str → Option Value}
   {dp un : Nat} {gd : Option (List Code)} {cn : Str} {nm : List (Str × NameKind)} {ig ic : Bool} {mo : List (Str × Const)} {a : Addr} {ccd : Value} {outer : List Env} {A₀ : Around} {base h₀ : Heap} {L : Addr} {m : Str → Option Value} {s : Shared} {Q E : Value → Shared → Prop} {news : List (Addr × Obj)}
theorem telling_of (X : (Mine.hd.heap_1 w.params).In h₀) (T : Top PV LO mean mg mb h₀) (F : Fr h₀ L s.heap m) : Telling s.heap := by
  obtain ⟨mc, h1, _⟩ := T.nodigits
  exact ⟨mc, h1.keeps F.keep, ns_none_of X h1 (by kernel_rfl)⟩
local macro_rules | `(tactic| walk_at "compareOp Is int int") => `(tactic| (k_here; refine is_ints (by assumption) (by assumption) (by assumption) (telling_of (by k_asm) (by k_asm) (by k_asm)) ?_; intro c9 hc9))
local macro_rules | `(tactic| walk_at "compareOp Is bytes bytes") => `(tactic| (k_here; refine is_bytes (by assumption) (by assumption) (by assumption) (telling_of (by k_asm) (by k_asm) (by k_asm)) ?_; intro c9 hc9))
theorem same_call (p q : Key × Tok) (B : Below A₀ base outer h₀) (F : Fr h₀ L s.heap m) (X : (Mine.hd.heap_1 w.params).In h₀) (N : News h₀ L s.heap news) (T : Top PV LO mean mg mb h₀)
   (hd : dp + 1 < recursionLimit) (hu : un + 8 < cLine) (hp : KeyPair p q)
   (hQ : ∀ h' tk', Fr h₀ L h' m → News h₀ L h' news → s.toks ≤ tk' → Q (.bool (decide (p.1 = q.1))) { s with heap := h', toks := tk' }) :
   wpAny (model Challenge.rw_ij0174_01.row.prog w) (AT dp un gd cn nm ig ic mo L a ccd outer) (call (.ref 83) [p.1.val p.2, q.1.val q.2]) Q E s := by
  obtain ⟨k, t⟩ := p
  obtain ⟨k', t'⟩ := q
  dsimp only at hQ hp ⊢
  obtain ⟨ht, ht', htt, ⟨x, y, rfl, rfl⟩ | ⟨x, y, rfl, rfl⟩⟩ := hp
  · have htt' : t = t' → x = y := fun e => by simpa using htt e
    simp only [Key.i.injEq] at hQ
    have hT : x = y → ∀ h' tk', Fr h₀ L h' m → News h₀ L h' news → s.toks ≤ tk' → Q (.bool true) { s with heap := h', toks := tk' } := fun e h' tk' f n t => by have z := hQ h' tk' f n t; rwa [decide_eq_true e] at z
    have hF : ¬ x = y → ∀ h' tk', Fr h₀ L h' m → News h₀ L h' news → s.toks ≤ tk' → Q (.bool false) { s with heap := h', toks := tk' } := fun e h' tk' f n t => by have z := hQ h' tk' f n t; rwa [decide_eq_false e] at z
    clear hQ
    dsimp only [Key.val]
    revert X
    k_fill
    intro X
    refine wpAny_toks (wpAny_call ?_)
    k_dflt k_enter
    refine let_ar ?_; intro ar9
    k_steps
    all_goals first
      | exact hT (by first | assumption | exact bytes_eq_of (by assumption) | solve_by_elim) _ _ (by assumption) (by assumption) (by first | assumption | (first | assumption | exact omE ‹_› ‹_› | exact omN ‹_› ‹_› | exact om6 ‹_› | exact om7 ‹_› | exact om9 ‹_› ‹_› | exact om11 ‹_› rfl | exact om24 ‹_› ‹_› | exact rm2 ‹_› rfl | exact rm1 ‹_› rfl | exact Nat.le_trans ‹_› ‹_› | exact Nat.lt_of_lt_of_le ‹_› ‹_› | exact Nat.lt_of_le_of_lt ‹_› ‹_› | omega) | (dsimp only; (first | assumption | exact omE ‹_› ‹_› | exact omN ‹_› ‹_› | exact om6 ‹_› | exact om7 ‹_› | exact om9 ‹_› ‹_› | exact om11 ‹_› rfl | exact om24 ‹_› ‹_› | exact rm2 ‹_› rfl | exact rm1 ‹_› rfl | exact Nat.le_trans ‹_› ‹_› | exact Nat.lt_of_lt_of_le ‹_› ‹_› | exact Nat.lt_of_le_of_lt ‹_› ‹_› | omega)) | (simp only [List.length_cons, List.length_nil]; (first | assumption | exact omE ‹_› ‹_› | exact omN ‹_› ‹_› | exact om6 ‹_› | exact om7 ‹_› | exact om9 ‹_› ‹_› | exact om11 ‹_› rfl | exact om24 ‹_› ‹_› | exact rm2 ‹_› rfl | exact rm1 ‹_› rfl | exact Nat.le_trans ‹_› ‹_› | exact Nat.lt_of_lt_of_le ‹_› ‹_› | exact Nat.lt_of_le_of_lt ‹_› ‹_› | omega)))
      | exact hF (by first | assumption | exact bytes_ne_of (by assumption) | solve_by_elim) _ _ (by assumption) (by assumption) (by first | assumption | (first | assumption | exact omE ‹_› ‹_› | exact omN ‹_› ‹_› | exact om6 ‹_› | exact om7 ‹_› | exact om9 ‹_› ‹_› | exact om11 ‹_› rfl | exact om24 ‹_› ‹_› | exact rm2 ‹_› rfl | exact rm1 ‹_› rfl | exact Nat.le_trans ‹_› ‹_› | exact Nat.lt_of_lt_of_le ‹_› ‹_› | exact Nat.lt_of_le_of_lt ‹_› ‹_› | omega) | (dsimp only; (first | assumption | exact omE ‹_› ‹_› | exact omN ‹_› ‹_› | exact om6 ‹_› | exact om7 ‹_› | exact om9 ‹_› ‹_› | exact om11 ‹_› rfl | exact om24 ‹_› ‹_› | exact rm2 ‹_› rfl | exact rm1 ‹_› rfl | exact Nat.le_trans ‹_› ‹_› | exact Nat.lt_of_lt_of_le ‹_› ‹_› | exact Nat.lt_of_le_of_lt ‹_› ‹_› | omega)) | (simp only [List.length_cons, List.length_nil]; (first | assumption | exact omE ‹_› ‹_› | exact omN ‹_› ‹_› | exact om6 ‹_› | exact om7 ‹_› | exact om9 ‹_› ‹_› | exact om11 ‹_› rfl | exact om24 ‹_› ‹_› | exact rm2 ‹_› rfl | exact rm1 ‹_› rfl | exact Nat.le_trans ‹_› ‹_› | exact Nat.lt_of_lt_of_le ‹_› ‹_› | exact Nat.lt_of_le_of_lt ‹_› ‹_› | omega)))
  · have htt' : t = t' → x = y := fun e => by simpa using htt e
    simp only [Key.b.injEq] at hQ
    have hT : x = y → ∀ h' tk', Fr h₀ L h' m → News h₀ L h' news → s.toks ≤ tk' → Q (.bool true) { s with heap := h', toks := tk' } := fun e h' tk' f n t => by have z := hQ h' tk' f n t; rwa [decide_eq_true e] at z
    have hF : ¬ x = y → ∀ h' tk', Fr h₀ L h' m → News h₀ L h' news → s.toks ≤ tk' → Q (.bool false) { s with heap := h', toks := tk' } := fun e h' tk' f n t => by have z := hQ h' tk' f n t; rwa [decide_eq_false e] at z
    clear hQ
    dsimp only [Key.val]
    revert X
    k_fill
    intro X
    refine wpAny_toks (wpAny_call ?_)
    k_dflt k_enter
    refine let_ar ?_; intro ar9
    k_steps
    all_goals first
      | exact hT (by first | assumption | exact bytes_eq_of (by assumption) | solve_by_elim) _ _ (by assumption) (by assumption) (by first | assumption | (first | assumption | exact omE ‹_› ‹_› | exact omN ‹_› ‹_› | exact om6 ‹_› | exact om7 ‹_› | exact om9 ‹_› ‹_› | exact om11 ‹_› rfl | exact om24 ‹_› ‹_› | exact rm2 ‹_› rfl | exact rm1 ‹_› rfl | exact Nat.le_trans ‹_› ‹_› | exact Nat.lt_of_lt_of_le ‹_› ‹_› | exact Nat.lt_of_le_of_lt ‹_› ‹_› | omega) | (dsimp only; (first | assumption | exact omE ‹_› ‹_› | exact omN ‹_› ‹_› | exact om6 ‹_› | exact om7 ‹_› | exact om9 ‹_› ‹_› | exact om11 ‹_› rfl | exact om24 ‹_› ‹_› | exact rm2 ‹_› rfl | exact rm1 ‹_› rfl | exact Nat.le_trans ‹_› ‹_› | exact Nat.lt_of_lt_of_le ‹_› ‹_› | exact Nat.lt_of_le_of_lt ‹_› ‹_› | omega)) | (simp only [List.length_cons, List.length_nil]; (first | assumption | exact omE ‹_› ‹_› | exact omN ‹_› ‹_› | exact om6 ‹_› | exact om7 ‹_› | exact om9 ‹_› ‹_› | exact om11 ‹_› rfl | exact om24 ‹_› ‹_› | exact rm2 ‹_› rfl | exact rm1 ‹_› rfl | exact Nat.le_trans ‹_› ‹_› | exact Nat.lt_of_lt_of_le ‹_› ‹_› | exact Nat.lt_of_le_of_lt ‹_› ‹_› | omega)))
      | exact hF (by first | assumption | exact bytes_ne_of (by assumption) | solve_by_elim) _ _ (by assumption) (by assumption) (by first | assumption | (first | assumption | exact omE ‹_› ‹_› | exact omN ‹_› ‹_› | exact om6 ‹_› | exact om7 ‹_› | exact om9 ‹_› ‹_› | exact om11 ‹_› rfl | exact om24 ‹_› ‹_› | exact rm2 ‹_› rfl | exact rm1 ‹_› rfl | exact Nat.le_trans ‹_› ‹_› | exact Nat.lt_of_lt_of_le ‹_› ‹_› | exact Nat.lt_of_le_of_lt ‹_› ‹_› | omega) | (dsimp only; (first | assumption | exact omE ‹_› ‹_› | exact omN ‹_› ‹_› | exact om6 ‹_› | exact om7 ‹_› | exact om9 ‹_› ‹_› | exact om11 ‹_› rfl | exact om24 ‹_› ‹_› | exact rm2 ‹_› rfl | exact rm1 ‹_› rfl | exact Nat.le_trans ‹_› ‹_› | exact Nat.lt_of_lt_of_le ‹_› ‹_› | exact Nat.lt_of_le_of_lt ‹_› ‹_› | omega)) | (simp only [List.length_cons, List.length_nil]; (first | assumption | exact omE ‹_› ‹_› | exact omN ‹_› ‹_› | exact om6 ‹_› | exact om7 ‹_› | exact om9 ‹_› ‹_› | exact om11 ‹_› rfl | exact om24 ‹_› ‹_› | exact rm2 ‹_› rfl | exact rm1 ‹_› rfl | exact Nat.le_trans ‹_› ‹_› | exact Nat.lt_of_lt_of_le ‹_› ‹_› | exact Nat.lt_of_le_of_lt ‹_› ‹_› | omega)))
theorem same_call2 {k1 k2 : Key} {t1 t2 : Tok} (B : Below A₀ base outer h₀) (F : Fr h₀ L s.heap m) (X : (Mine.hd.heap_1 w.params).In h₀) (N : News h₀ L s.heap news) (T : Top PV LO mean mg mb h₀)
   (hd : dp + 1 < recursionLimit) (hu : un + 8 < cLine) (hp : KeyPair (k1, t1) (k2, t2))
   (hQ : ∀ h' tk', Fr h₀ L h' m → News h₀ L h' news → s.toks ≤ tk' → Q (.bool (decide (k1 = k2))) { s with heap := h', toks := tk' }) :
   wpAny (model Challenge.rw_ij0174_01.row.prog w) (AT dp un gd cn nm ig ic mo L a ccd outer) (call (.ref 83) [k1.val t1, k2.val t2]) Q E s := same_call (k1, t1) (k2, t2) B F X N T hd hu hp hQ
end
end Mine
end
-- WKey
section
namespace Mine
theorem rstWKey : True := by (w_top off); trivial
section
variable {w : World} {mean : ExcName → Option Value} {mg mb : Str → Option Value}
   {dp un : Nat} {gd : Option (List Code)} {cn : Str} {nm : List (Str × NameKind)} {ig ic : Bool} {mo : List (Str × Const)} {a : Addr} {ccd : Value} {outer : List Env} {A₀ : Around} {base h₀ : Heap} {L : Addr} {m : Str → Option Value} {s : Shared} {Q E : Value → Shared → Prop} {news : List (Addr × Obj)}
end
end Mine
end
-- WNext
section
namespace Mine
theorem rstWNext : True := by (w_top off); trivial
section
variable {w : World} {mean : ExcName → Option Value} {mg mb : Str → Option Value}
   {dp un : Nat} {gd : Option (List Code)} {cn : Str} {nm : List (Str × NameKind)} {ig ic : Bool} {mo : List (Str × Const)} {a : Addr} {ccd : Value} {outer : List Env} {A₀ : Around} {base h₀ : Heap} {L : Addr} {m : Str → Option Value} {s : Shared} {Q E : Value → Shared → Prop} {news : List (Addr × Obj)}
noncomputable abbrev liObj (V : Addr) (i : Nat) : Obj := ⟨.type "list_iterator", none, .fields #[.ref V, .int i 0], #[]⟩
noncomputable abbrev liDead (i : Nat) : Obj := ⟨.type "list_iterator", none, .fields #[.none, .int i 0], #[]⟩
theorem isLI {h : Heap} {LI V : Addr} {i : Nat} (e : h.get? LI = some (liObj V i)) : h.IsListIter LI V i := ⟨_, e, rfl, rfl⟩
theorem upd_split {h : Heap} {f : Obj → Obj} {LI : Addr} {o o' : Obj} {g : Obj → List (Addr × Obj)} (F : Fr h₀ L h m) (N : News h₀ L h news) (U : UpdF LI o news g) (e : f o = o') (hf : o'.isFreed = false) :
    Fr h₀ L (h.update LI f) m ∧ News h₀ L (h.update LI f) (g o') := by
  obtain ⟨pre, post, hl, hg, a, b⟩ := U.split
  rw [hl] at N
  rw [hg]
  exact news_upd F N a b e hf
section
variable {prog : Program} {A : Around}
theorem listiter_item {LI V : Addr} {i : Nat} {vs : List Value} {v : Value} {g : Obj → List (Addr × Obj)} {Q : Value → Shared → Prop} {k : Nat} (F : Fr h₀ L s.heap m) (N : News h₀ L s.heap news) (U : UpdF LI (liObj V i) news g)
    (hV : (V, (listOf vs.toArray k)) ∈ news) (hi : vs[i]? = some v) (h : ∀ h', Fr h₀ L h' m → News h₀ L h' (g (liObj V (i + 1))) → Q v { s with heap := h' }) :
    wpAny (model prog w) A (call (.builtin "list_iterator.__next__") [.ref LI]) Q E s := by
  obtain ⟨pre, post, hl, hg, _, _⟩ := U.split
  have hm := N (LI, liObj V i) (by rw [hl]; exact List.mem_append_right _ (.head _))
  have hv := N _ hV
  refine wpAny_call_entry slot_listiter_next ⟨_, hm.1, rfl⟩ entry_listiter_next ?_ (args_listiter_next _)
  show wpAny _ _ (field (.ref LI) 0 >>= _) _ _ s
  refine wpAny_bind (wpAny_field hm.1 rfl (x := .ref V) rfl ?_)
  show wpAny _ _ (if (Value.ref V == Value.none) = true then _ else _) _ _ s
  rw [if_neg (show ¬ ((Value.ref V == Value.none) = true) from Bool.false_ne_true)]
  show wpAny _ _ (field (.ref LI) 1 >>= _) _ _ s
  refine wpAny_bind (wpAny_field hm.1 rfl (x := .int i 0) rfl ?_)
  show wpAny _ _ (seqItems? (.ref V) >>= _) _ _ s
  refine wpAny_bind (wpAny_seqItems hv.1 rfl ?_)
  have hx : (vs.toArray)[(Int.ofNat i).toNat]? = some v := by simpa using hi
  have hx' : (vs.toArray)[((i : Nat) : Int).toNat]? = some v := hx
  simp only [hx']
  have hu := upd_split (f := Obj.mapFields (·.setIfInBounds 1 (rawInt ((i : Int) + 1)))) F N U (o' := liObj V (i + 1)) (by simp [Obj.mapFields, rawInt]) rfl
  refine wpAny_bind (wpAny_setField hm.1 rfl (by simp) ?_)
  exact wpAny_pure ⟨v, rfl, h _ hu.1 hu.2⟩
theorem listiter_end {LI V : Addr} {i : Nat} {vs : List Value} {g : Obj → List (Addr × Obj)} {Q : Value → Shared → Prop} {k : Nat} (hh : A.handled = none) (F : Fr h₀ L s.heap m) (N : News h₀ L s.heap news) (U : UpdF LI (liObj V i) news g)
    (hV : (V, (listOf vs.toArray k)) ∈ news) (hi : vs[i]? = none) (h : ∀ h₁ h' e, Fr h₀ L h₁ m → News h₀ L h₁ (g (liDead i)) → Heap.NewExc h₁ h' e "StopIteration" → E (.ref e) { s with heap := h' }) :
    wpAny (model prog w) A (call (.builtin "list_iterator.__next__") [.ref LI]) Q E s := by
  obtain ⟨pre, post, hl, hg, _, _⟩ := U.split
  have hm := N (LI, liObj V i) (by rw [hl]; exact List.mem_append_right _ (.head _))
  have hv := N _ hV
  refine wpAny_call_entry slot_listiter_next ⟨_, hm.1, rfl⟩ entry_listiter_next ?_ (args_listiter_next _)
  show wpAny _ _ (field (.ref LI) 0 >>= _) _ _ s
  refine wpAny_bind (wpAny_field hm.1 rfl (x := .ref V) rfl ?_)
  show wpAny _ _ (if (Value.ref V == Value.none) = true then _ else _) _ _ s
  rw [if_neg (show ¬ ((Value.ref V == Value.none) = true) from Bool.false_ne_true)]
  show wpAny _ _ (field (.ref LI) 1 >>= _) _ _ s
  refine wpAny_bind (wpAny_field hm.1 rfl (x := .int i 0) rfl ?_)
  show wpAny _ _ (seqItems? (.ref V) >>= _) _ _ s
  refine wpAny_bind (wpAny_seqItems hv.1 rfl ?_)
  have hx' : (vs.toArray)[((i : Nat) : Int).toNat]? = none := by simpa using hi
  simp only [hx']
  have hu := upd_split (f := Obj.mapFields (·.setIfInBounds 0 Value.none)) F N U (o' := liDead i) (by simp [Obj.mapFields]) rfl
  refine wpAny_bind (wpAny_rule (wpAny_bind (wpAny_setField hm.1 rfl (by simp) ?_)))
  show wpAny _ _ (newExc (.type "StopIteration") [] >>= _) _ _ _
  refine wpAny_bind ?_
  simp only [newExc, newTuple]
  refine wpAny_bind (wpAny_newObj_type ?_ (by size_fits))
  refine wpAny_bind (m := firstArgMember _ _) (wpAny_of_eq (a := Value.none) (by first | rfl | (simp only [firstArgMember]; rfl)) ?_)
  refine wpAny_newObj_type ?_ (by size_fits)
  simp only [raiseNew]
  refine wpAny_bind (wpAny_handled ?_)
  rw [show A.in1.handled = none from hh]
  refine wpAny_bind (wpAny_pure (wpAny_throw ?_))
  refine h _ _ _ hu.1 hu.2 ⟨fun b o q => Heap.get?_push_of_some _ (Heap.get?_push_of_some _ q), ?_, ?_⟩
  · exact Heap.get?_none_of_le (by rw [Heap.size_push]; exact Nat.le_succ _)
  · exact ⟨_, _, Heap.get?_push_size _ rfl, rfl, rfl⟩
theorem listiter_dead {LI : Addr} {i : Nat} {Q : Value → Shared → Prop} (hh : A.handled = none) (F : Fr h₀ L s.heap m) (N : News h₀ L s.heap news) (mL : (LI, liDead i) ∈ news)
    (h : ∀ h' e, Heap.NewExc s.heap h' e "StopIteration" → E (.ref e) { s with heap := h' }) :
    wpAny (model prog w) A (call (.builtin "list_iterator.__next__") [.ref LI]) Q E s := by
  have hm := N _ mL
  refine wpAny_call_entry slot_listiter_next ⟨_, hm.1, rfl⟩ entry_listiter_next ?_ (args_listiter_next _)
  show wpAny _ _ (field (.ref LI) 0 >>= _) _ _ s
  refine wpAny_bind (wpAny_field hm.1 rfl (x := .none) rfl ?_)
  show wpAny _ _ (if (Value.none == Value.none) = true then _ else _) _ _ s
  rw [if_pos (by decide)]
  refine wpAny_bind (wpAny_rule ?_)
  refine wpAny_bind ?_
  show wpAny _ _ (newExc (.type "StopIteration") [] >>= _) _ _ _
  refine wpAny_bind ?_
  simp only [newExc, newTuple]
  refine wpAny_bind (wpAny_newObj_type ?_ (by size_fits))
  refine wpAny_bind (m := firstArgMember _ _) (wpAny_of_eq (a := Value.none) (by first | rfl | (simp only [firstArgMember]; rfl)) ?_)
  refine wpAny_newObj_type ?_ (by size_fits)
  simp only [raiseNew]
  refine wpAny_bind (wpAny_handled ?_)
  rw [show A.in1.handled = none from hh]
  refine wpAny_bind (wpAny_pure (wpAny_throw ?_))
  refine h _ _ ⟨fun b o q => Heap.get?_push_of_some _ (Heap.get?_push_of_some _ q), ?_, ?_⟩
  · exact Heap.get?_none_of_le (by rw [Heap.size_push]; exact Nat.le_succ _)
  · exact ⟨_, _, Heap.get?_push_size _ rfl, rfl, rfl⟩
theorem entry_next' : entryFor table "next" = some Builtin.«next» := entryFor_of_fast (by kernel_rfl)
theorem args_next' (a : Value) : argsOk "next" ⟨[a], []⟩ := by unfold argsOk; kernel_rfl
theorem next_dead {LI : Addr} {i : Nat} {Q : Value → Shared → Prop} (hm : s.heap.get? LI = some (liDead i))
    (h : wpAny (model prog w) A.in1 (call (.builtin "list_iterator.__next__") [.ref LI]) Q E s) :
    wpAny (model prog w) A (call (.builtin "next") [.ref LI]) Q E s := by
  have hT : s.TypeIs (.ref LI) "list_iterator" := ⟨_, hm, rfl⟩
  refine call_function_entry (by decide +kernel) (by decide +kernel) entry_next' (args_next' _) ?_
  unfold Builtin.«next»
  refine wpAny_bind (m := someArgs "next" 1 2 _) (wpAny_of_eq (a := [Value.ref LI]) (by first | rfl | kernel_rfl!) ?_)
  dsimp only
  refine wpAny_bind (wpAny_specialOf (name := Str.ofString "__next__") hT slot_listiter_next.lookup ?_)
  refine wpAny_ite_split (fun hab => absurd hab (by decide)) (fun _ => ?_)
  refine wpAny_bind (wpAny_callSpecial?_slot (name := Str.ofString "__next__") hT slot_listiter_next ?_)
  exact wpAny_mono h (fun v s' hq => wpAny_pure ⟨_, rfl, hq⟩) fun _ _ x => x
theorem next_li {LI V : Addr} {i : Nat} {Q : Value → Shared → Prop} (hm : s.heap.get? LI = some (liObj V i))
    (h : wpAny (model prog w) A.in1 (call (.builtin "list_iterator.__next__") [.ref LI]) Q E s) :
    wpAny (model prog w) A (call (.builtin "next") [.ref LI]) Q E s := by
  have hT : s.TypeIs (.ref LI) "list_iterator" := ⟨_, hm, rfl⟩
  refine call_function_entry (by decide +kernel) (by decide +kernel) entry_next' (args_next' _) ?_
  unfold Builtin.«next»
  refine wpAny_bind (m := someArgs "next" 1 2 _) (wpAny_of_eq (a := [Value.ref LI]) (by first | rfl | kernel_rfl!) ?_)
  dsimp only
  refine wpAny_bind (wpAny_specialOf (name := Str.ofString "__next__") hT slot_listiter_next.lookup ?_)
  refine wpAny_ite_split (fun hab => absurd hab (by decide)) (fun _ => ?_)
  refine wpAny_bind (wpAny_callSpecial?_slot (name := Str.ofString "__next__") hT slot_listiter_next ?_)
  exact wpAny_mono h (fun v s' hq => wpAny_pure ⟨_, rfl, hq⟩) fun _ _ x => x
end
end
end Mine
end
-- WCatch
section
namespace Mine
theorem rstWCatch : True := by (w_top off); trivial
section
variable {w : World} {mean : ExcName → Option Value} {mg mb : Str → Option Value}
   {dp un : Nat} {gd : Option (List Code)} {cn : Str} {nm : List (Str × NameKind)} {ig ic : Bool} {mo : List (Str × Const)} {a : Addr} {ccd : Value} {outer : List Env} {A₀ : Around} {base h₀ : Heap} {L : Addr} {m : Str → Option Value} {s : Shared} {Q E : Value → Shared → Prop} {news : List (Addr × Obj)}
end
section
variable {prog : Program} {w : World} {A₀ : Around} {E : Value → Shared → Prop} {s' : Shared} {base g h : Heap} {outer : List Env} {L a e : Addr} {m : Str → Option Value} {name : Str} {scope : Scope} {cd : Value}
  {b₀ : Stmt} {suite : List Stmt} {pos np : Pos} {rest : List ExceptHandler} {Q : Flow → Shared → Prop} {news : List (Addr × Obj)} {KF : Frag}
  {p : Program} {loose : List Str} {mean : ExcName → Option Value} {mg mb : Str → Option Value} {x : Str} {X T' : String}
noncomputable def bare (h : Heap) (l : List Env) : Heap := hideAll h (l.filterMap (·.frame))
theorem bare_keeps (F : Fr g L h m) : ∀ b o, h.get? b = some o → b ∉ (envOf name scope L a cd :: outer).filterMap (·.frame) → (bare h (envOf name scope L a cd :: outer)).get? b = some o :=
  fun _ _ q nm => hideAll_get _ q nm
theorem bare_news (K : Below A₀ base outer g) (F : Fr g L h m) (N : News g L h news) (q : Addr × Obj) (hq : q ∈ news) :
    (bare h (envOf name scope L a cd :: outer)).get? q.1 = some q.2 ∧ q.1 ≠ L ∧ g.get? q.1 = none := by
  refine ⟨hideAll_get _ (N q hq).1 fun hm => ?_, (N q hq).2⟩
  rcases kts_mem hm with z | z
  · exact (N q hq).2.1 z
  · obtain ⟨_, o, ho, _⟩ := K.frames.mem z
    rw [(N q hq).2.2] at ho; cases ho
theorem bare_none {b : Addr} {l : List Env} (q : h.get? b = none) : (bare h l).get? b = none := by
  cases e : (bare h l).get? b with
  | none => rfl
  | some o => have := of_hideAll _ e; rw [q] at this; cases this
theorem bare_frames (K : Below A₀ base outer g) (F : Fr g L h m) (hk : scope.kind = .function) {h' : Heap} (hx : ∀ b o, h.get? b = some o → h'.get? b = some o) : h'.FunFrames (bare h (envOf name scope L a cd :: outer)) (envOf name scope L a cd :: outer) := by
  have K' := K.push (name := name) (a := a) (cd := cd) F hk
  exact (funFrames_hide K'.frames fun env he b hb => List.mem_filterMap.mpr ⟨env, he, hb⟩).of_keeps fun b o hb _ => ⟨o, hx b o hb, rfl⟩

theorem caught_new (hx : Heap.NewExc h s'.heap e X) (K : Below A₀ base outer g) (F : Fr g L h m) (N : News g L h news) (XB : KF.In base) (TB : Top p loose mean mg mb base) (D : KtsDicts (Fs outer) g)
    (ex : nsIn KF mainGlobals x = some none) (hv : bootBuiltins x = some (.type T')) (hn' : x ≠ "__name__")
    (hexc : isSubtype (.type T') (.type "BaseException") = pure true) (hnt : isSubtype (.type ((Manifest.find? T').elim "type" fun y => y.metatype)) (.type "tuple") = pure false) (hsub : isSubtype (.type X) (.type T') = pure true)
    (k : ∀ h' g', KtsTurn (Fs outer) g g' → Fr g' L h' m → News g' L h' news → Below A₀ base outer g' → KF.In g' → Top p loose mean mg mb g' → KtsDicts (Fs outer) g' →
      wpAny (model prog w) ((A₀.deeper (envOf name scope L a cd)).mark (some (.ref e))) (execs (b₀ :: suite) (envOf name scope L a cd)) Q E { s' with heap := h' })
    (hk : scope.kind = .function := by rfl) (hkx : (envOf name scope L a cd).kindOf x = some .globalImplicit := by rfl) (hdx : (x == ("__debug__" : Str)) = false := by decide)
    (hE : PassesOwnAt (model prog w) ((A₀.deeper (envOf name scope L a cd)).mark (some (.ref e))) (A₀.deeper (envOf name scope L a cd)) (envOf name scope L a cd) E := by passes_own) :
    wpAny (model prog w) (A₀.deeper (envOf name scope L a cd)) (noteFrame (.ref e) (envOf name scope L a cd))
      (fun _ s₂ => wpAny (model prog w) (A₀.deeper (envOf name scope L a cd)) (setFlight (.ref e) none) (fun _ s₃ =>
        wpAny (model prog w) (A₀.deeper (envOf name scope L a cd)) (handleBy (.ref e) (envOf name scope L a cd) (.ExceptHandler (some (.Name x np)) none (b₀ :: suite) pos :: rest)) Q E s₃) E s₂) E s' := by
  have K' := K.push (name := name) (a := a) (cd := cd) F hk
  obtain ⟨ob, tp, he, hcls, hd⟩ := hx.there
  have hen := bare_none (l := envOf name scope L a cd :: outer) hx.new
  unfold noteFrame
  simp only [show (envOf name scope L a cd).frame = some L from rfl]
  refine wpAny_bind (wpAny_field he hd (x := .none) rfl ?_)
  rw [if_neg (by decide)]
  refine wpAny_entryW (a0 := tp) K'.stack (bare_frames K F hk hx.keeps) rfl he (fun b o q => hx.keeps b o (of_hideAll _ q)) hen hd (by show 1 < 6; decide) rfl fun h₄ hN₄ => ?_
  obtain ⟨k1, k2, k3, k4⟩ := hN₄
  rw [hcls] at k3
  have hheld₄ : Heap.HeldW (bare h (envOf name scope L a cd :: outer)) (envOf name scope L a cd :: outer) e (.type X) tp L h₄ := ⟨k1, hen, k2, k3⟩
  have sm₄ : h.UpToSlots h₄ := (Heap.UpToSlots.of_keeps hx.keeps).trans k4
  refine wpAny_landsW hheld₄ fun h₅ hfl₅ hsm₅ => ?_
  have sm₅ := sm₄.trans hsm₅
  obtain ⟨g₅, T₅, F₅, K₅⟩ := kts_ground K F (bare_keeps F) hfl₅.1 sm₅
  obtain ⟨ob', hob, hobc⟩ := hfl₅.there
  refine wpAny_handleBy_builtin (X := X) (T := T') (b := true) hexc hnt hsub (name_B F₅ (XB.keeps K₅.stays) (topRead_of (TB.keeps K₅.stays)) ex hv hn' ⟨rfl, ⟨ob', hob, hobc⟩, ?_⟩ hk hkx hdx)
  refine lands_againW hfl₅ fun h₆ hfl₆ hsm₆ => ?_
  obtain ⟨g₆, T₆, F₆, K₆⟩ := kts_ground K F (bare_keeps F) hfl₆.1 (sm₅.trans hsm₆)
  have Nl : News g₆ L h₆ news := fun q hq => by
    obtain ⟨z1, z2, z3⟩ := bare_news (name := name) (scope := scope) (a := a) (cd := cd) K F N q hq
    exact ⟨hfl₆.1 _ _ z1, z2, T₆.none_ _ z3⟩
  exact wpAny_passesOwnAt hE (k h₆ g₆ T₆ F₆ Nl K₆ (XB.keeps K₆.stays) (TB.keeps K₆.stays) (D.turn T₆))
theorem landed {G' : Heap} {t : Addr} {vs : List Value} {X : String} {w : World} {h : Heap} (D : Gd w mean mg mb A₀ base outer g) (F : Fr g L G' m) (hsm : G'.UpToSlots h)
    (R : RaisedS base G' (envOf name scope L a cd :: outer) e (.type X) t vs news h) : ∃ g', Gd w mean mg mb A₀ base outer g' ∧ KtsTurn (Fs outer) g g' ∧ Fr g' L h m ∧ News g' L h news ∧ ∃ o, h.get? e = some o ∧ o.cls = .type X := by
  obtain ⟨⟨B, hB, hBG, hl, hfl, hnew⟩, htup⟩ := R
  have hL : B.get? L = none := by
    obtain ⟨_, ⟨L', _, hf, hn', _⟩, _⟩ := hfl.2.2.1
    obtain rfl : L = L' := Option.some.inj hf
    exact hn'
  obtain ⟨g₆, T₆, F₆, K₆⟩ := kts_ground D.B F hBG hfl.1 hsm
  refine ⟨g₆, ⟨K₆, D.XB.keeps K₆.stays, D.TB.keeps K₆.stays, D.XB, D.TB, D.D.turn T₆⟩, T₆, F₆, fun q hq => ⟨hfl.1 _ _ (hl q hq).1, (fun z => by have := (hl q hq).1; rw [z, hL] at this; cases this), T₆.none_ _ (kts_none F.keep (hl q hq).2.1)⟩, ?_⟩
  obtain ⟨ob, hob, hc⟩ := hfl.there
  exact ⟨ob, hob, hc⟩
theorem turn_back {G' : Heap} {w : World} (D : Gd w mean mg mb A₀ base outer g) (F : Fr g L h m) (T : KtsTurn (Fs (envOf name scope L a cd :: outer)) h G') :
    ∃ g', Gd w mean mg mb A₀ base outer g' ∧ KtsTurn (Fs outer) g g' ∧ Fr g' L G' m := by
  have K := D.B
  have nL : g.get? L = none := kts_self F
  obtain ⟨T₁, S₁⟩ := kts_turn_at (fs := Fs outer) (g := g) (h := G') (fun b hb => by obtain ⟨_, o, ho, _⟩ := K.frames.mem hb; exact ⟨o, ho⟩)
    (fun b o e nm => T.other b o (F.keep b o e) fun hm => by
      rcases kts_mem hm with z | z
      · rw [z, nL] at e; cases e
      · exact nm z)
    (fun b o e hm => T.frame b o (F.keep b o e) (by
      obtain ⟨env, he, hf⟩ := List.mem_filterMap.mp hm
      exact List.mem_filterMap.mpr ⟨env, List.mem_cons_of_mem _ he, hf⟩))
  have K₁ : Below A₀ base outer (ktsHeap G' (Fs outer) g) := ⟨K.stack, fun b o e => T₁.other b o (K.stays b o e) (fun hm => by
    rw [(K.frames.mem hm).1] at e
    cases e), K.frames.of_keeps fun b o e _ => by
      obtain ⟨sl, hs⟩ := T₁.up e
      exact ⟨_, hs, rfl⟩⟩
  refine ⟨_, ⟨K₁, D.XB.keeps K₁.stays, D.TB.keeps K₁.stays, D.XB, D.TB, D.D.turn T₁⟩, T₁, ⟨?_, S₁, by rw [T₁.size]; exact F.above⟩⟩
  obtain ⟨oL, es, ep, hL, hLd, hLk, hLf⟩ := F.ns
  obtain ⟨sl, hs⟩ := T.up hL
  exact ⟨_, es, ep, hs, hLd, hLk, hLf⟩
theorem raised_drop {l : List Env} {t : Addr} {cls : Value} {vs : List Value} {news' : List (Addr × Obj)} (R : RaisedS base g l e cls t vs news h) (k : ∀ q ∈ news', q ∈ news) : RaisedS base g l e cls t vs news' h := by
  obtain ⟨⟨B, hB, hBG, hl, hfl, hnew⟩, htup⟩ := R
  exact ⟨⟨B, hB, hBG, fun q hq => hl q (k q hq), hfl, hnew⟩, htup⟩
theorem news_drop {news' : List (Addr × Obj)} (N : News g L h news) (k : ∀ q ∈ news', q ∈ news) : News g L h news' := fun q hq => N q (k q hq)
end
end Mine
end
-- WPull
section
namespace Mine
theorem rstWPull : True := by (w_top off); trivial
section
variable {w : World} {mean : ExcName → Option Value} {mg mb : Str → Option Value}
   {dp un : Nat} {gd : Option (List Code)} {cn : Str} {nm : List (Str × NameKind)} {ig ic : Bool} {mo : List (Str × Const)} {a : Addr} {ccd : Value} {outer : List Env} {A₀ : Around} {base h₀ : Heap} {L : Addr} {m : Str → Option Value} {s : Shared} {Q E : Value → Shared → Prop} {news : List (Addr × Obj)}
theorem stop_exc : isSubtype (.type "StopIteration") (.type "BaseException") = pure true := by rw [isSubtype_type]; kernel_rfl
theorem stop_nt : isSubtype (.type ((Manifest.find? "StopIteration").elim "type" fun y => y.metatype)) (.type "tuple") = pure false := by rw [isSubtype_type]; kernel_rfl
theorem stop_sub : isSubtype (.type "StopIteration") (.type "StopIteration") = pure true := by rw [isSubtype_type]; kernel_rfl
theorem UpdF.mem {d : Addr} {o : Obj} {l : List (Addr × Obj)} {g : Obj → List (Addr × Obj)} (U : UpdF d o l g) : (d, o) ∈ l := by
  obtain ⟨pre, post, hl, _⟩ := U.split
  rw [hl]; exact List.mem_append_right _ (.head _)
noncomputable abbrev tupO (vs : List Value) : Obj := ⟨.type "tuple", none, .seq vs.toArray 0, #[]⟩
local macro_rules | `(tactic| walk_at "call builtin:next") => `(tactic| (k_here; refine next_li (News.get (by k_asm) (by assumption)) ?_; (first | (refine listiter_item (by k_asm) (by k_asm) (by assumption) (by assumption) (by assumption) ?_) | (refine listiter_end (by rfl) (by k_asm) (by k_asm) (by assumption) (by assumption) (by assumption) ?_))))
local macro_rules | `(tactic| walk_at "call builtin:next") => `(tactic| (k_here; refine next_dead (News.get (by k_asm) (by assumption)) ?_; refine listiter_dead (by rfl) (by k_asm) (by k_asm) (by assumption) ?_))
local macro_rules | `(tactic| walk_at "noteFrame ref") => `(tactic| (k_here; (refine' caught_new (T' := "StopIteration") ?hx ?K ?F ?N ?XB ?TB ?D ?ex ?hv ?hn stop_exc stop_nt stop_sub ?k; (case hx => assumption); (case K => assumption); (case F => assumption); (case N => assumption); (case XB => assumption); (case TB => assumption); (case D => assumption); (case ex => k_is); (case hv => boot_by_name); (case hn => decide)); (intro h9 g9 T9 F9 N9 B9 X9 TP9 D9)))
theorem pull_item {LI V : Addr} {i k : Nat} {vs : List Value} {v : Value} {g : Obj → List (Addr × Obj)} (B : Below A₀ base outer h₀) (F : Fr h₀ L s.heap m) (X : (Mine.hd.heap_1 w.params).In h₀) (T' : Top PV LO mean mg mb h₀)
   (N : News h₀ L s.heap news) (U : UpdF LI (liObj V i) news g) (hV : (V, listOf vs.toArray k) ∈ news) (hi : vs[i]? = some v)
   (hd : dp + 3 < recursionLimit) (hu : un + 24 < cLine)
   (hQ : ∀ D h' tk', Fr h₀ L h' m → News h₀ L h' ((D, tupO [.bool true, v]) :: g (liObj V (i + 1))) → (∀ p ∈ g (liObj V (i + 1)), p.1 < D) → s.toks ≤ tk' → Q (.ref D) { s with heap := h', toks := tk' }) :
   wpAny (model Challenge.rw_ij0174_01.row.prog w) (AT dp un gd cn nm ig ic mo L a ccd outer) (call (.ref 76) [.ref LI]) Q E s := by
  have hU := UpdF.mem U
  revert X
  k_fill
  intro X
  refine wpAny_toks ?_
  walk1
  k_steps
  exact hQ _ _ _ (by assumption) (by assumption) (by assumption) (by first | assumption | omega | (dsimp only; omega))
theorem pull_end {LI V : Addr} {i k : Nat} {vs : List Value} {g : Obj → List (Addr × Obj)} (G : Gd w mean mg mb A₀ base outer h₀) (F : Fr h₀ L s.heap m)
   (N : News h₀ L s.heap news) (U : UpdF LI (liObj V i) news g) (hV : (V, listOf vs.toArray k) ∈ news) (hi : vs[i]? = none)
   (hd : dp + 3 < recursionLimit) (hu : un + 24 < cLine)
   (hQ : ∀ D h₁ h' tk', Gd w mean mg mb A₀ base outer h₁ → KtsTurn (Fs outer) h₀ h₁ → Fr h₁ L h' m → News h₁ L h' ((D, tupO [.bool false, .none]) :: g (liDead i)) → (∀ p ∈ g (liDead i), p.1 < D) → s.toks ≤ tk' → Q (.ref D) { s with heap := h', toks := tk' }) :
   wpAny (model Challenge.rw_ij0174_01.row.prog w) (AT dp un gd cn nm ig ic mo L a ccd outer) (call (.ref 76) [.ref LI]) Q E s := by
  have hU := UpdF.mem U
  have B := G.B; have X := G.X; have T' := G.T; have XB := G.XB; have TB := G.TB; have D := G.D
  revert X
  k_fill
  intro X
  refine wpAny_toks (wpAny_call ?_)
  k_dflt kts_go
  refine let_ar ?_; intro ar9
  k_steps
  exact hQ _ _ _ _ ⟨by assumption, by assumption, by assumption, by assumption, by assumption, by assumption⟩ (by assumption) (by assumption) (by assumption) (by assumption) (by first | assumption | omega | (dsimp only; omega))
theorem pull_dead {LI : Addr} {i : Nat} (G : Gd w mean mg mb A₀ base outer h₀) (F : Fr h₀ L s.heap m)
   (N : News h₀ L s.heap news) (mL : (LI, liDead i) ∈ news)
   (hd : dp + 3 < recursionLimit) (hu : un + 24 < cLine)
   (hQ : ∀ D h₁ h' tk', Gd w mean mg mb A₀ base outer h₁ → KtsTurn (Fs outer) h₀ h₁ → Fr h₁ L h' m → News h₁ L h' ((D, tupO [.bool false, .none]) :: news) → (∀ p ∈ news, p.1 < D) → s.toks ≤ tk' → Q (.ref D) { s with heap := h', toks := tk' }) :
   wpAny (model Challenge.rw_ij0174_01.row.prog w) (AT dp un gd cn nm ig ic mo L a ccd outer) (call (.ref 76) [.ref LI]) Q E s := by
  have B := G.B; have X := G.X; have T' := G.T; have XB := G.XB; have TB := G.TB; have D := G.D
  revert X
  k_fill
  intro X
  refine wpAny_toks (wpAny_call ?_)
  k_dflt kts_go
  refine let_ar ?_; intro ar9
  k_steps
  exact hQ _ _ _ _ ⟨by assumption, by assumption, by assumption, by assumption, by assumption, by assumption⟩ (by assumption) (by assumption) (by assumption) (by assumption) (by first | assumption | omega | (dsimp only; omega))
end
end Mine
end
-- WCount
section
namespace Mine
theorem rstWCount : True := by (w_top off); trivial
section
variable {w : World} {mean : ExcName → Option Value} {mg mb : Str → Option Value}
   {dp un : Nat} {gd : Option (List Code)} {cn : Str} {nm : List (Str × NameKind)} {ig ic : Bool} {mo : List (Str × Const)} {a : Addr} {ccd : Value} {outer : List Env} {A₀ : Around} {base h₀ : Heap} {L : Addr} {m : Str → Option Value} {s : Shared} {Q E : Value → Shared → Prop} {news : List (Addr × Obj)}
noncomputable abbrev ctObj (dct : Addr) (i : Int) (ti t1 : Tok) : Obj := ⟨.ref 222, some dct, .plain, #[some (.int i ti), some (.bool true), some (.int 1 t1)]⟩
theorem ct_next {CT dct : Addr} {i : Int} {ti t1 : Tok} {g : Obj → List (Addr × Obj)} (B : Below A₀ base outer h₀) (F : Fr h₀ L s.heap m) (X : (Mine.hd.heap_1 w.params).In h₀) (T' : Top PV LO mean mg mb h₀) (N : News h₀ L s.heap news) (U : UpdF CT (ctObj dct i ti t1) news g) (md : (dct, dictOf [] 0) ∈ news)
   (hd : dp + 3 < recursionLimit) (hu : un + 24 < cLine)
   (hQ : ∀ h' tk' t', Fr h₀ L h' m → News h₀ L h' (g (ctObj dct (i + 1) t' t1)) → s.toks ≤ tk' → Q (.int i ti) { s with heap := h', toks := tk' }) :
   wpAny (model Challenge.rw_ij0174_01.row.prog w) (AT dp un gd cn nm ig ic mo L a ccd outer) (call (.ref 211) [.ref CT]) Q E s := by
  obtain ⟨pre, post, rfl, hg, n1, n2⟩ := U.split
  have N' : News h₀ L s.heap ((CT, ctObj dct i ti t1) :: (pre ++ post)) := news_drop N fun q hq => by
    rcases List.mem_cons.mp hq with e | hq
    · subst e; exact List.mem_append_right _ (.head _)
    rcases List.mem_append.mp hq with hq | hq
    · exact List.mem_append_left _ hq
    · exact List.mem_append_right _ (.tail _ hq)
  have hQ' : ∀ h' tk' t', Fr h₀ L h' m → News h₀ L h' ((CT, ctObj dct (i + 1) t' t1) :: (pre ++ post)) → s.toks ≤ tk' → Q (.int i ti) { s with heap := h', toks := tk' } := fun h' tk' t' F' N'' ht => hQ h' tk' t' F' (by
    rw [hg]
    exact news_drop N'' fun q hq => by
      rcases List.mem_append.mp hq with hq | hq
      · exact .tail _ (List.mem_append_left _ hq)
      rcases List.mem_cons.mp hq with e | hq
      · subst e; exact .head _
      · exact .tail _ (List.mem_append_right _ hq)) ht
  have md' : (dct, dictOf [] 0) ∈ (pre ++ post) := by
    rcases List.mem_append.mp md with hq | hq
    · exact List.mem_append_left _ hq
    rcases List.mem_cons.mp hq with e | hq
    · cases e
    · exact List.mem_append_right _ hq
  have nr : ∀ q ∈ (pre ++ post), q.1 ≠ CT := fun q hq => (List.mem_append.mp hq).elim (n1 q) (n2 q)
  generalize hrest : pre ++ post = rest at N' hQ' md' nr
  clear hQ U N md hg n1 n2 hrest
  rename News _ _ _ _ => N
  revert X
  k_fill
  intro X
  refine wpAny_toks (wpAny_call ?_)
  k_dflt k_enter
  refine let_ar ?_; intro ar9
  k_steps
  exact hQ' _ _ _ (by assumption) (by assumption) (by first | assumption | omega | (dsimp only; omega) | (simp only [List.length_cons, List.length_nil]; omega))
theorem ct_iter {CT dct : Addr} {i : Int} {ti t1 : Tok} (B : Below A₀ base outer h₀) (F : Fr h₀ L s.heap m) (X : (Mine.hd.heap_1 w.params).In h₀) (T' : Top PV LO mean mg mb h₀) (N : News h₀ L s.heap news) (m1 : (CT, ctObj dct i ti t1) ∈ news) (md : (dct, dictOf [] 0) ∈ news)
   (hd : dp + 3 < recursionLimit) (hu : un + 24 < cLine)
   (hQ : ∀ h' tk', Fr h₀ L h' m → News h₀ L h' news → s.toks ≤ tk' → Q (.ref CT) { s with heap := h', toks := tk' }) :
   wpAny (model Challenge.rw_ij0174_01.row.prog w) (AT dp un gd cn nm ig ic mo L a ccd outer) (call (.ref 204) [.ref CT]) Q E s := by
  revert X
  k_fill
  intro X
  refine wpAny_toks (wpAny_call ?_)
  k_dflt k_enter
  refine let_ar ?_; intro ar9
  k_steps
  exact hQ _ _ (by assumption) (by assumption) (by first | assumption | omega | (dsimp only; omega) | (simp only [List.length_cons, List.length_nil]; omega))
theorem fi_ct_next (p : _) : findIn (Mine.hd.heap_1 p) (.ref 222) "__next__" = some (some (.ref 211)) := by kernel_rfl
theorem fi_ct_iter (p : _) : findIn (Mine.hd.heap_1 p) (.ref 222) "__iter__" = some (some (.ref 204)) := by kernel_rfl
theorem isFn_211 (p : _) : isFn (Mine.hd.heap_1 p) (.ref 211) = true := by kernel_rfl
theorem isFn_204 (p : _) : isFn (Mine.hd.heap_1 p) (.ref 204) = true := by kernel_rfl
end
end Mine
end
-- WZip
section
namespace Mine
theorem rstWZip : True := by (w_top off); trivial
section
variable {w : World} {mean : ExcName → Option Value} {mg mb : Str → Option Value}
   {dp un : Nat} {gd : Option (List Code)} {cn : Str} {nm : List (Str × NameKind)} {ig ic : Bool} {mo : List (Str × Const)} {a : Addr} {ccd : Value} {outer : List Env} {A₀ : Around} {base h₀ : Heap} {L : Addr} {m : Str → Option Value} {s : Shared} {Q E : Value → Shared → Prop} {news : List (Addr × Obj)}
noncomputable abbrev zpObj (f0 : Value) (f1 : Bool) (TI TO : Addr) : Obj := { cls := .type "zip", dict := none, data := .fields #[f0, .bool f1, .bool false, .ref TI, .ref TO], slots := #[] }
structure ZipNd (Z TO I1 CT : Addr) (rest : List (Addr × Obj)) : Prop where
  a1 : Z ≠ TO
  a2 : Z ≠ I1
  a3 : Z ≠ CT
  a4 : TO ≠ I1
  a5 : TO ≠ CT
  a6 : I1 ≠ CT
  r1 : ∀ q ∈ rest, q.1 ≠ Z
  r2 : ∀ q ∈ rest, q.1 ≠ TO
  r3 : ∀ q ∈ rest, q.1 ≠ I1
  r4 : ∀ q ∈ rest, q.1 ≠ CT
section
variable {Z TO I1 CT : Addr} {rest : List (Addr × Obj)} {oZ oTO oI oC : Obj}
theorem all4 {P : Addr × Obj → Prop} {x y z : Addr × Obj} (hx : P x) (hy : P y) (hz : P z) (hr : ∀ q ∈ rest, P q) : ∀ q ∈ x :: y :: z :: rest, P q := fun q hq => by
  rcases List.mem_cons.mp hq with rfl | hq
  · exact hx
  rcases List.mem_cons.mp hq with rfl | hq
  · exact hy
  rcases List.mem_cons.mp hq with rfl | hq
  · exact hz
  exact hr q hq
theorem ZipNd.uZ (n : ZipNd Z TO I1 CT rest) : UpdF Z oZ ((Z, oZ) :: (TO, oTO) :: (I1, oI) :: (CT, oC) :: rest) (fun o => (Z, o) :: (TO, oTO) :: (I1, oI) :: (CT, oC) :: rest) :=
  .head (all4 n.a1.symm n.a2.symm n.a3.symm n.r1)
theorem ZipNd.uTO (n : ZipNd Z TO I1 CT rest) : UpdF TO oTO ((Z, oZ) :: (TO, oTO) :: (I1, oI) :: (CT, oC) :: rest) (fun o => (Z, oZ) :: (TO, o) :: (I1, oI) :: (CT, oC) :: rest) :=
  .tail (p := (Z, oZ)) n.a1 (.head (fun q hq => all4 (x := (I1, oI)) (P := fun q => q.1 ≠ TO) n.a4.symm n.a4.symm n.a5.symm n.r2 q (.tail _ hq)))
theorem ZipNd.uI (n : ZipNd Z TO I1 CT rest) : UpdF I1 oI ((Z, oZ) :: (TO, oTO) :: (I1, oI) :: (CT, oC) :: rest) (fun o => (Z, oZ) :: (TO, oTO) :: (I1, o) :: (CT, oC) :: rest) :=
  .tail (p := (Z, oZ)) n.a2 (.tail (p := (TO, oTO)) n.a4 (.head (fun q hq => all4 (x := (CT, oC)) (y := (CT, oC)) (P := fun q => q.1 ≠ I1) n.a6.symm n.a6.symm n.a6.symm n.r3 q (.tail _ (.tail _ hq)))))
theorem ZipNd.uC (n : ZipNd Z TO I1 CT rest) : UpdF CT oC ((Z, oZ) :: (TO, oTO) :: (I1, oI) :: (CT, oC) :: rest) (fun o => (Z, oZ) :: (TO, oTO) :: (I1, oI) :: (CT, o) :: rest) :=
  .tail (p := (Z, oZ)) n.a3 (.tail (p := (TO, oTO)) n.a5 (.tail (p := (I1, oI)) n.a6 (.head n.r4)))
end
theorem nextOf_li {prog : Program} {A : Around} {LI V : Addr} {i : Nat} {vs : List Value} {v : Value} {g : Obj → List (Addr × Obj)} {k : Nat} (F : Fr h₀ L s.heap m) (N : News h₀ L s.heap news) (U : UpdF LI (liObj V i) news g)
    (hV : (V, (listOf vs.toArray k)) ∈ news) (hi : vs[i]? = some v) (h : ∀ h', Fr h₀ L h' m → News h₀ L h' (g (liObj V (i + 1))) → Q v { s with heap := h' }) :
    wpAny (model prog w) A (Builtin.SmallTypes.nextOf (.ref LI)) Q E s := by
  have hm := N _ (UpdF.mem U)
  unfold Builtin.SmallTypes.nextOf
  refine wpAny_bind (wpAny_callSpecial?_slot (name := Str.ofString "__next__") (show s.TypeIs (.ref LI) "list_iterator" from ⟨_, hm.1, rfl⟩) slot_listiter_next (listiter_item F N U hV hi fun h' F' N' => wpAny_pure (h h' F' N')))
theorem nextOf_ct {CT dct : Addr} {i : Int} {ti t1 : Tok} {g : Obj → List (Addr × Obj)} (B : Below A₀ base outer h₀) (F : Fr h₀ L s.heap m) (X : (Mine.hd.heap_1 w.params).In h₀) (T' : Top PV LO mean mg mb h₀) (N : News h₀ L s.heap news) (U : UpdF CT (ctObj dct i ti t1) news g) (md : (dct, dictOf [] 0) ∈ news)
   (hd : dp + 3 < recursionLimit) (hu : un + 24 < cLine)
   (hQ : ∀ h' tk' t', Fr h₀ L h' m → News h₀ L h' (g (ctObj dct (i + 1) t' t1)) → s.toks ≤ tk' → Q (.int i ti) { s with heap := h', toks := tk' }) :
    wpAny (model Challenge.rw_ij0174_01.row.prog w) (AT dp un gd cn nm ig ic mo L a ccd outer) (Builtin.SmallTypes.nextOf (.ref CT)) Q E s := by
  have I := InstAt.of_news N (UpdF.mem U) md
  unfold Builtin.SmallTypes.nextOf
  exact wpAny_bind (special_fn (name := "__next__") (args := []) (X.keeps F.keep) I (fi_ct_next _) (beq_iff_eq.mp (isFn_211 _)) (ct_next B F X T' N U md hd hu fun h' tk' t' F' N' ht => wpAny_pure (hQ h' tk' t' F' N' ht)))
section
variable {Z TO I1 CT TI D dct : Addr} {rest : List (Addr × Obj)} {vs : List Value} {i k : Nat} {x a' b' : Value} {tk t1 : Tok}
theorem zip_first (nd : ZipNd Z TO I1 CT rest) (mTI : (TI, tupO [.ref I1, .ref CT]) ∈ rest) (mD : (D, listOf vs.toArray k) ∈ rest) (mdc : (dct, dictOf [] 0) ∈ rest) (hi : vs[i]? = some x)
   (B : Below A₀ base outer h₀) (F : Fr h₀ L s.heap m) (X : (Mine.hd.heap_1 w.params).In h₀) (T' : Top PV LO mean mg mb h₀) (N : News h₀ L s.heap ((Z, zpObj .none false TI TO) :: (TO, tupO [a', b']) :: (I1, liObj D i) :: (CT, ctObj dct i tk t1) :: rest))
   (hd : dp + 3 < recursionLimit) (hu : un + 30 < cLine)
   (hQ : ∀ h' tk' T t', Fr h₀ L h' m → News h₀ L h' ((T, tupO [x, .int i tk]) :: (Z, zpObj (rawInt T) false TI TO) :: (TO, tupO [x, .int i tk]) :: (I1, liObj D (i + 1)) :: (CT, ctObj dct (i + 1 : Nat) t' t1) :: rest) →
     @LT.lt Nat _ Z T → @LT.lt Nat _ TO T → @LT.lt Nat _ I1 T → @LT.lt Nat _ CT T → (∀ q ∈ rest, @LT.lt Nat _ q.1 T) → s.toks ≤ tk' → Q (.ref T) { s with heap := h', toks := tk' }) :
   wpAny (model Challenge.rw_ij0174_01.row.prog w) (AT dp un gd cn nm ig ic mo L a ccd outer) (Builtin.«zip.__next__» ⟨[.ref Z], []⟩) (fun fin s' => ∃ v, fin = .done (.ret v) ∧ Q v s') E s := by
  have hz := (N _ (.head _)).1
  have hTI := (N _ (.tail _ (.tail _ (.tail _ (.tail _ mTI))))).1
  show wpAny _ _ (field (.ref Z) 2 >>= _) _ _ _
  refine wpAny_bind (wpAny_field hz rfl (x := .bool false) rfl ?_)
  show wpAny _ _ (field (.ref Z) 3 >>= _) _ _ _
  refine wpAny_bind (wpAny_field hz rfl (x := .ref TI) rfl ?_)
  refine wpAny_bind (wpAny_seqItems hTI rfl ?_)
  show wpAny _ _ (Builtin.SmallTypes.ownedTupleIsFree (.ref Z) >>= _) _ _ _
  refine wpAny_bind ?_
  unfold Builtin.SmallTypes.ownedTupleIsFree
  refine wpAny_bind (wpAny_field hz rfl (x := .none) rfl (wpAny_pure ?_))
  simp only [if_true]
  refine wpAny_bind (wpAny_rule ?_)
  refine wpAny_bind (wpAny_field hz rfl (x := .ref TO) rfl ?_)
  have u1 := upd_split (f := Obj.mapFields (·.setIfInBounds 0 Value.ellipsis)) (o' := zpObj .ellipsis false TI TO) F N nd.uZ (by simp [Obj.mapFields]) rfl
  refine wpAny_bind (wpAny_setField hz rfl (by simp) ?_)
  refine wpAny_bind ?_
  simp only [List.zipIdx_cons, List.zipIdx_nil, List.forIn_cons, List.forIn_nil]
  refine wpAny_bind (wpAny_bind (wpAny_onRaise ?_))
  show wpAny _ _ (Builtin.SmallTypes.nextOf (.ref I1) >>= _) _ _ _
  refine wpAny_bind (nextOf_li u1.1 u1.2 nd.uI (.tail _ (.tail _ (.tail _ (.tail _ mD)))) hi fun h₂ F₂ N₂ => wpAny_pure ?_)
  refine wpAny_bind (wpAny_seqItems (N₂ _ (.tail _ (.head _))).1 rfl ?_)
  have u2 := upd_split (f := Obj.mapSeq (·.setIfInBounds 0 x)) (o' := tupO [x, b']) F₂ N₂ nd.uTO (by simp [Obj.mapSeq]) rfl
  refine wpAny_bind (wpAny_updateSeq (N₂ _ (.tail _ (.head _))).1 rfl ?_)
  refine wpAny_bind (wpAny_letGo (wpAny_pure ?_))
  refine wpAny_bind (wpAny_bind (wpAny_onRaise ?_))
  show wpAny _ _ (Builtin.SmallTypes.nextOf (.ref CT) >>= _) _ _ _
  refine wpAny_bind (nextOf_ct B u2.1 X T' u2.2 nd.uC (.tail _ (.tail _ (.tail _ (.tail _ mdc)))) hd (by (first | assumption | exact omE ‹_› ‹_› | exact omN ‹_› ‹_› | exact om6 ‹_› | exact om7 ‹_› | exact om9 ‹_› ‹_› | exact om11 ‹_› rfl | exact om24 ‹_› ‹_› | exact rm2 ‹_› rfl | exact rm1 ‹_› rfl | exact Nat.le_trans ‹_› ‹_› | exact Nat.lt_of_lt_of_le ‹_› ‹_› | exact Nat.lt_of_le_of_lt ‹_› ‹_› | omega)) fun h₃ tk₃ t₃ F₃ N₃ ht₃ => wpAny_pure ?_)
  refine wpAny_bind (wpAny_seqItems (N₃ _ (.tail _ (.head _))).1 rfl ?_)
  have u3 := upd_split (f := Obj.mapSeq (·.setIfInBounds 1 (.int i tk))) (o' := tupO [x, .int i tk]) F₃ N₃ nd.uTO (by simp [Obj.mapSeq]) rfl
  refine wpAny_bind (wpAny_updateSeq (N₃ _ (.tail _ (.head _))).1 rfl ?_)
  refine wpAny_bind (wpAny_letGo (wpAny_pure (wpAny_pure ?_)))
  refine wpAny_bind (wpAny_seqItems (u3.2 _ (.tail _ (.head _))).1 rfl ?_)
  refine wpAny_bind (wpAny_newTuple ?_)
  have F₄ := u3.1.push (tupO [x, .int i tk])
  have N₄ := u3.2.push u3.1 (tupO [x, .int i tk])
  have lt4 := fun q hq => Heap.lt_size (u3.2 q hq).1
  generalize hh : (h₃.update TO (Obj.mapSeq (·.setIfInBounds 1 (.int i tk)))) = h₄ at F₄ N₄ lt4
  have lZ := lt4 _ (.head _)
  have lTO := lt4 _ (.tail _ (.head _))
  have lI := lt4 _ (.tail _ (.tail _ (.head _)))
  have lC := lt4 _ (.tail _ (.tail _ (.tail _ (.head _))))
  have lr : ∀ q ∈ rest, @LT.lt Nat _ q.1 h₄.objs.size := fun q hq => lt4 q (.tail _ (.tail _ (.tail _ (.tail _ hq))))
  have hh' : h₃.update TO (Obj.mapSeq fun xs => xs.setIfInBounds 1 (.int i tk)) = h₄ := hh
  simp only [hh']
  generalize hT : h₄.objs.size = T at *
  show wpAny _ _ (Builtin.SmallTypes.ownedTupleHandOut (.ref Z) (.ref T) >>= _) _ _ _
  refine wpAny_bind ?_
  unfold Builtin.SmallTypes.ownedTupleHandOut
  have uZ4 : ∀ {o}, UpdF Z o ((T, tupO [x, .int i tk]) :: (Z, o) :: (TO, tupO [x, .int i tk]) :: (I1, liObj D (i + 1)) :: (CT, ctObj dct (i + 1 : Nat) t₃ t1) :: rest) (fun o => (T, tupO [x, .int i tk]) :: (Z, o) :: (TO, tupO [x, .int i tk]) :: (I1, liObj D (i + 1)) :: (CT, ctObj dct (i + 1 : Nat) t₃ t1) :: rest) := .tail (p := (T, _)) (Nat.ne_of_gt lZ) nd.uZ
  have u5 := upd_split (f := Obj.mapFields (·.setIfInBounds 0 (rawInt T))) (o' := zpObj (rawInt T) false TI TO) F₄ N₄ uZ4 (by simp [Obj.mapFields]) rfl
  refine wpAny_bind (wpAny_setField (N₄ _ (.tail _ (.head _))).1 rfl (by simp) ?_)
  have u6 := upd_split (f := Obj.mapFields (·.setIfInBounds 1 (.bool false))) (o' := zpObj (rawInt T) false TI TO) u5.1 u5.2 uZ4 (by simp [Obj.mapFields]) rfl
  refine wpAny_setField (u5.2 _ (.tail _ (.head _))).1 rfl (by simp) ?_
  refine wpAny_pure ⟨_, rfl, ?_⟩
  exact hQ _ _ T _ u6.1 u6.2 lZ lTO lI lC lr ht₃
theorem zip_more {T0 : Addr} {o0 : Obj} {f1 : Bool} (nd : ZipNd Z TO I1 CT rest) (mT0 : (T0, o0) ∈ rest) (mTI : (TI, tupO [.ref I1, .ref CT]) ∈ rest) (mD : (D, listOf vs.toArray k) ∈ rest) (mdc : (dct, dictOf [] 0) ∈ rest) (hi : vs[i]? = some x)
   (B : Below A₀ base outer h₀) (F : Fr h₀ L s.heap m) (X : (Mine.hd.heap_1 w.params).In h₀) (T' : Top PV LO mean mg mb h₀) (N : News h₀ L s.heap ((Z, zpObj (rawInt T0) f1 TI TO) :: (TO, tupO [a', b']) :: (I1, liObj D i) :: (CT, ctObj dct i tk t1) :: rest))
   (hd : dp + 3 < recursionLimit) (hu : un + 30 < cLine)
   (hQ : ∀ h' tk' T t', Fr h₀ L h' m → News h₀ L h' ((T, tupO [x, .int i tk]) :: (Z, zpObj (rawInt T0) true TI TO) :: (TO, tupO [a', b']) :: (I1, liObj D (i + 1)) :: (CT, ctObj dct (i + 1 : Nat) t' t1) :: rest) →
     @LT.lt Nat _ Z T → @LT.lt Nat _ TO T → @LT.lt Nat _ I1 T → @LT.lt Nat _ CT T → (∀ q ∈ rest, @LT.lt Nat _ q.1 T) → s.toks ≤ tk' → Q (.ref T) { s with heap := h', toks := tk' }) :
   wpAny (model Challenge.rw_ij0174_01.row.prog w) (AT dp un gd cn nm ig ic mo L a ccd outer) (Builtin.«zip.__next__» ⟨[.ref Z], []⟩) (fun fin s' => ∃ v, fin = .done (.ret v) ∧ Q v s') E s := by
  have hz := (N _ (.head _)).1
  have hTI := (N _ (.tail _ (.tail _ (.tail _ (.tail _ mTI))))).1
  have hT0 := (N _ (.tail _ (.tail _ (.tail _ (.tail _ mT0))))).1
  show wpAny _ _ (field (.ref Z) 2 >>= _) _ _ _
  refine wpAny_bind (wpAny_field hz rfl (x := .bool false) rfl ?_)
  show wpAny _ _ (field (.ref Z) 3 >>= _) _ _ _
  refine wpAny_bind (wpAny_field hz rfl (x := .ref TI) rfl ?_)
  refine wpAny_bind (wpAny_seqItems hTI rfl ?_)
  show wpAny _ _ (Builtin.SmallTypes.ownedTupleIsFree (.ref Z) >>= _) _ _ _
  refine wpAny_bind ?_
  unfold Builtin.SmallTypes.ownedTupleIsFree
  refine wpAny_bind (wpAny_field hz rfl (x := rawInt T0) rfl ?_)
  show wpAny _ _ (loadIfAlive ((T0 : Int).toNat) >>= _) _ _ _
  rw [Int.toNat_natCast]
  refine wpAny_bind (kdx_alive hT0 ?_)
  simp only [Option.isNone_some, Bool.false_eq_true, if_false]
  refine wpAny_bind (wpAny_field hz rfl (x := .bool f1) rfl ?_)
  cases f1 with
  | true =>
    rw [if_neg (show ¬ ((Value.bool true != Value.bool true) = true) from Bool.false_ne_true)]
    refine wpAny_pure ?_
    simp only [Bool.false_eq_true, if_false, ← Array.forIn_toList, List.forIn_cons, List.forIn_nil]
    refine wpAny_bind ?_
    refine wpAny_bind (wpAny_bind (wpAny_holding ?_))
    show wpAny _ _ (Builtin.SmallTypes.nextOf (.ref I1) >>= _) _ _ _
    refine wpAny_bind (nextOf_li F N nd.uI (.tail _ (.tail _ (.tail _ (.tail _ mD)))) hi fun h₂ F₂ N₂ => wpAny_pure (wpAny_pure ?_))
    refine wpAny_bind (wpAny_bind (wpAny_holding ?_))
    show wpAny _ _ (Builtin.SmallTypes.nextOf (.ref CT) >>= _) _ _ _
    refine wpAny_bind (nextOf_ct B F₂ X T' N₂ nd.uC (.tail _ (.tail _ (.tail _ (.tail _ mdc)))) hd (by (first | assumption | exact omE ‹_› ‹_› | exact omN ‹_› ‹_› | exact om6 ‹_› | exact om7 ‹_› | exact om9 ‹_› ‹_› | exact om11 ‹_› rfl | exact om24 ‹_› ‹_› | exact rm2 ‹_› rfl | exact rm1 ‹_› rfl | exact Nat.le_trans ‹_› ‹_› | exact Nat.lt_of_lt_of_le ‹_› ‹_› | exact Nat.lt_of_le_of_lt ‹_› ‹_› | omega)) fun h₃ tk₃ t₃ F₃ N₃ ht₃ => wpAny_pure (wpAny_pure (wpAny_pure ?_)))
    refine wpAny_bind (wpAny_newTuple ?_ (by show (2 : Nat) ≤ sizeLine; rw [sizeLine_eq]; decide))
    have lt4 := fun q hq => Heap.lt_size (N₃ q hq).1
    refine wpAny_pure ⟨_, rfl, ?_⟩
    exact hQ _ _ _ _ (F₃.push _) (N₃.push F₃ (tupO [x, .int i tk])) (lt4 _ (.head _)) (lt4 _ (.tail _ (.head _))) (lt4 _ (.tail _ (.tail _ (.head _)))) (lt4 _ (.tail _ (.tail _ (.tail _ (.head _))))) (fun q hq => lt4 q (.tail _ (.tail _ (.tail _ (.tail _ hq))))) ht₃
  | false =>
    rw [if_pos (show (Value.bool false != Value.bool true) = true from rfl)]
    have u1 := upd_split (f := Obj.mapFields (·.setIfInBounds 1 (.bool true))) (o' := zpObj (rawInt T0) true TI TO) F N nd.uZ (by simp [Obj.mapFields]) rfl
    refine wpAny_bind (wpAny_setField hz rfl (by simp) ?_)
    refine wpAny_pure ?_
    simp only [Bool.false_eq_true, if_false, ← Array.forIn_toList, List.forIn_cons, List.forIn_nil]
    refine wpAny_bind ?_
    refine wpAny_bind (wpAny_bind (wpAny_holding ?_))
    show wpAny _ _ (Builtin.SmallTypes.nextOf (.ref I1) >>= _) _ _ _
    refine wpAny_bind (nextOf_li u1.1 u1.2 nd.uI (.tail _ (.tail _ (.tail _ (.tail _ mD)))) hi fun h₂ F₂ N₂ => wpAny_pure (wpAny_pure ?_))
    refine wpAny_bind (wpAny_bind (wpAny_holding ?_))
    show wpAny _ _ (Builtin.SmallTypes.nextOf (.ref CT) >>= _) _ _ _
    refine wpAny_bind (nextOf_ct B F₂ X T' N₂ nd.uC (.tail _ (.tail _ (.tail _ (.tail _ mdc)))) hd (by (first | assumption | exact omE ‹_› ‹_› | exact omN ‹_› ‹_› | exact om6 ‹_› | exact om7 ‹_› | exact om9 ‹_› ‹_› | exact om11 ‹_› rfl | exact om24 ‹_› ‹_› | exact rm2 ‹_› rfl | exact rm1 ‹_› rfl | exact Nat.le_trans ‹_› ‹_› | exact Nat.lt_of_lt_of_le ‹_› ‹_› | exact Nat.lt_of_le_of_lt ‹_› ‹_› | omega)) fun h₃ tk₃ t₃ F₃ N₃ ht₃ => wpAny_pure (wpAny_pure (wpAny_pure ?_)))
    refine wpAny_bind (wpAny_newTuple ?_ (by show (2 : Nat) ≤ sizeLine; rw [sizeLine_eq]; decide))
    have lt4 := fun q hq => Heap.lt_size (N₃ q hq).1
    refine wpAny_pure ⟨_, rfl, ?_⟩
    exact hQ _ _ _ _ (F₃.push _) (N₃.push F₃ (tupO [x, .int i tk])) (lt4 _ (.head _)) (lt4 _ (.tail _ (.head _))) (lt4 _ (.tail _ (.tail _ (.head _)))) (lt4 _ (.tail _ (.tail _ (.tail _ (.head _))))) (fun q hq => lt4 q (.tail _ (.tail _ (.tail _ (.tail _ hq))))) ht₃
theorem zip_end {T0 : Addr} {o0 : Obj} {f1 : Bool} (nd : ZipNd Z TO I1 CT rest) (mT0 : (T0, o0) ∈ rest) (mTI : (TI, tupO [.ref I1, .ref CT]) ∈ rest) (mD : (D, listOf vs.toArray k) ∈ rest) (hi : vs[i]? = none)
   (F : Fr h₀ L s.heap m) (N : News h₀ L s.heap ((Z, zpObj (rawInt T0) f1 TI TO) :: (TO, tupO [a', b']) :: (I1, liObj D i) :: (CT, ctObj dct i tk t1) :: rest))
   {Q : PySem.Fin → Shared → Prop}
   (hE : ∀ h' e, Fr h₀ L h' m → News h₀ L h' rest → (∃ o, h'.get? e = some o ∧ o.cls = .type "StopIteration") → E (.ref e) { s with heap := h' }) :
   wpAny (model Challenge.rw_ij0174_01.row.prog w) (AT dp un gd cn nm ig ic mo L a ccd outer) (Builtin.«zip.__next__» ⟨[.ref Z], []⟩) Q E s := by
  have hz := (N _ (.head _)).1
  have hTI := (N _ (.tail _ (.tail _ (.tail _ (.tail _ mTI))))).1
  have hT0 := (N _ (.tail _ (.tail _ (.tail _ (.tail _ mT0))))).1
  show wpAny _ _ (field (.ref Z) 2 >>= _) _ _ _
  refine wpAny_bind (wpAny_field hz rfl (x := .bool false) rfl ?_)
  show wpAny _ _ (field (.ref Z) 3 >>= _) _ _ _
  refine wpAny_bind (wpAny_field hz rfl (x := .ref TI) rfl ?_)
  refine wpAny_bind (wpAny_seqItems hTI rfl ?_)
  show wpAny _ _ (Builtin.SmallTypes.ownedTupleIsFree (.ref Z) >>= _) _ _ _
  refine wpAny_bind ?_
  unfold Builtin.SmallTypes.ownedTupleIsFree
  refine wpAny_bind (wpAny_field hz rfl (x := rawInt T0) rfl ?_)
  show wpAny _ _ (loadIfAlive ((T0 : Int).toNat) >>= _) _ _ _
  rw [Int.toNat_natCast]
  refine wpAny_bind (kdx_alive hT0 ?_)
  simp only [Option.isNone_some, Bool.false_eq_true, if_false]
  refine wpAny_bind (wpAny_field hz rfl (x := .bool f1) rfl ?_)
  have key : ∀ {g : Obj → List (Addr × Obj)} {nw : List (Addr × Obj)} (h₁ : Heap) {Q : Value → Shared → Prop}, Fr h₀ L h₁ m → News h₀ L h₁ nw → UpdF I1 (liObj D i) nw g → (D, listOf vs.toArray k) ∈ nw → (∀ q ∈ rest, q ∈ g (liDead i)) →
      wpAny (model Challenge.rw_ij0174_01.row.prog w) (AT dp un gd cn nm ig ic mo L a ccd outer) (Builtin.SmallTypes.nextOf (.ref I1)) Q E { s with heap := h₁ } := by
    intro g nw h₁ Q F₁ N₁ U₁ m₁ k₁
    have hm := N₁ _ (UpdF.mem U₁)
    unfold Builtin.SmallTypes.nextOf
    refine wpAny_bind (wpAny_callSpecial?_slot (name := Str.ofString "__next__") (show Shared.TypeIs _ (.ref I1) "list_iterator" from ⟨_, hm.1, rfl⟩) slot_listiter_next (listiter_end rfl F₁ N₁ U₁ m₁ hi fun h₂ h' e F₂ N₂ X₂ => ?_))
    obtain ⟨ob, tp, he, hc, _⟩ := X₂.there
    exact hE h' e (F₂.keeps X₂.keeps) (fun q hq => ⟨X₂.keeps _ _ (N₂ q (k₁ q hq)).1, (N₂ q (k₁ q hq)).2⟩) ⟨ob, he, hc⟩
  cases f1 with
  | true =>
    rw [if_neg (show ¬ ((Value.bool true != Value.bool true) = true) from Bool.false_ne_true)]
    refine wpAny_pure ?_
    simp only [Bool.false_eq_true, if_false, ← Array.forIn_toList, List.forIn_cons, List.forIn_nil]
    refine wpAny_bind ?_
    refine wpAny_bind (wpAny_bind (wpAny_holding ?_))
    show wpAny _ _ (Builtin.SmallTypes.nextOf (.ref I1) >>= _) _ _ _
    exact wpAny_bind (key _ F N nd.uI (.tail _ (.tail _ (.tail _ (.tail _ mD)))) fun q hq => .tail _ (.tail _ (.tail _ (.tail _ hq))))
  | false =>
    rw [if_pos (show (Value.bool false != Value.bool true) = true from rfl)]
    have u1 := upd_split (f := Obj.mapFields (·.setIfInBounds 1 (.bool true))) (o' := zpObj (rawInt T0) true TI TO) F N nd.uZ (by simp [Obj.mapFields]) rfl
    refine wpAny_bind (wpAny_setField hz rfl (by simp) ?_)
    refine wpAny_pure ?_
    simp only [Bool.false_eq_true, if_false, ← Array.forIn_toList, List.forIn_cons, List.forIn_nil]
    refine wpAny_bind ?_
    refine wpAny_bind (wpAny_bind (wpAny_holding ?_))
    show wpAny _ _ (Builtin.SmallTypes.nextOf (.ref I1) >>= _) _ _ _
    exact wpAny_bind (key _ u1.1 u1.2 nd.uI (.tail _ (.tail _ (.tail _ (.tail _ mD)))) fun q hq => .tail _ (.tail _ (.tail _ (.tail _ hq))))
end
end
end Mine
end
-- WZip2
section
namespace Mine
theorem rstWZip2 : True := by (w_top off); trivial
section
variable {w : World} {mean : ExcName → Option Value} {mg mb : Str → Option Value}
   {dp un : Nat} {gd : Option (List Code)} {cn : Str} {nm : List (Str × NameKind)} {ig ic : Bool} {mo : List (Str × Const)} {a : Addr} {ccd : Value} {outer : List Env} {A₀ : Around} {base h₀ : Heap} {L : Addr} {m : Str → Option Value} {s : Shared} {Q E : Value → Shared → Prop} {news : List (Addr × Obj)}
theorem plain_zip_new : plainId "zip.__new__" = true := by decide +kernel
theorem isType_zip : isType (.type "zip") = pure true := by first | rfl | kernel_rfl | (unfold isType; rw [isSubtype_type]; kernel_rfl)
theorem code_zip_new {D CT dct : Addr} {vs : List Value} {k : Nat} {i : Int} {ti t1 : Tok} {Q₁ : Value → Shared → Prop} (B : Below A₀ base outer h₀) (F : Fr h₀ L s.heap m) (X : (Mine.hd.heap_1 w.params).In h₀) (T' : Top PV LO mean mg mb h₀) (N : News h₀ L s.heap news) (mD : (D, listOf vs.toArray k) ∈ news) (mC : (CT, ctObj dct i ti t1) ∈ news) (md : (dct, dictOf [] 0) ∈ news)
   (hd : dp + 3 < recursionLimit) (hu : un + 30 < cLine)
   (h : ∀ h' tk' I1 TI TO Z, Fr h₀ L h' m → News h₀ L h' ((Z, zpObj .none false TI TO) :: (TO, tupO [.none, .none]) :: (TI, tupO [.ref I1, .ref CT]) :: (I1, liObj D 0) :: news) → (∀ q ∈ news, @LT.lt Nat _ q.1 I1) → @LT.lt Nat _ I1 TI → @LT.lt Nat _ TI TO → @LT.lt Nat _ TO Z → s.toks ≤ tk' → Q₁ (.ref Z) { s with heap := h', toks := tk' }) :
   codeAny (model Challenge.rw_ij0174_01.row.prog w) (AT dp un gd cn nm ig ic mo L a ccd outer) (.call (.builtin "zip.__new__") ⟨[.type "zip", .ref D, .ref CT], []⟩) (wants Q₁ E) s := by
  refine codeAny_of_tree ?_
  show wpAny _ _ (do checkBuiltinCall "zip.__new__" ⟨[.type "zip", .ref D, .ref CT], []⟩; again (.builtin "zip.__new__" ⟨[.type "zip", .ref D, .ref CT], []⟩)) _ _ s
  refine wpAny_bind (wpAny_of_eq (PySem.F.newCall_zip_2 _ _) (wpAny_pure ⟨plainId_quiet plain_zip_new _, codeAny_builtin PySem.F.entry_zip_new ?_⟩))
  rw [Around.under_plainId plain_zip_new _]
  have hsub := sub_zip
  have hty := isType_zip
  unfold Builtin.«zip.__new__»
  refine wpAny_bind ?_
  unfold Builtin.SmallTypes.newClass
  dsimp only
  rw [hty, hsub]
  simp only [pure_bind]
  simp only [Bool.not_true, Bool.false_eq_true, if_false]
  refine wpAny_pure ?_
  rw [if_neg (by simp)]
  dsimp only
  refine wpAny_bind ?_
  unfold Builtin.SmallTypes.iterAll
  simp only [List.forIn_cons, List.forIn_nil]
  refine wpAny_bind ?_
  refine wpAny_bind (wpAny_bind (wpAny_holding ?_))
  refine wpAny_pyIter_list (show s.heap.IsList D vs.toArray from ⟨_, (N _ mD).1, rfl, k, rfl⟩) ?_
  have F₁ := F.push { cls := .type "list_iterator", data := .fields #[.ref D, .int 0 0] }
  have N₁ := N.push F { cls := .type "list_iterator", data := .fields #[.ref D, .int 0 0] }
  have lt1 : ∀ q ∈ news, @LT.lt Nat _ q.1 s.heap.objs.size := fun q hq => Heap.lt_size (N q hq).1
  refine wpAny_pure ?_
  dsimp only
  have I' := InstAt.of_news N₁ (.tail _ mC) (.tail _ md)
  refine wpAny_bind (wpAny_bind (wpAny_holding (owit_iter F₁ X I' (fi_ct_iter _) (isFn_204 _) (ct_iter (un := un + 1) B F₁ X T' N₁ (.tail _ mC) (.tail _ md) hd (by (first | assumption | exact omE ‹_› ‹_› | exact omN ‹_› ‹_› | exact om6 ‹_› | exact om7 ‹_› | exact om9 ‹_› ‹_› | exact om11 ‹_› rfl | exact om24 ‹_› ‹_› | exact rm2 ‹_› rfl | exact rm1 ‹_› rfl | exact Nat.le_trans ‹_› ‹_› | exact Nat.lt_of_lt_of_le ‹_› ‹_› | exact Nat.lt_of_le_of_lt ‹_› ‹_› | omega)) fun h₂ tk₂ F₂ N₂ ht₂ => ?_))))
  refine owit_it F₂ X (InstAt.of_news N₂ (.tail _ mC) (.tail _ md)) (fi_ct_next _) ?_
  refine wpAny_pure (wpAny_pure (wpAny_pure ?_))
  refine wpAny_bind (wpAny_newTuple ?_ (by show (2 : Nat) ≤ sizeLine; rw [sizeLine_eq]; decide))
  refine wpAny_bind (wpAny_newTuple ?_ (by show (2 : Nat) ≤ sizeLine; rw [sizeLine_eq]; decide))
  have l2 := fun q hq => Heap.lt_size (N₂ q hq).1
  generalize hI1 : s.heap.objs.size = I1 at *
  have F₃ := F₂.push (tupO [.ref I1, .ref CT])
  have N₃ := N₂.push F₂ (tupO [.ref I1, .ref CT])
  have F₄ := F₃.push (tupO [.none, .none])
  have N₄ := N₃.push F₃ (tupO [.none, .none])
  have l4 := fun q hq => Heap.lt_size (N₄ q hq).1
  unfold Builtin.SmallTypes.newRecord
  dsimp only
  refine wpAny_bind (wpAny_newObj_type ?_ (by simp [sizeOk, Builtin.SmallTypes.ownedTupleFields, sizeLine_eq]))
  refine wpAny_pure ?_
  have l3 := fun q hq => Heap.lt_size (N₃ q hq).1
  exact h _ _ I1 _ _ _ (F₄.push _) (news_drop (N₄.push F₄ (zpObj .none false _ _)) fun q hq => by
      rcases List.mem_cons.mp hq with rfl | hq
      · exact .head _
      · exact .tail _ hq) lt1 (l2 _ (.head _)) (l3 _ (.head _)) (l4 _ (.head _)) ht₂
theorem call_zip {D CT dct : Addr} {vs : List Value} {k : Nat} {i : Int} {ti t1 : Tok} (B : Below A₀ base outer h₀) (F : Fr h₀ L s.heap m) (X : (Mine.hd.heap_1 w.params).In h₀) (T' : Top PV LO mean mg mb h₀) (N : News h₀ L s.heap news) (mD : (D, listOf vs.toArray k) ∈ news) (mC : (CT, ctObj dct i ti t1) ∈ news) (md : (dct, dictOf [] 0) ∈ news)
   (hd : dp + 3 < recursionLimit) (hu : un + 40 < cLine)
   (h : ∀ h' tk' I1 TI TO Z, Fr h₀ L h' m → News h₀ L h' ((Z, zpObj .none false TI TO) :: (TO, tupO [.none, .none]) :: (TI, tupO [.ref I1, .ref CT]) :: (I1, liObj D 0) :: news) → (∀ q ∈ news, @LT.lt Nat _ q.1 I1) → @LT.lt Nat _ I1 TI → @LT.lt Nat _ TI TO → @LT.lt Nat _ TO Z → s.toks ≤ tk' → Q (.ref Z) { s with heap := h', toks := tk' }) :
   wpAny (model Challenge.rw_ij0174_01.row.prog w) (AT dp un gd cn nm ig ic mo L a ccd outer) (call (.type "zip") [.ref D, .ref CT]) Q E s := by
  refine callType_codes (Q₁ := fun obj s₁ => s₁.TypeIs obj "zip" ∧ Q obj s₁) PySem.F.called_zip (PySem.F.typeCall_zip_2 _ _) PySem.F.entry_object_init
    (code_zip_new (un := un + 1) B F X T' N mD mC md hd (by (first | assumption | exact omE ‹_› ‹_› | exact omN ‹_› ‹_› | exact om6 ‹_› | exact om7 ‹_› | exact om9 ‹_› ‹_› | exact om11 ‹_› rfl | exact om24 ‹_› ‹_› | exact rm2 ‹_› rfl | exact rm1 ‹_› rfl | exact Nat.le_trans ‹_› ‹_› | exact Nat.lt_of_lt_of_le ‹_› ‹_› | exact Nat.lt_of_le_of_lt ‹_› ‹_› | omega)) fun h' tk' I1 TI TO Z F' N' l1 l2 l3 l4 ht => ⟨⟨_, (N' _ (.head _)).1, rfl⟩, h h' tk' I1 TI TO Z F' N' l1 l2 l3 l4 ht⟩) fun obj s₁ hq => ?_
  refine ⟨hq.1, PySem.F.args_object_init_3 obj _ _, ?_⟩
  exact object_init_meets PySem.F.called_zip.init.lookup PySem.F.called_zip.made (by decide) _ _ _ _ _ ⟨hq.1, rfl, hq.2⟩
end
end Mine
end
-- WZip3
section
namespace Mine
theorem rstWZip3 : True := by (w_top off); trivial
section
variable {w : World} {mean : ExcName → Option Value} {mg mb : Str → Option Value}
   {dp un : Nat} {gd : Option (List Code)} {cn : Str} {nm : List (Str × NameKind)} {ig ic : Bool} {mo : List (Str × Const)} {a : Addr} {ccd : Value} {outer : List Env} {A₀ : Around} {base h₀ : Heap} {L : Addr} {m : Str → Option Value} {s : Shared} {Q E : Value → Shared → Prop} {news : List (Addr × Obj)}
noncomputable abbrev keyTup (key : Nat → Key × Tok) (j : Nat) (p : Addr × Tok) : Addr × Obj := (p.1, tupO [(key j).1.val (key j).2, .int j p.2])
noncomputable abbrev tups (key : Nat → Key × Tok) (ts : List (Addr × Tok)) : List (Addr × Obj) := ts.mapIdx (keyTup key)
noncomputable abbrev zf0 : List (Addr × Tok) → Value
  | [] => .none
  | p :: _ => rawInt p.1
theorem tups_head (key : Nat → Key × Tok) (p : Addr × Tok) (ts : List (Addr × Tok)) : keyTup key 0 p ∈ tups key (p :: ts) := by
  unfold tups; rw [List.mapIdx_cons]; exact .head _
theorem mem_app3 {α : Type} {q x : α} {a b : List α} (h : q ∈ a ++ [x] ++ b) : q = x ∨ q ∈ a ++ b := by
  rcases List.mem_append.mp h with h | h
  · rcases List.mem_append.mp h with h | h
    · exact .inr (List.mem_append_left _ h)
    · exact .inl (List.mem_singleton.mp h)
  · exact .inr (List.mem_append_right _ h)
section
variable {Z TO I1 CT TI D dct S : Addr} {rest : List (Addr × Obj)} {key : Nat → Key × Tok} {n k : Nat} {t1 : Tok} {res : Value}
theorem zl_loop (hn : n < 64) (mTI : (TI, tupO [.ref I1, .ref CT]) ∈ rest) (mD : (D, listOf ((List.range n).map fun j => (key j).1.val (key j).2).toArray k) ∈ rest) (mdc : (dct, dictOf [] 0) ∈ rest) (h0 : 0 < n)
   (s1 : S ≠ Z) (s2 : S ≠ TO) (s3 : S ≠ I1) (s4 : S ≠ CT)
   (hd : dp + 3 < recursionLimit) (hu : un + 40 < cLine) {R : Result → Shared → Prop} :
   ∀ (r : Nat) (ts : List (Addr × Tok)) (c : Nat) (f1 : Bool) (a' b' : Value) (tk : Tok) (s : Shared), n - ts.length = r → ts.length ≤ n → (ts = [] → f1 = false) → ZipNd Z TO I1 CT (tups key ts ++ rest) → (∀ q ∈ tups key ts ++ rest, q.1 ≠ S) →
    Below A₀ base outer h₀ → Fr h₀ L s.heap m → (Mine.hd.heap_1 w.params).In h₀ → Top PV LO mean mg mb h₀ → News h₀ L s.heap ((Z, zpObj (zf0 ts) f1 TI TO) :: (TO, tupO [a', b']) :: (I1, liObj D ts.length) :: (CT, ctObj dct ts.length tk t1) :: (S, listOf (ts.map fun p => Value.ref p.1).toArray c) :: (tups key ts ++ rest)) →
    (∀ ts' c' h' tk', ts'.length = n → Fr h₀ L h' m → News h₀ L h' ((S, listOf (ts'.map fun p => Value.ref p.1).toArray c') :: (tups key ts' ++ rest)) → s.toks ≤ tk' → R (.ok (.ret res)) { s with heap := h', toks := tk' }) →
    codeAny (model Challenge.rw_ij0174_01.row.prog w) (AT dp un gd cn nm ig ic mo L a ccd outer) (.builtin "list.extend.loop" ⟨[.ref S, .ref Z, res], []⟩) R s := by
  intro r
  induction r with
  | zero =>
    intro ts c f1 a' b' tk s hr hle hf nd hS3 B F X T' N hQ
    have hlen : ts.length = n := by (first | assumption | exact omE ‹_› ‹_› | exact omN ‹_› ‹_› | exact om6 ‹_› | exact om7 ‹_› | exact om9 ‹_› ‹_› | exact om11 ‹_› rfl | exact om24 ‹_› ‹_› | exact rm2 ‹_› rfl | exact rm1 ‹_› rfl | exact Nat.le_trans ‹_› ‹_› | exact Nat.lt_of_lt_of_le ‹_› ‹_› | exact Nat.lt_of_le_of_lt ‹_› ‹_› | omega)
    have nd' : ZipNd Z TO I1 CT ((S, listOf (ts.map fun p => Value.ref p.1).toArray c) :: (tups key ts ++ rest)) :=
      ⟨nd.a1, nd.a2, nd.a3, nd.a4, nd.a5, nd.a6, List.forall_mem_cons.mpr ⟨s1, nd.r1⟩, List.forall_mem_cons.mpr ⟨s2, nd.r2⟩, List.forall_mem_cons.mpr ⟨s3, nd.r3⟩, List.forall_mem_cons.mpr ⟨s4, nd.r4⟩⟩
    refine codeAny_builtin PySem.F.entry_extend_loop ?_
    rw [Around.under_plainId PySem.F.plain_extend_loop _]
    show wpAny _ (AT dp (un + 1) gd cn nm ig ic mo L a ccd outer) (pyNext (.ref Z) >>= _) _ _ s
    have hT : s.TypeIs (.ref Z) "zip" := ⟨_, (N _ (.head _)).1, rfl⟩
    refine wpAny_bind ?_
    unfold pyNext
    cases ts with
    | nil => simp at hlen; (first | assumption | exact omE ‹_› ‹_› | exact omN ‹_› ‹_› | exact om6 ‹_› | exact om7 ‹_› | exact om9 ‹_› ‹_› | exact om11 ‹_› rfl | exact om24 ‹_› ‹_› | exact rm2 ‹_› rfl | exact rm1 ‹_› rfl | exact Nat.le_trans ‹_› ‹_› | exact Nat.lt_of_lt_of_le ‹_› ‹_› | exact Nat.lt_of_le_of_lt ‹_› ‹_› | omega)
    | cons p ts' =>
      refine wpAny_bind (wpAny_attempt (wpAny_callSpecial?_slot (name := Str.ofString "__next__") hT PySem.F.slot_zip_next
        (wpAny_call_entry PySem.F.slot_zip_next hT PySem.F.entry_zip_next (zip_end (un := un + 1 + 1) nd' (.tail _ (List.mem_append_left _ (tups_head key p ts'))) (.tail _ (List.mem_append_right _ mTI)) (.tail _ (List.mem_append_right _ mD)) (by simp at hlen ⊢; (first | assumption | exact omE ‹_› ‹_› | exact omN ‹_› ‹_› | exact om6 ‹_› | exact om7 ‹_› | exact om9 ‹_› ‹_› | exact om11 ‹_› rfl | exact om24 ‹_› ‹_› | exact rm2 ‹_› rfl | exact rm1 ‹_› rfl | exact Nat.le_trans ‹_› ‹_› | exact Nat.lt_of_lt_of_le ‹_› ‹_› | exact Nat.lt_of_le_of_lt ‹_› ‹_› | omega)) F N fun h' e F' N' he => ?_) (PySem.F.args_zip_next_1 _))))
      obtain ⟨o, ho, hc⟩ := he
      refine wpAny_bind (wpAny_isInstance (T := "StopIteration") (b := true) ⟨o, ho, hc⟩ stop_sub ?_)
      refine wpAny_pure (wpAny_pure (hQ _ _ _ _ hlen F' N' (Nat.le_refl _)))
  | succ r ih =>
    intro ts c f1 a' b' tk s hr hle hf nd hS3 B F X T' N hQ
    have hlt : ts.length < n := by (first | assumption | exact omE ‹_› ‹_› | exact omN ‹_› ‹_› | exact om6 ‹_› | exact om7 ‹_› | exact om9 ‹_› ‹_› | exact om11 ‹_› rfl | exact om24 ‹_› ‹_› | exact rm2 ‹_› rfl | exact rm1 ‹_› rfl | exact Nat.le_trans ‹_› ‹_› | exact Nat.lt_of_lt_of_le ‹_› ‹_› | exact Nat.lt_of_le_of_lt ‹_› ‹_› | omega)
    have nd' : ZipNd Z TO I1 CT ((S, listOf (ts.map fun p => Value.ref p.1).toArray c) :: (tups key ts ++ rest)) :=
      ⟨nd.a1, nd.a2, nd.a3, nd.a4, nd.a5, nd.a6, List.forall_mem_cons.mpr ⟨s1, nd.r1⟩, List.forall_mem_cons.mpr ⟨s2, nd.r2⟩, List.forall_mem_cons.mpr ⟨s3, nd.r3⟩, List.forall_mem_cons.mpr ⟨s4, nd.r4⟩⟩
    refine codeAny_builtin PySem.F.entry_extend_loop ?_
    rw [Around.under_plainId PySem.F.plain_extend_loop _]
    show wpAny _ (AT dp (un + 1) gd cn nm ig ic mo L a ccd outer) (pyNext (.ref Z) >>= _) _ _ s
    have hT : s.TypeIs (.ref Z) "zip" := ⟨_, (N _ (.head _)).1, rfl⟩
    refine wpAny_bind ?_
    unfold pyNext
    refine wpAny_bind (wpAny_attempt (wpAny_callSpecial?_slot (name := Str.ofString "__next__") hT PySem.F.slot_zip_next
        (wpAny_call_entry PySem.F.slot_zip_next hT PySem.F.entry_zip_next ?_ (PySem.F.args_zip_next_1 _))))
    have hget : ((List.range n).map fun j => (key j).1.val (key j).2)[ts.length]? = some ((key ts.length).1.val (key ts.length).2) := by simp [hlt]
    -- after one item: lay it into S and go on
    have go : ∀ (T : Addr) (t' : Tok) (h₁ : Heap) (tk₁ : Nat) (f1' : Bool) (a₁ b₁ : Value), Fr h₀ L h₁ m →
        News h₀ L h₁ ((T, tupO [(key ts.length).1.val (key ts.length).2, .int ts.length tk]) :: (Z, zpObj (zf0 (ts ++ [(T, tk)])) f1' TI TO) :: (TO, tupO [a₁, b₁]) :: (I1, liObj D (ts.length + 1)) :: (CT, ctObj dct (ts.length + 1 : Nat) t' t1) :: (S, listOf (ts.map fun p => Value.ref p.1).toArray c) :: (tups key ts ++ rest)) →
        @LT.lt Nat _ Z T → @LT.lt Nat _ TO T → @LT.lt Nat _ I1 T → @LT.lt Nat _ CT T → (∀ q ∈ (S, listOf (ts.map fun p => Value.ref p.1).toArray c) :: (tups key ts ++ rest), @LT.lt Nat _ q.1 T) → s.toks ≤ tk₁ →
        wpAny (model Challenge.rw_ij0174_01.row.prog w) (AT dp (un + 1) gd cn nm ig ic mo L a ccd outer) (updateSeq S (·.push (.ref T)) >>= fun _ => again (.builtin "list.extend.loop" ⟨[.ref S, .ref Z, res], []⟩))
          (fun fin s' => match fin with | .done f => R (.ok f) s' | .again c' => c'.quiet = true ∧ codeAny (model Challenge.rw_ij0174_01.row.prog w) (AT dp un gd cn nm ig ic mo L a ccd outer) c' R s') (fun e s' => R (.error e) s') { s with heap := h₁, toks := tk₁ } := by
      intro T t' h₁ tk₁ f1' a₁ b₁ F₁ N₁ lZ lTO lI lC lr ht₁
      have lS := lr _ (.head _)
      have N₂ : News h₀ L h₁ ((S, listOf (ts.map fun p => Value.ref p.1).toArray c) :: (T, tupO [(key ts.length).1.val (key ts.length).2, .int ts.length tk]) :: (Z, zpObj (zf0 (ts ++ [(T, tk)])) f1' TI TO) :: (TO, tupO [a₁, b₁]) :: (I1, liObj D (ts.length + 1)) :: (CT, ctObj dct (ts.length + 1 : Nat) t' t1) :: (tups key ts ++ rest)) :=
        news_drop N₁ fun q hq => mem_rot [_, _, _, _, _] [_] hq
      have u := upd_split (f := Obj.mapSeq (·.push (.ref T))) (o' := listOf ((ts ++ [(T, tk)]).map fun p => Value.ref p.1).toArray (c + 1)) F₁ N₂ (.head (List.forall_mem_cons.mpr ⟨Nat.ne_of_gt lS, all4 (P := fun q => q.1 ≠ S) s1.symm s2.symm s3.symm (List.forall_mem_cons.mpr ⟨s4.symm, hS3⟩)⟩)) (by simp [Obj.mapSeq]) rfl
      refine wpAny_bind (wpAny_updateSeq (N₂ _ (.head _)).1 rfl ?_ (by simp; have := sizeLine_eq; (first | assumption | exact omE ‹_› ‹_› | exact omN ‹_› ‹_› | exact om6 ‹_› | exact om7 ‹_› | exact om9 ‹_› ‹_› | exact om11 ‹_› rfl | exact om24 ‹_› ‹_› | exact rm2 ‹_› rfl | exact rm1 ‹_› rfl | exact Nat.le_trans ‹_› ‹_› | exact Nat.lt_of_lt_of_le ‹_› ‹_› | exact Nat.lt_of_le_of_lt ‹_› ‹_› | omega)) (by simp; have := sizeLine_eq; (first | assumption | exact omE ‹_› ‹_› | exact omN ‹_› ‹_› | exact om6 ‹_› | exact om7 ‹_› | exact om9 ‹_› ‹_› | exact om11 ‹_› rfl | exact om24 ‹_› ‹_› | exact rm2 ‹_› rfl | exact rm1 ‹_› rfl | exact Nat.le_trans ‹_› ‹_› | exact Nat.lt_of_lt_of_le ‹_› ‹_› | exact Nat.lt_of_le_of_lt ‹_› ‹_› | omega)))
      have lr' : ∀ q ∈ tups key ts ++ rest, @LT.lt Nat _ q.1 T := fun q hq => lr q (.tail _ hq)
      have etl : tups key (ts ++ [(T, tk)]) = tups key ts ++ [keyTup key ts.length (T, tk)] := by simp [tups, List.mapIdx_append]
      have mm : ∀ q ∈ tups key (ts ++ [(T, tk)]) ++ rest, q = keyTup key ts.length (T, tk) ∨ q ∈ tups key ts ++ rest := fun q hq => mem_app3 (by rw [etl] at hq; exact hq)
      have fa : ∀ {x : Addr}, x ≠ T → (∀ q ∈ tups key ts ++ rest, q.1 ≠ x) → ∀ q ∈ tups key (ts ++ [(T, tk)]) ++ rest, q.1 ≠ x := fun {x} hx hr q hq => by
        rcases mm q hq with rfl | hq
        · exact hx.symm
        · exact hr q hq
      refine wpAny_pure ⟨plainId_quiet PySem.F.plain_extend_loop _, ih (ts ++ [(T, tk)]) (c + 1) f1' a₁ b₁ t' _ (by simp; (first | assumption | exact omE ‹_› ‹_› | exact omN ‹_› ‹_› | exact om6 ‹_› | exact om7 ‹_› | exact om9 ‹_› ‹_› | exact om11 ‹_› rfl | exact om24 ‹_› ‹_› | exact rm2 ‹_› rfl | exact rm1 ‹_› rfl | exact Nat.le_trans ‹_› ‹_› | exact Nat.lt_of_lt_of_le ‹_› ‹_› | exact Nat.lt_of_le_of_lt ‹_› ‹_› | omega)) (by simp; (first | assumption | exact omE ‹_› ‹_› | exact omN ‹_› ‹_› | exact om6 ‹_› | exact om7 ‹_› | exact om9 ‹_› ‹_› | exact om11 ‹_› rfl | exact om24 ‹_› ‹_› | exact rm2 ‹_› rfl | exact rm1 ‹_› rfl | exact Nat.le_trans ‹_› ‹_› | exact Nat.lt_of_lt_of_le ‹_› ‹_› | exact Nat.lt_of_le_of_lt ‹_› ‹_› | omega)) (by simp)
        ⟨nd.a1, nd.a2, nd.a3, nd.a4, nd.a5, nd.a6, fa (Nat.ne_of_lt lZ) nd.r1, fa (Nat.ne_of_lt lTO) nd.r2, fa (Nat.ne_of_lt lI) nd.r3, fa (Nat.ne_of_lt lC) nd.r4⟩ (fa (Nat.ne_of_lt lS) hS3) B u.1 X T' ?_ ?_⟩
      · refine news_drop u.2 fun q hq => ?_
        simp only [List.length_append, List.length_singleton] at hq
        exact mem_sk (fun h => mem_ap [_, _, _, _] (mm q) h) (mem_rot [_] [_, _, _, _] hq)
      · exact fun ts' c' h' tk' hl F' N' ht' => hQ ts' c' h' tk' hl F' N' (Nat.le_trans ht₁ ht')
    cases ts with
    | nil =>
      obtain rfl := hf rfl
      refine zip_first (un := un + 1 + 1) nd' (.tail _ (List.mem_append_right _ mTI)) (.tail _ (List.mem_append_right _ mD)) (.tail _ (List.mem_append_right _ mdc)) hget B F X T' N hd (by (first | assumption | exact omE ‹_› ‹_› | exact omN ‹_› ‹_› | exact om6 ‹_› | exact om7 ‹_› | exact om9 ‹_› ‹_› | exact om11 ‹_› rfl | exact om24 ‹_› ‹_› | exact rm2 ‹_› rfl | exact rm1 ‹_› rfl | exact Nat.le_trans ‹_› ‹_› | exact Nat.lt_of_lt_of_le ‹_› ‹_› | exact Nat.lt_of_le_of_lt ‹_› ‹_› | omega)) fun h' tk' T t' F' N' l1 l2 l3 l4 l5 ht => ?_
      exact wpAny_pure (go T t' h' tk' false _ _ F' N' l1 l2 l3 l4 l5 ht)
    | cons p ts' =>
      refine zip_more (un := un + 1 + 1) nd' (.tail _ (List.mem_append_left _ (tups_head key p ts'))) (.tail _ (List.mem_append_right _ mTI)) (.tail _ (List.mem_append_right _ mD)) (.tail _ (List.mem_append_right _ mdc)) hget B F X T' N hd (by (first | assumption | exact omE ‹_› ‹_› | exact omN ‹_› ‹_› | exact om6 ‹_› | exact om7 ‹_› | exact om9 ‹_› ‹_› | exact om11 ‹_› rfl | exact om24 ‹_› ‹_› | exact rm2 ‹_› rfl | exact rm1 ‹_› rfl | exact Nat.le_trans ‹_› ‹_› | exact Nat.lt_of_lt_of_le ‹_› ‹_› | exact Nat.lt_of_le_of_lt ‹_› ‹_› | omega)) fun h' tk' T t' F' N' l1 l2 l3 l4 l5 ht => ?_
      exact wpAny_pure (go T t' h' tk' true _ _ F' N' l1 l2 l3 l4 l5 ht)
end
end
end Mine
end
-- WSort
section
namespace Mine
theorem rstWSort : True := by (w_top off); trivial
section
variable {w : World} {mean : ExcName → Option Value} {mg mb : Str → Option Value}
   {dp un : Nat} {gd : Option (List Code)} {cn : Str} {nm : List (Str × NameKind)} {ig ic : Bool} {mo : List (Str × Const)} {a : Addr} {ccd : Value} {outer : List Env} {A₀ : Around} {base h₀ : Heap} {L : Addr} {m : Str → Option Value} {s : Shared} {Q E : Value → Shared → Prop} {news : List (Addr × Obj)}
noncomputable def Key.lt : Key → Key → Bool
  | .i x, .i y => decide (x < y)
  | .b x, .b y => decide (nats x < nats y)
  | _, _ => false
noncomputable def Key.ty : Key → String
  | .i _ => "int"
  | .b _ => "bytes"
section
variable {prog : Program} {A : Around}
theorem eqBool_key {p q : Key × Tok} (hp : p.1.ty = q.1.ty) {Q : Bool → Shared → Prop} (h : Q (decide (p.1 = q.1)) s) : wpAny (model prog w) A (eqBool (p.1.val p.2) (q.1.val q.2)) Q E s := by
  obtain ⟨k, t⟩ := p
  obtain ⟨k', t'⟩ := q
  cases k <;> cases k' <;> simp only [Key.ty] at hp <;> try (exact absurd hp (by decide))
  · refine wpAny_eqBool_int ?_
    simpa [Key.i.injEq, Bool.beq_eq_decide_eq] using h
  · refine eqBool_bytes ?_
    have e : ∀ x y : Array UInt8, decide (x.toList = y.toList) = decide (Key.b x = Key.b y) := fun x y => by
      rw [decide_eq_decide]; exact ⟨fun z => by rw [Array.ext' z], fun z => by cases z; rfl⟩
    rw [e]; exact h
theorem oneLt_key {p q : Key × Tok} (hp : p.1.ty = q.1.ty) {Q : Bool → Shared → Prop} (h : Q (p.1.lt q.1) s) : wpAny (model prog w) A (oneLt' true (p.1.val p.2) (q.1.val q.2)) Q E s := by
  obtain ⟨k, t⟩ := p
  obtain ⟨k', t'⟩ := q
  cases k <;> cases k' <;> simp only [Key.ty] at hp <;> try (exact absurd hp (by decide))
  · exact oneLt_int h
  · exact oneLt_bytes h
theorem lt_ints {i j : Int} {t u : Tok} {Q : Value → Shared → Prop} (h : Q (.bool (decide (i < j))) s) : wpAny (model prog w) A (compareOp .Lt (.int i t) (.int j u)) Q E s := by
  first | exact compareOp_lt_int h | exact wpAny_compareOp_Lt_int h | exact wpAny_lt_int h
noncomputable def pLt (key : Nat → Key × Tok) (i j : Nat) : Bool := if (key i).1 = (key j).1 then decide (i < j) else (key i).1.lt (key j).1
theorem pair_lt {key : Nat → Key × Tok} {i j : Nat} {x y : Addr} {ti tj : Tok} (hp : (key i).1.ty = (key j).1.ty) (hx : s.heap.get? x = some (tupO [(key i).1.val (key i).2, .int i ti])) (hy : s.heap.get? y = some (tupO [(key j).1.val (key j).2, .int j tj]))
    {Q : Bool → Shared → Prop} (h : Q (pLt key i j) s) : wpAny (model prog w) A (keyLt' (tuples' true) (.ref x) (.ref y)) Q E s := by
  refine kat_lt hx rfl hy rfl (kat_cons (eqBool_key hp ?_))
  refine kat_go (fun he => kat_yes (kat_cons (wpAny_eqBool_int ?_))) fun he => kat_no ?_
  · by_cases hij : (i : Int) = j
    · have e : ((i : Int) == (j : Int)) = true := by simpa using hij
      rw [e]
      refine kat_yes (kat_nil ?_)
      unfold pLt at h
      rw [if_pos (of_decide_eq_true he)] at h
      have e2 : decide (i < j) = false := by simp; omega
      rw [e2] at h; exact h
    have e : ((i : Int) == (j : Int)) = false := by simpa using hij
    rw [e]
    refine kat_no (kat_one _ _ (lt_ints ?_))
    unfold pLt at h
    rw [if_pos (of_decide_eq_true he)] at h
    show Q _ s
    have e2 : decide ((i : Int) < (j : Int)) = decide (i < j) := by rw [decide_eq_decide]; omega
    rw [e2]; exact h
  · unfold pLt at h
    rw [if_neg (of_decide_eq_false he)] at h
    exact oneLt_key hp h
end
end
end Mine
end
-- WSort2
section
namespace Mine
theorem rstWSort2 : True := by (w_top off); trivial
section
variable {w : World} {mean : ExcName → Option Value} {mg mb : Str → Option Value}
   {dp un : Nat} {gd : Option (List Code)} {cn : Str} {nm : List (Str × NameKind)} {ig ic : Bool} {mo : List (Str × Const)} {a : Addr} {ccd : Value} {outer : List Env} {A₀ : Around} {base h₀ : Heap} {L : Addr} {m : Str → Option Value} {s : Shared} {Q E : Value → Shared → Prop} {news : List (Addr × Obj)}
theorem Key.lt_irr (a : Key) : a.lt a = false := by cases a <;> simp [Key.lt]
theorem Key.lt_tr {a b c : Key} (h1 : a.lt b = true) (h2 : b.lt c = true) : a.lt c = true := by
  cases a <;> cases b <;> cases c <;> simp only [Key.lt, Bool.false_eq_true] at h1 h2 ⊢
  · simp only [decide_eq_true_eq] at *; (first | assumption | exact omE ‹_› ‹_› | exact omN ‹_› ‹_› | exact om6 ‹_› | exact om7 ‹_› | exact om9 ‹_› ‹_› | exact om11 ‹_› rfl | exact om24 ‹_› ‹_› | exact rm2 ‹_› rfl | exact rm1 ‹_› rfl | exact Nat.le_trans ‹_› ‹_› | exact Nat.lt_of_lt_of_le ‹_› ‹_› | exact Nat.lt_of_le_of_lt ‹_› ‹_› | omega)
  · exact strKind.trans _ _ _ h1 h2
theorem nats_inj {x y : Array UInt8} (h : nats x = nats y) : x = y := by
  apply Array.ext'
  have inj : Function.Injective UInt8.toNat := fun a b e => UInt8.toNat_inj.mp e
  exact List.map_inj_right (f := UInt8.toNat) (fun a b e => inj e) |>.mp h
theorem Key.lt_tot {a b : Key} (ht : a.ty = b.ty) (hne : a ≠ b) (h : a.lt b = false) : b.lt a = true := by
  cases a <;> cases b <;> simp only [Key.ty] at ht <;> try (exact absurd ht (by decide))
  · simp only [Key.lt, decide_eq_false_iff_not, decide_eq_true_eq] at *
    have : ∀ x y : Int, ¬ Key.i x = Key.i y → x ≠ y := fun x y h e => h (by rw [e])
    have := this _ _ hne
    (first | assumption | exact omE ‹_› ‹_› | exact omN ‹_› ‹_› | exact om6 ‹_› | exact om7 ‹_› | exact om9 ‹_› ‹_› | exact om11 ‹_› rfl | exact om24 ‹_› ‹_› | exact rm2 ‹_› rfl | exact rm1 ‹_› rfl | exact Nat.le_trans ‹_› ‹_› | exact Nat.lt_of_lt_of_le ‹_› ‹_› | exact Nat.lt_of_le_of_lt ‹_› ‹_› | omega)
  · rename_i x y
    cases hb : Key.lt (.b y) (.b x) with
    | true => rfl
    | false => exact absurd (congrArg Key.b (nats_inj (strKind.total _ _ h hb))) hne
theorem Key.lt_asy {a b : Key} (h : a.lt b = true) : b.lt a = false := by
  cases hb : b.lt a with
  | false => rfl
  | true => have := Key.lt_tr h hb; rw [Key.lt_irr] at this; cases this
theorem pLt_lin {key : Nat → Key × Tok} {n : Nat} (hk : ∀ i j, i < n → j < n → (key i).1.ty = (key j).1.ty) : LinLt n (pLt key) where
  tr i j k hi hj hk' h1 h2 := by
    unfold pLt at *
    by_cases e1 : (key i).1 = (key j).1
    · rw [if_pos e1] at h1
      by_cases e2 : (key j).1 = (key k).1
      · rw [if_pos e2] at h2
        rw [if_pos (e1.trans e2)]
        simp only [decide_eq_true_eq] at *; (first | assumption | exact omE ‹_› ‹_› | exact omN ‹_› ‹_› | exact om6 ‹_› | exact om7 ‹_› | exact om9 ‹_› ‹_› | exact om11 ‹_› rfl | exact om24 ‹_› ‹_› | exact rm2 ‹_› rfl | exact rm1 ‹_› rfl | exact Nat.le_trans ‹_› ‹_› | exact Nat.lt_of_lt_of_le ‹_› ‹_› | exact Nat.lt_of_le_of_lt ‹_› ‹_› | omega)
      · rw [if_neg e2] at h2
        rw [if_neg (by rw [e1]; exact e2), e1]; exact h2
    · rw [if_neg e1] at h1
      by_cases e2 : (key j).1 = (key k).1
      · rw [if_neg (by rw [← e2]; exact e1), ← e2]; exact h1
      · rw [if_neg e2] at h2
        have h3 := Key.lt_tr h1 h2
        rw [if_neg (fun e => by rw [e, Key.lt_irr] at h3; cases h3)]; exact h3
  tot i j hi hj hne h := by
    unfold pLt at *
    by_cases e1 : (key i).1 = (key j).1
    · rw [if_pos e1] at h
      rw [if_pos e1.symm]
      simp only [decide_eq_true_eq, decide_eq_false_iff_not] at *; (first | assumption | exact omE ‹_› ‹_› | exact omN ‹_› ‹_› | exact om6 ‹_› | exact om7 ‹_› | exact om9 ‹_› ‹_› | exact om11 ‹_› rfl | exact om24 ‹_› ‹_› | exact rm2 ‹_› rfl | exact rm1 ‹_› rfl | exact Nat.le_trans ‹_› ‹_› | exact Nat.lt_of_lt_of_le ‹_› ‹_› | exact Nat.lt_of_le_of_lt ‹_› ‹_› | omega)
    · rw [if_neg e1] at h
      rw [if_neg (fun e => e1 e.symm)]
      exact Key.lt_tot (hk i j hi hj) e1 h
  asy i j hi hj h := by
    unfold pLt at *
    by_cases e1 : (key i).1 = (key j).1
    · rw [if_pos e1] at h
      rw [if_pos e1.symm]
      simp only [decide_eq_true_eq, decide_eq_false_iff_not] at *; (first | assumption | exact omE ‹_› ‹_› | exact omN ‹_› ‹_› | exact om6 ‹_› | exact om7 ‹_› | exact om9 ‹_› ‹_› | exact om11 ‹_› rfl | exact om24 ‹_› ‹_› | exact rm2 ‹_› rfl | exact rm1 ‹_› rfl | exact Nat.le_trans ‹_› ‹_› | exact Nat.lt_of_lt_of_le ‹_› ‹_› | exact Nat.lt_of_le_of_lt ‹_› ‹_› | omega)
    · rw [if_neg e1] at h
      rw [if_neg (fun e => e1 e.symm)]
      exact Key.lt_asy h
theorem key_looks {M : Model} {h : Heap} (k : Key) (t : Tok) : Looks M h (typeOf (k.val t)) (.type k.ty) := by
  cases k <;> exact Looks.of_pure rfl
theorem kat_tups {h : Heap} : ∀ (l : List (Addr × Value)) (g : Addr → Value → Obj) , (∀ p ∈ l, ∃ x, h.get? p.1 = some (tupO [p.2, x])) → KatTups h (l.map fun p => Value.ref p.1) (l.map (·.2))
  | [], _, _ => KatTups.nil
  | p :: r, g, hh => by
    obtain ⟨x, hx⟩ := hh p (.head _)
    exact KatTups.cons hx rfl rfl rfl (kat_tups r g fun q hq => hh q (.tail _ hq))
theorem sort_reverse_false (a : Addr) : Builtin.«list.sort» ⟨[.ref a], [(Str.ofString "reverse", .bool false)]⟩ = Builtin.«list.sort» ⟨[.ref a], []⟩ := by
  rw [list_sort_rev, list_sort_plain]
  rfl
section
variable {key : Nat → Key × Tok} {n : Nat} {D : Addr} {ts : List (Addr × Tok)} {out : List (Addr × Obj)}
noncomputable abbrev refs (ts : List (Addr × Tok)) : List Value := ts.map fun p => Value.ref p.1
theorem tups_at {j : Nat} (hj : j < ts.length) : keyTup key j (ts[j]) ∈ tups key ts := by
  unfold tups
  exact List.mem_mapIdx.mpr ⟨j, hj, rfl⟩
theorem sort_pairs {c : Nat} {P : PySem.Fin → Shared → Prop} (h2 : 2 ≤ n) (h64 : n < 64) (hlen : ts.length = n) (hk : ∀ i j, i < n → j < n → (key i).1.ty = (key j).1.ty) (hm : ∀ q ∈ tups key ts, q ∈ out)
   (F : Fr h₀ L s.heap m) (N : News h₀ L s.heap ((D, listOf (refs ts).toArray c) :: out)) (hD : ∀ q ∈ out, q.1 ≠ D)
   (h : ∀ h' c' (p : Array Nat), Ok n p → Srt (pLt key) p n → Fr h₀ L h' m → News h₀ L h' ((D, listOf (p.toList.map fun i => (refs ts).getD i .none).toArray c') :: out) → P (.done (.ret .none)) { s with heap := h' }) :
   wpAny (model Challenge.rw_ij0174_01.row.prog w) (AT dp un gd cn nm ig ic mo L a ccd outer) (Builtin.«list.sort» ⟨[.ref D], []⟩) P E s := by
  have hl : (refs ts).length = n := by simp [hlen]
  have ND := N _ (.head _)
  refine kat_list_sort (vs := refs ts) F (news := out) (fun q hq => N q (.tail _ hq)) ND.1 ND.2.1 ND.2.2 hD (by (first | assumption | exact omE ‹_› ‹_› | exact omN ‹_› ‹_› | exact om6 ‹_› | exact om7 ‹_› | exact om9 ‹_› ‹_› | exact om11 ‹_› rfl | exact om24 ‹_› ‹_› | exact rm2 ‹_› rfl | exact rm1 ‹_› rfl | exact Nat.le_trans ‹_› ‹_› | exact Nat.lt_of_lt_of_le ‹_› ‹_› | exact Nat.lt_of_le_of_lt ‹_› ‹_› | omega)) (by (first | assumption | exact omE ‹_› ‹_› | exact omN ‹_› ‹_› | exact om6 ‹_› | exact om7 ‹_› | exact om9 ‹_› ‹_› | exact om11 ‹_› rfl | exact om24 ‹_› ‹_› | exact rm2 ‹_› rfl | exact rm1 ‹_› rfl | exact Nat.le_trans ‹_› ‹_› | exact Nat.lt_of_lt_of_le ‹_› ‹_› | exact Nat.lt_of_le_of_lt ‹_› ‹_› | omega)) fun e1 h' F' N' => ?_
  have at_ : ∀ j (hj : j < ts.length), h'.get? (ts[j]).1 = some (tupO [(key j).1.val (key j).2, .int j (ts[j]).2]) := fun j hj => (N' _ (.tail _ (hm _ (tups_at hj)))).1
  have kt : KatTups h' (refs ts) (ts.mapIdx fun j _ => (key j).1.val (key j).2) := by
    have z := kat_tups (h := h') (ts.mapIdx fun j p => (p.1, (key j).1.val (key j).2)) (fun _ _ => default) (fun p hp => by
      obtain ⟨j, hj, rfl⟩ := List.mem_mapIdx.mp hp
      exact ⟨_, at_ j hj⟩)
    have e1 : (ts.mapIdx fun j p => (p.1, (key j).1.val (key j).2)).map (fun p => Value.ref p.1) = refs ts := by
      apply List.ext_getElem <;> simp
    have e2 : (ts.mapIdx fun j p => (p.1, (key j).1.val (key j).2)).map (·.2) = ts.mapIdx fun j _ => (key j).1.val (key j).2 := by
      apply List.ext_getElem <;> simp
    rw [e1, e2] at z
    exact z
  refine kat_kind (T := .type (key 0).1.ty) kt (by simp; (first | assumption | exact omE ‹_› ‹_› | exact omN ‹_› ‹_› | exact om6 ‹_› | exact om7 ‹_› | exact om9 ‹_› ‹_› | exact om11 ‹_› rfl | exact om24 ‹_› ‹_› | exact rm2 ‹_› rfl | exact rm1 ‹_› rfl | exact Nat.le_trans ‹_› ‹_› | exact Nat.lt_of_lt_of_le ‹_› ‹_› | exact Nat.lt_of_le_of_lt ‹_› ‹_› | omega)) (fun v hv => ?_) (by simp) ?_
  · obtain ⟨j, hj, rfl⟩ := List.mem_mapIdx.mp hv
    rw [← hk j 0 (by (first | assumption | exact omE ‹_› ‹_› | exact omN ‹_› ‹_› | exact om6 ‹_› | exact om7 ‹_› | exact om9 ‹_› ‹_› | exact om11 ‹_› rfl | exact om24 ‹_› ‹_› | exact rm2 ‹_› rfl | exact rm1 ‹_› rfl | exact Nat.le_trans ‹_› ‹_› | exact Nat.lt_of_lt_of_le ‹_› ‹_› | exact Nat.lt_of_le_of_lt ‹_› ‹_› | omega)) (by (first | assumption | exact omE ‹_› ‹_› | exact omN ‹_› ‹_› | exact om6 ‹_› | exact om7 ‹_› | exact om9 ‹_› ‹_› | exact om11 ‹_› rfl | exact om24 ‹_› ‹_› | exact rm2 ‹_› rfl | exact rm1 ‹_› rfl | exact Nat.le_trans ‹_› ‹_› | exact Nat.lt_of_lt_of_le ‹_› ‹_› | exact Nat.lt_of_le_of_lt ‹_› ‹_› | omega))]
    exact key_looks _ _
  have hty : (Value.type (key 0).1.ty != Value.type "tuple") = true := by cases (key 0).1 <;> rfl
  rw [hty, hl]
  have hn := sort_ok (pLt_lin hk) (by (first | assumption | exact omE ‹_› ‹_› | exact omN ‹_› ‹_› | exact om6 ‹_› | exact om7 ‹_› | exact om9 ‹_› ‹_› | exact om11 ‹_› rfl | exact om24 ‹_› ‹_› | exact rm2 ‹_› rfl | exact rm1 ‹_› rfl | exact Nat.le_trans ‹_› ‹_› | exact Nat.lt_of_lt_of_le ‹_› ‹_› | exact Nat.lt_of_le_of_lt ‹_› ‹_› | omega) : 1 ≤ n)
  refine all_wp (I := fun s' => s' = ({ s with heap := h' } : Shared)) (P := fun p => Ok n p ∧ Srt (pLt key) p n) (fun i j C s₁ hi hj hs hc => ?_) (fun p s₁ hp hs => ?_) _ _ rfl hn
  · subst hs
    have hi' : i < ts.length := by (first | assumption | exact omE ‹_› ‹_› | exact omN ‹_› ‹_› | exact om6 ‹_› | exact om7 ‹_› | exact om9 ‹_› ‹_› | exact om11 ‹_› rfl | exact om24 ‹_› ‹_› | exact rm2 ‹_› rfl | exact rm1 ‹_› rfl | exact Nat.le_trans ‹_› ‹_› | exact Nat.lt_of_lt_of_le ‹_› ‹_› | exact Nat.lt_of_le_of_lt ‹_› ‹_› | omega)
    have hj' : j < ts.length := by (first | assumption | exact omE ‹_› ‹_› | exact omN ‹_› ‹_› | exact om6 ‹_› | exact om7 ‹_› | exact om9 ‹_› ‹_› | exact om11 ‹_› rfl | exact om24 ‹_› ‹_› | exact rm2 ‹_› rfl | exact rm1 ‹_› rfl | exact Nat.le_trans ‹_› ‹_› | exact Nat.lt_of_lt_of_le ‹_› ‹_› | exact Nat.lt_of_le_of_lt ‹_› ‹_› | omega)
    unfold kas_ask
    have e1 : (refs ts).getD i Value.none = .ref (ts[i]).1 := by simp [refs, hi']
    have e2 : (refs ts).getD j Value.none = .ref (ts[j]).1 := by simp [refs, hj']
    rw [e1, e2]
    exact pair_lt (hk i j hi hj) (at_ i hi') (at_ j hj') (hc _ rfl)
  · subst hs
    exact KasFin.intro F' N' (.head hD) fun h'' c'' F'' N'' => h h'' c'' p hp.1 hp.2 F'' N''
end
end
end Mine
end
-- WSort3
section
namespace Mine
theorem rstWSort3 : True := by (w_top off); trivial
section
variable {w : World} {mean : ExcName → Option Value} {mg mb : Str → Option Value}
   {dp un : Nat} {gd : Option (List Code)} {cn : Str} {nm : List (Str × NameKind)} {ig ic : Bool} {mo : List (Str × Const)} {a : Addr} {ccd : Value} {outer : List Env} {A₀ : Around} {base h₀ : Heap} {L : Addr} {m : Str → Option Value} {s : Shared} {Q E : Value → Shared → Prop} {news : List (Addr × Obj)}
theorem zip_no_len : typeLookup (.type "zip") "__len__" = pure none := by rw [typeLookup_type, builtinLookup_eq_fast]; kernel_rfl
theorem zip_no_hint : typeLookup (.type "zip") "__length_hint__" = pure none := by rw [typeLookup_type, builtinLookup_eq_fast]; kernel_rfl
section
variable {Z TO I1 CT TI D dct : Addr} {rest : List (Addr × Obj)} {key : Nat → Key × Tok} {n k : Nat} {tk t1 : Tok} {a' b' : Value}
theorem collect_zip {Q : List Value → Shared → Prop} (hn : n < 64) (h0 : 0 < n) (nd : ZipNd Z TO I1 CT rest) (mTI : (TI, tupO [.ref I1, .ref CT]) ∈ rest) (mD : (D, listOf ((List.range n).map fun j => (key j).1.val (key j).2).toArray k) ∈ rest) (mdc : (dct, dictOf [] 0) ∈ rest)
   (B : Below A₀ base outer h₀) (F : Fr h₀ L s.heap m) (X : (Mine.hd.heap_1 w.params).In h₀) (T' : Top PV LO mean mg mb h₀) (N : News h₀ L s.heap ((Z, zpObj .none false TI TO) :: (TO, tupO [a', b']) :: (I1, liObj D 0) :: (CT, ctObj dct (0 : Nat) tk t1) :: rest))
   (hd : dp + 3 < recursionLimit) (hu : un + 60 < cLine)
   (hQ : ∀ ts h' tk', ts.length = n → Fr h₀ L h' m → News h₀ L h' (tups key ts ++ rest) → s.toks ≤ tk' → Q (refs ts) { s with heap := h', toks := tk' }) :
   wpAny (model Challenge.rw_ij0174_01.row.prog w) (AT dp un gd cn nm ig ic mo L a ccd outer) (collect (.ref Z)) Q E s := by
  have lt := fun q hq => Heap.lt_size (N q hq).1
  have lZ := lt _ (.head _)
  have lTO := lt _ (.tail _ (.head _))
  have lI := lt _ (.tail _ (.tail _ (.head _)))
  have lC := lt _ (.tail _ (.tail _ (.tail _ (.head _))))
  have lr : ∀ q ∈ rest, @LT.lt Nat _ q.1 s.heap.objs.size := fun q hq => lt q (.tail _ (.tail _ (.tail _ (.tail _ hq))))
  unfold collect
  refine wpAny_bind (wpAny_runValue (codeAny_builtin PySem.F.entry_proto_collect ?_))
  rw [Around.under_plainId PySem.F.plain_proto_collect _]
  show wpAny _ _ (newList [] >>= fun l => again (.builtin "list.__iadd__" ⟨[l, .ref Z], []⟩)) _ _ s
  refine wpAny_bind (wpAny_newObj_type ?_)
  refine wpAny_pure ⟨plainId_quiet PySem.F.plain_list_iadd _, codeAny_builtin PySem.F.entry_list_iadd ?_⟩
  rw [Around.under_plainId PySem.F.plain_list_iadd _]
  have F₁ := F.push (listOf [].toArray 0)
  have N₁ := N.push F (listOf [].toArray 0)
  generalize hS : s.heap.objs.size = S at *
  show wpAny _ _ (Builtin.List.listExtendWith (.ref S) (.ref Z) (.ref S)) _ _ _
  unfold Builtin.List.listExtendWith
  have hT : ∀ {h' : Heap} {o : Obj} {tk' : Nat}, h'.get? Z = some o → o.cls = .type "zip" → Shared.TypeIs ({ s with heap := h', toks := tk' } : Shared) (.ref Z) "zip" := fun e1 e2 => ⟨_, e1, e2⟩
  refine wpAny_bind (wpAny_typeOf (hT (N₁ _ (.tail _ (.head _))).1 rfl) ?_)
  have h1 : Builtin.List.listSameRef (.ref S) (.ref Z) = false := by simp [Builtin.List.listSameRef]; exact Nat.ne_of_gt lZ
  have h2 : (Value.type "zip" == Value.type "list") = false := by decide
  have h3 : (Value.type "zip" == Value.type "tuple") = false := by decide
  simp only [h1, h2, h3, Bool.or_false, Bool.false_eq_true, if_false]
  refine wpAny_bind (wpAny_pyIter_zip (N₁ _ (.tail _ (.head _))).1 ?_)
  refine wpAny_bind (wpAny_holding ?_)
  unfold Builtin.List.listLengthHint
  refine wpAny_bind (wpAny_specialOf (hT (N₁ _ (.tail _ (.head _))).1 rfl) zip_no_len ?_)
  show wpAny _ _ (specialOf (Value.ref Z) (Str.ofString "__length_hint__") >>= _) _ _ _
  refine wpAny_bind (wpAny_specialOf (hT (N₁ _ (.tail _ (.head _))).1 rfl) zip_no_hint ?_)
  refine wpAny_pure ?_
  show wpAny _ _ (rule "list.extend.makes-room" >>= fun _ => Builtin.List.listTouch (.ref S) >>= fun _ =>
    again (.builtin "list.extend.loop" ⟨[.ref S, .ref Z, .ref S], []⟩)) _ _ _
  refine wpAny_bind (wpAny_rule ?_)
  refine wpAny_bind ?_
  show wpAny _ _ (updateSeq S (·.push .none) >>= fun _ => updateSeq S (·.pop)) _ _ _
  have gS : ∀ q ∈ ((Z, zpObj .none false TI TO) :: (TO, tupO [a', b']) :: (I1, liObj D 0) :: (CT, ctObj dct (0 : Nat) tk t1) :: rest), q.1 ≠ S := fun q hq => Nat.ne_of_lt (lt q hq)
  have u1 := upd_split (f := Obj.mapSeq (·.push Value.none)) (o' := listOf [Value.none].toArray 1) F₁ N₁ (.head gS) (by simp [Obj.mapSeq]) rfl
  refine wpAny_bind (wpAny_updateSeq (N₁ _ (.head _)).1 rfl ?_ (by simp) (by simp))
  have u2 := upd_split (f := Obj.mapSeq (·.pop)) (o' := listOf [].toArray 2) u1.1 u1.2 (.head gS) (by simp [Obj.mapSeq]) rfl
  refine wpAny_updateSeq (u1.2 _ (.head _)).1 rfl ?_ (by rw [sizeLine_eq]; simp) (by simp)
  have nr : ∀ q ∈ rest, q.1 ≠ S := fun q hq => Nat.ne_of_lt (lr q hq)
  refine wpAny_pure ⟨plainId_quiet PySem.F.plain_extend_loop _, zl_loop (t1 := t1) hn mTI mD mdc h0 (Nat.ne_of_gt lZ) (Nat.ne_of_gt lTO) (Nat.ne_of_gt lI) (Nat.ne_of_gt lC) hd (by (first | assumption | exact omE ‹_› ‹_› | exact omN ‹_› ‹_› | exact om6 ‹_› | exact om7 ‹_› | exact om9 ‹_› ‹_› | exact om11 ‹_› rfl | exact om24 ‹_› ‹_› | exact rm2 ‹_› rfl | exact rm1 ‹_› rfl | exact Nat.le_trans ‹_› ‹_› | exact Nat.lt_of_lt_of_le ‹_› ‹_› | exact Nat.lt_of_le_of_lt ‹_› ‹_› | omega)) _ [] 2 false a' b' tk _ rfl (Nat.zero_le _) (fun _ => rfl) nd nr B u2.1 X T' ?_ ?_⟩
  · exact news_drop u2.2 fun q hq => mem_rot [_] [_, _, _, _] hq
  · intro ts' c' h' tk' hlen F' N' ht'
    show wpAny _ _ (load S >>= _) _ _ _
    refine wpAny_bind (wpAny_load (N' _ (.head _)).1 ?_)
    exact wpAny_pure (hQ ts' h' tk' hlen F' (fun q hq => N' q (.tail _ hq)) ht')
theorem sorted_zip (h2 : 2 ≤ n) (hn : n < 64) (nd : ZipNd Z TO I1 CT rest) (mTI : (TI, tupO [.ref I1, .ref CT]) ∈ rest) (mD : (D, listOf ((List.range n).map fun j => (key j).1.val (key j).2).toArray k) ∈ rest) (mdc : (dct, dictOf [] 0) ∈ rest)
   (hk : ∀ i j, i < n → j < n → (key i).1.ty = (key j).1.ty)
   (B : Below A₀ base outer h₀) (F : Fr h₀ L s.heap m) (X : (Mine.hd.heap_1 w.params).In h₀) (T' : Top PV LO mean mg mb h₀) (N : News h₀ L s.heap ((Z, zpObj .none false TI TO) :: (TO, tupO [a', b']) :: (I1, liObj D 0) :: (CT, ctObj dct (0 : Nat) tk t1) :: rest))
   (hd : dp + 3 < recursionLimit) (hu : un + 70 < cLine)
   (hQ : ∀ V ts c (p : Array Nat) h' tk', ts.length = n → Ok n p → Srt (pLt key) p n → Fr h₀ L h' m → News h₀ L h' ((V, listOf (p.toList.map fun i => (refs ts).getD i .none).toArray c) :: (tups key ts ++ rest)) → (∀ q ∈ tups key ts ++ rest, @LT.lt Nat _ q.1 V) → s.toks ≤ tk' → Q (.ref V) { s with heap := h', toks := tk' }) :
   wpAny (model Challenge.rw_ij0174_01.row.prog w) (AT dp un gd cn nm ig ic mo L a ccd outer) (call (.builtin "sorted") [.ref Z] [(Str.ofString "reverse", .bool false)]) Q E s := by
  refine call_function_entry_kw kind_sorted plain_sorted entry_sorted (args_sorted_rev _ _) ?_
  unfold Builtin.«sorted»
  refine wpAny_bind (m := checkCount "sorted" 1 1 _) (wpAny_pure ?_)
  refine wpAny_bind (collect_zip (un := un + 1) hn (by (first | assumption | exact omE ‹_› ‹_› | exact omN ‹_› ‹_› | exact om6 ‹_› | exact om7 ‹_› | exact om9 ‹_› ‹_› | exact om11 ‹_› rfl | exact om24 ‹_› ‹_› | exact rm2 ‹_› rfl | exact rm1 ‹_› rfl | exact Nat.le_trans ‹_› ‹_› | exact Nat.lt_of_lt_of_le ‹_› ‹_› | exact Nat.lt_of_le_of_lt ‹_› ‹_› | omega)) nd mTI mD mdc B F X T' N hd (by (first | assumption | exact omE ‹_› ‹_› | exact omN ‹_› ‹_› | exact om6 ‹_› | exact om7 ‹_› | exact om9 ‹_› ‹_› | exact om11 ‹_› rfl | exact om24 ‹_› ‹_› | exact rm2 ‹_› rfl | exact rm1 ‹_› rfl | exact Nat.le_trans ‹_› ‹_› | exact Nat.lt_of_lt_of_le ‹_› ‹_› | exact Nat.lt_of_le_of_lt ‹_› ‹_› | omega)) fun ts h' tk' hlen F' N' ht' => ?_)
  refine wpAny_bind (wpAny_newList ?_ (by simp [refs]; rw [sizeLine_eq]; (first | assumption | exact omE ‹_› ‹_› | exact omN ‹_› ‹_› | exact om6 ‹_› | exact om7 ‹_› | exact om9 ‹_› ‹_› | exact om11 ‹_› rfl | exact om24 ‹_› ‹_› | exact rm2 ‹_› rfl | exact rm1 ‹_› rfl | exact Nat.le_trans ‹_› ‹_› | exact Nat.lt_of_lt_of_le ‹_› ‹_› | exact Nat.lt_of_le_of_lt ‹_› ‹_› | omega)))
  have F₁ := F'.push (listOf (refs ts).toArray 0)
  have N₁ := N'.push F' (listOf (refs ts).toArray 0)
  have lt := fun q hq => Heap.lt_size (N' q hq).1
  generalize hV : h'.objs.size = V at *
  refine wpAny_bind (wpAny_holding (wpAny_call_entry_kw slot_list_sort ⟨_, (N₁ _ (.head _)).1, rfl⟩ entry_list_sort ?_ (args_list_sort_rev _ _)))
  show wpAny _ _ (Builtin.«list.sort» ⟨[.ref V], [(Str.ofString "reverse", .bool false)]⟩) _ _ _
  rw [sort_reverse_false]
  refine sort_pairs (un := un + 1 + 1) h2 hn hlen hk (fun q hq => List.mem_append_left _ hq) F₁ N₁ (fun q hq => Nat.ne_of_lt (lt q hq)) fun h'' c' p hok hs F'' N'' => ⟨_, rfl, wpAny_pure ⟨_, rfl, hQ V ts c' p h'' tk' hlen hok hs F'' N'' lt ht'⟩⟩
end
end
end Mine
end
-- WEnv
section
namespace Mine
theorem rstWEnv : True := by (w_top off); trivial
section
variable {w : World} {mean : ExcName → Option Value} {mg mb : Str → Option Value}
   {dp un : Nat} {gd : Option (List Code)} {cn : Str} {nm : List (Str × NameKind)} {ig ic : Bool} {mo : List (Str × Const)} {a : Addr} {ccd : Value} {outer : List Env} {A₀ : Around} {base h₀ : Heap} {L : Addr} {m : Str → Option Value} {s : Shared} {Q E : Value → Shared → Prop} {news : List (Addr × Obj)}
noncomputable abbrev ATC (dp un : Nat) (gd : Option (List Code)) (cn : Str) (nm : List (Str × NameKind)) (ig ic : Bool) (mo : List (Str × Const)) (L a : Addr) (ccd : Value) (cls : List (Str × Addr)) (outer : List Env) : Around :=
  { handled := none, depth := dp, frames := some (envX cn ⟨.function, nm, ig, ic, mo⟩ L a ccd cls :: outer), guards := gd, units := un }
theorem memX {env : Env} {b : Addr} (hf : env.frame = some L) (hm : b ∈ Fs (env :: outer)) : b = L ∨ b ∈ Fs outer := by
  obtain ⟨e, he, hb⟩ := List.mem_filterMap.mp hm
  rcases List.mem_cons.mp he with rfl | he
  · exact .inl (Option.some.inj (hb.symm.trans hf))
  · exact .inr (List.mem_filterMap.mpr ⟨e, he, hb⟩)
theorem dictsX {env : Env} {g h : Heap} (hf : env.frame = some L) (F : Fr g L h m) (D : KtsDicts (Fs outer) g) : KtsDicts (Fs (env :: outer)) h := fun b hb => by
  rcases memX hf hb with rfl | hb
  · obtain ⟨oL, es, ep, hL, hLd, _⟩ := F.ns
    exact ⟨oL, es, ep, hL, hLd⟩
  · obtain ⟨o, es, n, ho, hd⟩ := D b hb
    exact ⟨o, es, n, F.keep b o ho, hd⟩
theorem turnX {env : Env} {g h G' : Heap} (hf : env.frame = some L) (D : Gd w mean mg mb A₀ base outer g) (F : Fr g L h m) (T : KtsTurn (Fs (env :: outer)) h G') :
    ∃ g', Gd w mean mg mb A₀ base outer g' ∧ KtsTurn (Fs outer) g g' ∧ Fr g' L G' m := by
  have K := D.B
  have nL : g.get? L = none := kts_self F
  obtain ⟨T₁, S₁⟩ := kts_turn_at (fs := Fs outer) (g := g) (h := G') (fun b hb => by obtain ⟨_, o, ho, _⟩ := K.frames.mem hb; exact ⟨o, ho⟩)
    (fun b o e nm => T.other b o (F.keep b o e) fun hm => by
      rcases memX hf hm with z | z
      · rw [z, nL] at e; cases e
      · exact nm z)
    (fun b o e hm => T.frame b o (F.keep b o e) (by
      obtain ⟨env', he, hf'⟩ := List.mem_filterMap.mp hm
      exact List.mem_filterMap.mpr ⟨env', List.mem_cons_of_mem _ he, hf'⟩))
  have K₁ : Below A₀ base outer (ktsHeap G' (Fs outer) g) := ⟨K.stack, fun b o e => T₁.other b o (K.stays b o e) (fun hm => by
    rw [(K.frames.mem hm).1] at e
    cases e), K.frames.of_keeps fun b o e _ => by
      obtain ⟨sl, hs⟩ := T₁.up e
      exact ⟨_, hs, rfl⟩⟩
  refine ⟨_, ⟨K₁, D.XB.keeps K₁.stays, D.TB.keeps K₁.stays, D.XB, D.TB, D.D.turn T₁⟩, T₁, ⟨?_, S₁, by rw [T₁.size]; exact F.above⟩⟩
  obtain ⟨oL, es, ep, hL, hLd, hLk, hLf⟩ := F.ns
  obtain ⟨sl, hs⟩ := T.up hL
  exact ⟨_, es, ep, hs, hLd, hLk, hLf⟩
theorem backX {env : Env} {R : Result → Shared → Prop} {g₀ : Heap} {v : Value} {s' : Shared} {S : Shared} (hf : env.frame = some L) (G : Gd w mean mg mb A₀ base outer h₀) (T0 : KtsTurn (Fs outer) g₀ h₀) (FG : Fr h₀ L S.heap m)
    (hl : LeaveS (Fs (env :: outer)) A₀ base outer (Mine.hd.heap_1 w.params) PV LO mean mg mb g₀ h₀ L m S.heap R v s') (lv : ∀ v s', LeaveK h₀ L m S.heap R v s' → R (.ok (.ret v)) s') : R (.ok (.ret v)) s' := by
  rcases hl with hl | ⟨g', L', m', news', T', F', N', k⟩
  · exact lv _ _ hl
  · obtain ⟨h₁, G₁, T₁, F₁⟩ := turnX hf G FG T'
    have F₂ : Fr h₁ L s'.heap m := F₁.keeps F'.keep
    refine k h₁ (T0.trans T₁) F₂ (fun q hq => ⟨(N' q hq).1, fun z => ?_, ?_⟩) G₁.B G₁.X G₁.T G₁.D
    · obtain ⟨oL, _, _, hL, _⟩ := F₁.ns
      have := (N' q hq).2.2
      rw [z, hL] at this; cases this
    · exact kts_none F₁.keep (N' q hq).2.2
theorem enterX {env : Env} {A : Around} {R : Result → Shared → Prop} {g₀ : Heap} {name qual : Str} {params : Arguments} {body : List Stmt} {scope : Scope} {dV kV doc pm cdv ct oc : Value} {an od : Option Addr} {osl : Array (Option Value)} {f : Addr} {args : Args} {binds : List (Str × Value)}
    (G : Gd w mean mg mb A₀ base outer h₀) (F : Fr h₀ L s.heap m) (N : News h₀ L s.heap news) (T0 : KtsTurn (Fs outer) g₀ h₀) (hA : A.frames = some (env :: outer)) (hf : env.frame = some L) (hke : env.scope.kind = .function)
    (ho : (Mine.hd.heap_1 w.params).lookup f = some ⟨oc, od, .func (fnOf name qual params body scope dV kV doc pm an cdv ct), osl⟩) (hcd : codeIn (Mine.hd.heap_1 w.params) cdv qual = true) (hroom : A.depth < recursionLimit)
    (hbind : BindsTo s (fnOf name qual params body scope dV kV doc pm an cdv ct) args binds) (hloc : ∀ y ∈ binds, scope.names.lookup y.1 = some .local)
    (h : ∀ g L' h₁, Fr h₀ L g m → Fr g L' h₁ (fun y => binds.reverse.lookup y) → News g L' h₁ news → Below A base (env :: outer) g → (Mine.hd.heap_1 w.params).In g → Top PV LO mean mg mb g → KtsDicts (Fs (env :: outer)) g →
      wpAny (model Challenge.rw_ij0174_01.row.prog w) (A.deeper (envOf qual scope L' f cdv)) (execs body (envOf qual scope L' f cdv))
        (fun fl s' => LeaveS (Fs (env :: outer)) A₀ base outer (Mine.hd.heap_1 w.params) PV LO mean mg mb g₀ h₀ L m g R (match fl with | .ret v => v | _ => .none) s')
        (fun e s' => wpAny (model Challenge.rw_ij0174_01.row.prog w) (A.deeper (envOf qual scope L' f cdv)) (leaving (envOf qual scope L' f cdv) e) (fun _ s'' => R (.error e) s'') (fun e' s'' => R (.error e') s'') s')
        { s with heap := h₁, toks := s.toks + binds.length })
    (hco : scope.isCoroutine = false) (hgen : scope.isGenerator = false) (hk : scope.kind = .function)
    (hcell : ∀ x ∈ scope.names, x.2 ≠ .cell) : codeAny (model Challenge.rw_ij0174_01.row.prog w) A (.call (.ref f) args) R s := by
  obtain ⟨FG, BG, st, lv⟩ := groundX (R := R) G.B F N hA hf hke
  have X := G.X.keeps F.keep
  refine codeAny_call_def (fd := fnOf name qual params body scope dV kV doc pm an cdv ct) (body := body) (binds := binds) hroom (X _ _ ho) rfl (G.T.nolimit.keeps F.keep) (codeRec_of X hcd) rfl hbind hcell hloc (fun h₁ hns hk₁ => ?_) hco hgen hk
  exact wpAny_mono (h _ s.heap.objs.size h₁ FG ⟨hns, fun b o e => hk₁ b o (of_hideAll _ e), Nat.le_of_eq (hideAll_size _ _)⟩
    (fun p hp => ⟨hk₁ _ _ (N p hp).1, Nat.ne_of_lt (Heap.lt_size (N p hp).1), hideAll_none _ (List.mem_map_of_mem hp)⟩) BG (G.X.keeps st) (G.T.keeps st) (dictsX hf FG G.D))
    (fun fl s' hl => backX (S := { s with heap := hideAll s.heap (news.map (·.1)) }) hf G T0 FG hl lv) fun _ _ y => y
theorem enterXC {env : Env} {A : Around} {R : Result → Shared → Prop} {g₀ : Heap} {name qual : Str} {params : Arguments} {body : List Stmt} {scope : Scope} {dV kV doc pm cdv ct oc : Value} {an od : Option Addr} {osl : Array (Option Value)} {f : Addr} {args : Args} {binds : List (Str × Value)}
    (G : Gd w mean mg mb A₀ base outer h₀) (F : Fr h₀ L s.heap m) (N : News h₀ L s.heap news) (T0 : KtsTurn (Fs outer) g₀ h₀) (hA : A.frames = some (env :: outer)) (hf : env.frame = some L) (hke : env.scope.kind = .function)
    (ho : (Mine.hd.heap_1 w.params).lookup f = some ⟨oc, od, .func (fnOf name qual params body scope dV kV doc pm an cdv ct), osl⟩) (hcd : codeIn (Mine.hd.heap_1 w.params) cdv qual = true) (hroom : A.depth < recursionLimit)
    (hbind : BindsTo s (fnOf name qual params body scope dV kV doc pm an cdv ct) args binds) (hkind : (binds.all fun y => scope.names.lookup y.1 == some .local || scope.names.lookup y.1 == some .cell) = true)
    (hnd : ((cellsFrom 0 scope.names []).map (·.1)).Nodup)
    (h : ∀ g L' h₁ tk cells, Fr h₀ L g m → Fr g L' h₁ (bindL (envOfC qual scope L' f cdv).kindOf binds fun _ => none) → News g L' h₁ (cells ++ news) →
      CellsAre (bindC (envOfC qual scope L' f cdv).kindOf binds fun _ => none) (cellsFrom (L' + 1) scope.names []) cells → Below A base (env :: outer) g → (Mine.hd.heap_1 w.params).In g → Top PV LO mean mg mb g → KtsDicts (Fs (env :: outer)) g → (∀ p ∈ news, p.1 < L') →
      wpAny (model Challenge.rw_ij0174_01.row.prog w) (A.deeper (envOfC qual scope L' f cdv)) (execs body (envOfC qual scope L' f cdv))
        (fun fl s' => LeaveS (Fs (env :: outer)) A₀ base outer (Mine.hd.heap_1 w.params) PV LO mean mg mb g₀ h₀ L m g R (match fl with | .ret v => v | _ => .none) s')
        (fun e s' => wpAny (model Challenge.rw_ij0174_01.row.prog w) (A.deeper (envOfC qual scope L' f cdv)) (leaving (envOfC qual scope L' f cdv) e) (fun _ s'' => R (.error e) s'') (fun e' s'' => R (.error e') s'') s')
        { s with heap := h₁, toks := tk })
    (hco : scope.isCoroutine = false) (hgen : scope.isGenerator = false) (hk : scope.kind = .function) : codeAny (model Challenge.rw_ij0174_01.row.prog w) A (.call (.ref f) args) R s := by
  obtain ⟨FG, BG, st, lv⟩ := groundX (R := R) G.B F N hA hf hke
  have X := G.X.keeps F.keep
  refine codeAny_call_function hroom (X _ _ ho) rfl hco hgen rfl (codeRec_of X hcd) (hbind _ _ _ _ ?_)
  refine wpAny_newFunctionEnv_cells hk (kindsX hkind _) fun env' he s' x => ?_
  subst he
  refine ⟨(G.T.nolimit.keeps F.keep).keeps x.toInCall.keep, codeAny_func ?_⟩
  obtain ⟨h₁, tk, rfl, _⟩ := x.done
  have hk₁ := x.toInCall.keep
  obtain ⟨cells, NC, Y⟩ := Cl.news (h₀ := s.heap) (Nat.le_refl _) fun n c hm => ⟨x.cell n c (lookup_of_mem_nodup (cellsFrom_names scope.names 0 (s.heap.objs.size + 1) [] [] rfl ▸ hnd) hm), x.above n c hm⟩
  have hN : News (hideAll s.heap (news.map (·.1))) s.heap.objs.size h₁ (cells ++ news) := fun p hp => by
    rcases List.mem_append.mp hp with hp | hp
    · refine ⟨(NC p hp).1, (NC p hp).2.1, ?_⟩
      cases q : (hideAll s.heap (news.map (·.1))).get? p.1 with
      | none => rfl
      | some o => have := of_hideAll _ q; rw [(NC p hp).2.2] at this; cases this
    · exact ⟨hk₁ _ _ (N p hp).1, Nat.ne_of_lt (Heap.lt_size (N p hp).1), hideAll_none _ (List.mem_map_of_mem hp)⟩
  exact wpAny_mono (h _ s.heap.objs.size h₁ tk cells FG ⟨x.toInCall.ns, fun b o e => hk₁ b o (of_hideAll _ e), Nat.le_of_eq (hideAll_size _ _)⟩ hN Y BG (G.X.keeps st) (G.T.keeps st) (dictsX hf FG G.D) (fun p hp => Heap.lt_size (N p hp).1))
    (fun fl s' hl => backX (S := { s with heap := hideAll s.heap (news.map (·.1)) }) hf G T0 FG hl lv) fun _ _ y => y
end
end Mine
end
-- WComp
section
namespace Mine
theorem rstWComp : True := by (w_top off); trivial
section
variable {w : World} {mean : ExcName → Option Value} {mg mb : Str → Option Value}
   {dp un : Nat} {gd : Option (List Code)} {cn : Str} {nm : List (Str × NameKind)} {ig ic : Bool} {mo : List (Str × Const)} {a : Addr} {ccd : Value} {outer : List Env} {A₀ : Around} {base h₀ : Heap} {L : Addr} {m : Str → Option Value} {s : Shared} {Q E : Value → Shared → Prop} {news : List (Addr × Obj)}
end
section
variable {prog : Program} {w : World} {A : Around} {E : Value → Shared → Prop} {s : Shared} {h₀ : Heap} {L : Addr} {m : Str → Option Value} {env : Env} {news : List (Addr × Obj)}
noncomputable def Off2 (C D : Addr) (nw : List (Addr × Obj)) : Prop := ∀ q ∈ nw, q.1 ≠ C ∧ q.1 ≠ D
theorem stop_subC : isSubtype (.type "StopIteration") (.type "StopIteration") = pure true := by rw [isSubtype_type]; kernel_rfl
theorem append_atM {D : Addr} {ys : List Value} {y : Value} {Q : Value → Shared → Prop} (ho : s.heap.get? D = some (LCg.lst ys)) (hsz : ys.length < 64) (h : ∀ h', Heap.SameBut D s.heap h' → h'.get? D = some (LCg.lst (ys ++ [y])) → Q .none { s with heap := h' }) :
    wpAny (model prog w) A (call (.builtin "list.append") [.ref D, y]) Q E s := by
  refine wpAny_call_entry slot_list_append ⟨_, ho, rfl⟩ entry_list_append ?_ (args_list_append _ _)
  show wpAny _ _ (updateSeq D (·.push y) >>= fun _ => ret .none) _ _ s
  refine wpAny_bind ?_
  refine wpAny_updateSeq ho rfl (wpAny_pure ⟨.none, rfl, h _ (Heap.SameBut.update ..) ?_⟩) (by rw [sizeLine_eq]; simp; (first | assumption | exact omE ‹_› ‹_› | exact omN ‹_› ‹_› | exact om6 ‹_› | exact om7 ‹_› | exact om9 ‹_› ‹_› | exact om11 ‹_› rfl | exact om24 ‹_› ‹_› | exact rm2 ‹_› rfl | exact rm1 ‹_› rfl | exact Nat.le_trans ‹_› ‹_› | exact Nat.lt_of_lt_of_le ‹_› ‹_› | exact Nat.lt_of_le_of_lt ‹_› ‹_› | omega))
  rw [Heap.get?_update_self _ ho (by simp [Obj.mapSeq, Obj.isFreed])]
  refine congrArg some (Eq.trans ?_ (LCg.lst_snoc ys y))
  simp [Obj.mapSeq]
noncomputable def CBack (h₀ : Heap) (L : Addr) (m : Str → Option Value) (C D : Addr) (J : Nat → List Value → List (Addr × Obj) → Nat → Prop) (s : Shared) (j : Nat) (ys zs : List Value) (s' : Shared) : Prop :=
  ∃ h' tk' nw' oC m', s' = { s with heap := h', toks := tk' } ∧ Fr h₀ L h' m ∧ LCg.NsObj oC m' ∧ News h₀ L h' ((C, oC) :: (D, LCg.lst ys) :: nw') ∧ Off2 C D nw' ∧ J j zs nw' tk'
theorem CBack.mk {C D : Addr} {J : Nat → List Value → List (Addr × Obj) → Nat → Prop} {j tk' : Nat} {ys zs : List Value} {h' : Heap} {nw' : List (Addr × Obj)} {oC : Obj} {m' : Str → Option Value} (F : Fr h₀ L h' m) (hoC : LCg.NsObj oC m') (N : News h₀ L h' ((C, oC) :: (D, LCg.lst ys) :: nw')) (off : Off2 C D nw') (hJ : J j zs nw' tk') : CBack h₀ L m C D J s j ys zs { s with heap := h', toks := tk' } :=
  ⟨h', tk', nw', oC, m', rfl, F, hoC, N, off, hJ⟩
theorem CBack.elim {C D : Addr} {J : Nat → List Value → List (Addr × Obj) → Nat → Prop} {j : Nat} {ys zs : List Value} {s' : Shared} {P : Shared → Prop} (h : CBack h₀ L m C D J s j ys zs s') (k : ∀ h' tk' nw' oC m', Fr h₀ L h' m → LCg.NsObj oC m' → News h₀ L h' ((C, oC) :: (D, LCg.lst ys) :: nw') → Off2 C D nw' → J j zs nw' tk' → P { s with heap := h', toks := tk' }) : P s' := by
  obtain ⟨h', tk', nw', oC, m', rfl, F, hoC, N, off, hJ⟩ := h
  exact k h' tk' nw' oC m' F hoC N off hJ
noncomputable abbrev ItJ (I : Addr) (f : Nat → Obj) (J : Nat → List Value → List (Addr × Obj) → Nat → Prop) (j' : Nat) (zs : List Value) (nw' : List (Addr × Obj)) (tk' : Nat) : Prop := ∃ nw'', nw' = (I, f j') :: nw'' ∧ (∀ q ∈ nw'', q.1 ≠ I) ∧ J j' zs nw'' tk'
noncomputable abbrev testsOf (ifs : List Expr) (env : Env) : Sem Bool := forIn ifs true fun c r => if r = true then do let ok ← isTrue c env (eval c env); pure (ForInStep.yield ok) else pure (ForInStep.yield r)
noncomputable def CTurn (prog : Program) (w : World) (A : Around) (h₀ : Heap) (L : Addr) (m : Str → Option Value) (C D : Addr) (J : Nat → List Value → List (Addr × Obj) → Nat → Prop) (Jend : List Value → List (Addr × Obj) → Nat → Prop) (n : Nat)
    (elt tgt : Expr) (ifs : List Expr) (cenv : Env) (it : Value) (s : Shared) (E' : Value → Shared → Prop) (j : Nat) (ys : List Value) (r : Option Value) (s₁ : Shared) : Prop := match r with
  | none => CBack h₀ L m C D (fun _ zs nw tk => Jend zs nw tk) s j ys ys s₁
  | some v => j < n ∧ wpAny (model prog w) A (letOwnedTupleGo tgt it v) (fun _ s₀ => wpAny (model prog w) A (assign tgt cenv v) (fun _ s₂ => wpAny (model prog w) A (testsOf ifs cenv) (fun ok s₃ =>
      if ok = true then wpAny (model prog w) A (eval elt cenv) (fun y s₄ => CBack h₀ L m C D J s (j + 1) ys (ys ++ [y]) s₄) E' s₃ else CBack h₀ L m C D J s (j + 1) ys ys s₃) E' s₂) E' s₀) E' s₁
theorem comp_go {elt tgt iter : Expr} {ifs : List Expr} {scope : Scope} {pos : Pos} {cenv : Env} {it : Value} {C D : Addr} {n : Nat} {J : Nat → List Value → List (Addr × Obj) → Nat → Prop} {Jend : List Value → List (Addr × Obj) → Nat → Prop} {R : Result → Shared → Prop} {nw : List (Addr × Obj)} {oC : Obj} {m₁ : Str → Option Value}
    (hJ : ∀ j ys nw tk, J j ys nw tk → ys.length < 64) (F : Fr h₀ L s.heap m) (hoC : LCg.NsObj oC m₁) (N : News h₀ L s.heap ((C, oC) :: (D, LCg.lst []) :: nw)) (off : Off2 C D nw) (hCD : C ≠ D) (J0 : J 0 [] nw s.toks)
    (turn : ∀ j ys nw h tk oC m₁ E', J j ys nw tk → Fr h₀ L h m → LCg.NsObj oC m₁ → News h₀ L h ((C, oC) :: (D, LCg.lst ys) :: nw) → Off2 C D nw →
      wpAny (model prog w) A (pyNext it) (CTurn prog w A h₀ L m C D J Jend n elt tgt ifs cenv it s E' j ys) E' { s with heap := h, toks := tk })
    (done : ∀ ys nw h tk oC m₁, Jend ys nw tk → Fr h₀ L h m → LCg.NsObj oC m₁ → News h₀ L h ((C, oC) :: (D, LCg.lst ys) :: nw) → Off2 C D nw → R (.ok .next) { s with heap := h, toks := tk }) :
    codeAny (model prog w) A (.compLoop (.ListComp elt [⟨tgt, iter, ifs, 0⟩] scope pos) 0 it (.ref D) cenv) R s := by
  refine codeAny_loop rfl (fun k s' => ∃ j ys, k = n - j ∧ CBack h₀ L m C D J s j ys ys s') (fun k s' hI => ?_) n ⟨0, [], rfl, CBack.mk F hoC N off J0⟩
  obtain ⟨j, ys, rfl, hI⟩ := hI
  refine hI.elim fun h' tk' nw' oC' m' F' hoC' N' off' J' => ?_
  show wpAny _ A ((compTurn (.ListComp elt [⟨tgt, iter, ifs, 0⟩] scope pos) 0 it (.ref D) cenv).onRaise (fun x => do noteFrame x cenv; theTreesLotGoes x)) _ _ _
  refine wpAny_noted ?_
  rw [compTurn_list]
  refine wpAny_bind (wpAny_standAt (wpAny_bind (wpAny_mono (turn j ys nw' h' tk' oC' m' _ J' F' hoC' N' off') (fun r s₁ h₁ => ?_) fun _ _ e => e)))
  cases r with
  | none =>
    have h₁ : CBack h₀ L m C D (fun _ zs nw tk => Jend zs nw tk) s j ys ys s₁ := h₁
    refine CBack.elim h₁ fun h₂ tk₂ nw₂ oC₂ m₂ F₂ hoC₂ N₂ off₂ J₂ => ?_
    exact wpAny_pure (done ys nw₂ h₂ tk₂ oC₂ m₂ J₂ F₂ hoC₂ N₂ off₂)
  | some v =>
    have hlt := h₁.1
    refine wpAny_bind (wpAny_mono h₁.2 (fun _ s₀ h₀' => wpAny_bind (wpAny_mono h₀' (fun _ s₂ h₂ => wpAny_bind (wpAny_mono h₂ (fun ok s₃ h₃ => ?_) fun _ _ e => e)) fun _ _ e => e)) fun _ _ e => e)
    cases ok with
    | false =>
      exact wpAny_pure ⟨rfl, n - (j + 1), om5 hlt, j + 1, ys, rfl, h₃⟩
    | true =>
      refine wpAny_bind (wpAny_bind (wpAny_mono h₃ (fun y s₄ h₄ => ?_) fun _ _ e => e))
      refine CBack.elim h₄ fun h₄ tk₄ nw₄ oC₄ m₄ F₄ hoC₄ N₄ off₄ J₄ => ?_
      have hl := hJ _ _ _ _ J₄
      have zD := N₄ (D, LCg.lst ys) (.tail _ (.head _))
      have zC := N₄ (C, oC₄) (.head _)
      refine wpAny_bind (append_atM zD.1 (by simp at hl; (first | assumption | exact omE ‹_› ‹_› | exact omN ‹_› ‹_› | exact om6 ‹_› | exact om7 ‹_› | exact om9 ‹_› ‹_› | exact om11 ‹_› rfl | exact om24 ‹_› ‹_› | exact rm2 ‹_› rfl | exact rm1 ‹_› rfl | exact Nat.le_trans ‹_› ‹_› | exact Nat.lt_of_lt_of_le ‹_› ‹_› | exact Nat.lt_of_le_of_lt ‹_› ‹_› | omega)) fun h₅ hs₅ hD₅ => wpAny_pure (wpAny_pure ⟨rfl, n - (j + 1), om5 hlt, j + 1, ys ++ [y], rfl, CBack.mk (F₄.change hs₅ zD.2.1 zD.2.2) hoC₄ (fa_cons ⟨hs₅.extBut _ _ hCD zC.1, zC.2⟩ (fa_cons ⟨hD₅, zD.2⟩ fun p hp => ⟨hs₅.extBut _ _ (off₄ p hp).2 (N₄ p (.tail _ (.tail _ hp))).1, (N₄ p (.tail _ (.tail _ hp))).2⟩)) off₄ J₄⟩))
noncomputable def CompIn (prog : Program) (w : World) (A : Around) (h₀ : Heap) (L : Addr) (m : Str → Option Value) (env : Env) (elt tgt : Expr) (ifs : List Expr) (scope : Scope) (cl : List (Str × Addr)) (Fin : Shared → List Value → List (Addr × Obj) → Nat → Prop) (it : Value) (s : Shared) : Prop :=
  ∃ (n : Nat) (J : Nat → List Value → List (Addr × Obj) → Nat → Prop) (Jend : List Value → List (Addr × Obj) → Nat → Prop) (news : List (Addr × Obj)),
    A.handled = none ∧ (∀ j ys nw tk, J j ys nw tk → ys.length < 64) ∧ Fr h₀ L s.heap m ∧ News h₀ L s.heap news ∧ J 0 [] news s.toks ∧ (∃ I oI, it = .ref I ∧ (I, oI) ∈ news ∧ ∀ s' : Shared, s'.heap.get? I = some oI → ∀ (Q' : Value → Shared → Prop) E', Q' it s' → wpAny (model prog w) A (pyIter it) Q' E' s') ∧
    (∀ C D j ys nw h tk oC m₁ E', J j ys nw tk → Fr h₀ L h m → LCg.NsObj oC m₁ → News h₀ L h ((C, oC) :: (D, LCg.lst ys) :: nw) → Off2 C D nw → C ≠ D → C ≠ L → D ≠ L →
      wpAny (model prog w) A (pyNext it) (CTurn prog w A h₀ L m C D J Jend n elt tgt ifs (compEnvC scope cl C env) it s E' j ys) E' { s with heap := h, toks := tk }) ∧
    ∀ ys nw tk, Jend ys nw tk → Fin s ys nw tk
theorem CompIn.mk {elt tgt : Expr} {ifs : List Expr} {scope : Scope} {cl : List (Str × Addr)} {Fin : Shared → List Value → List (Addr × Obj) → Nat → Prop} {I : Addr} {oI : Obj} (n : Nat) (J : Nat → List Value → List (Addr × Obj) → Nat → Prop) (Jend : List Value → List (Addr × Obj) → Nat → Prop) (news : List (Addr × Obj)) (hh : A.handled = none) (hJ : ∀ j ys nw tk, J j ys nw tk → ys.length < 64) (F : Fr h₀ L s.heap m) (N : News h₀ L s.heap news) (J0 : J 0 [] news s.toks) (hm : (I, oI) ∈ news)
    (hIt : ∀ s' : Shared, s'.heap.get? I = some oI → ∀ (Q' : Value → Shared → Prop) E', Q' (.ref I) s' → wpAny (model prog w) A (pyIter (.ref I)) Q' E' s')
    (turn : ∀ C D j ys nw h tk oC m₁ E', J j ys nw tk → Fr h₀ L h m → LCg.NsObj oC m₁ → News h₀ L h ((C, oC) :: (D, LCg.lst ys) :: nw) → Off2 C D nw → C ≠ D → C ≠ L → D ≠ L → wpAny (model prog w) A (pyNext (.ref I)) (CTurn prog w A h₀ L m C D J Jend n elt tgt ifs (compEnvC scope cl C env) (.ref I) s E' j ys) E' { s with heap := h, toks := tk }) (fin : ∀ ys nw tk, Jend ys nw tk → Fin s ys nw tk) : CompIn prog w A h₀ L m env elt tgt ifs scope cl Fin (.ref I) s :=
  ⟨n, J, Jend, news, hh, hJ, F, N, J0, ⟨I, oI, rfl, hm, hIt⟩, turn, fin⟩
theorem CompIn.elim {elt tgt : Expr} {ifs : List Expr} {scope : Scope} {cl : List (Str × Addr)} {Fin : Shared → List Value → List (Addr × Obj) → Nat → Prop} {it : Value} {P : Prop} (h : CompIn prog w A h₀ L m env elt tgt ifs scope cl Fin it s) (k : ∀ (n : Nat) (J : Nat → List Value → List (Addr × Obj) → Nat → Prop) (Jend : List Value → List (Addr × Obj) → Nat → Prop) (news : List (Addr × Obj)) (I : Addr) (oI : Obj), it = .ref I → A.handled = none → (∀ j ys nw tk, J j ys nw tk → ys.length < 64) → Fr h₀ L s.heap m → News h₀ L s.heap news → J 0 [] news s.toks → (I, oI) ∈ news →
    (∀ s' : Shared, s'.heap.get? I = some oI → ∀ (Q' : Value → Shared → Prop) E', Q' (.ref I) s' → wpAny (model prog w) A (pyIter (.ref I)) Q' E' s') →
    (∀ C D j ys nw h tk oC m₁ E', J j ys nw tk → Fr h₀ L h m → LCg.NsObj oC m₁ → News h₀ L h ((C, oC) :: (D, LCg.lst ys) :: nw) → Off2 C D nw → C ≠ D → C ≠ L → D ≠ L → wpAny (model prog w) A (pyNext (.ref I)) (CTurn prog w A h₀ L m C D J Jend n elt tgt ifs (compEnvC scope cl C env) (.ref I) s E' j ys) E' { s with heap := h, toks := tk }) → (∀ ys nw tk, Jend ys nw tk → Fin s ys nw tk) → P) : P := by
  obtain ⟨n, J, Jend, news, hh, hJ, F, N, J0, ⟨I, oI, rfl, hm, hIt⟩, turn, fin⟩ := h
  exact k n J Jend news I oI rfl hh hJ F N J0 hm hIt turn fin
theorem comp_block {elt tgt iter : Expr} {ifs : List Expr} {scope : Scope} {cl : List (Str × Addr)} {pos : Pos} {it : Value} {Fin : Shared → List Value → List (Addr × Obj) → Nat → Prop} {RR : Value → Addr → Result → Shared → Prop}
    (hcell : ∀ y ∈ scope.names, y.2 ≠ .cell) (hkind : scope.kind = .function) (I₀ : CompIn prog w A h₀ L m env elt tgt ifs scope cl Fin it s)
    (hRR : ∀ D C h tk m' ys nw, Fin s ys nw tk → Fr h₀ L h m → News h₀ L h ((D, LCg.lst ys) :: nw) → h.Ns C m' → h₀.get? C = none → C ≠ L → D ≠ L → C ≠ D → (∀ q ∈ nw, q.1 ≠ C ∧ q.1 ≠ D) → RR (.ref D) C (.ok .next) { s with heap := h, toks := tk }) :
    wpAny (model prog w) A (newList []) (fun acc s₃ => wpAny (model prog w) A (newFunctionEnv scope env.globals cl [] env.qual none .none (some env)) (fun cenv s₄ =>
      codeAny (model prog w) A (.compStart (.ListComp elt [⟨tgt, iter, ifs, 0⟩] scope pos) 0 it acc { cenv with scope := relabel scope env }) (RR acc cenv.locals) s₄) E s₃) E s := by
  refine I₀.elim fun n J Jend news I oI ei hh hJ F N J0 hm hIt turn fin => ?_
  clear I₀
  subst ei
  refine wpAny_newObj_type (wpAny_newFunctionEnv hcell (by intro y hy; simp at hy) (fun h₁ hns₁ hsb₁ => ?_) hkind)
  dsimp only at hns₁ hsb₁ ⊢
  generalize hH2 : s.heap.push { cls := .type "list", dict := none, data := .seq ([] : List Value).toArray } = H2 at hns₁ hsb₁ ⊢
  have hC : H2.objs.size = s.heap.objs.size + 1 := by rw [← hH2, Heap.size_push]
  have hDC : s.heap.objs.size ≠ H2.objs.size := by rw [hC]; exact Nat.ne_of_lt (Nat.lt_succ_self _)
  have below : ∀ b, b < s.heap.objs.size → b ≠ H2.objs.size ∧ b ≠ s.heap.objs.size := fun b hb => ⟨by rw [hC]; exact Nat.ne_of_lt (Nat.lt_succ_of_lt hb), Nat.ne_of_lt hb⟩
  have old : ∀ b o, s.heap.get? b = some o → h₁.get? b = some o := fun b o e => hsb₁.extBut b o (below b (Heap.lt_size e)).1 (Heap.get?_push_of_some _ (hH2 ▸ Heap.get?_push_of_some _ e))
  have hacc : h₁.get? s.heap.objs.size = some (LCg.lst []) := hsb₁.extBut _ _ hDC (Heap.get?_push_of_some _ (hH2 ▸ Heap.get?_push_size _ rfl))
  have fresh₀ : ∀ a, s.heap.objs.size ≤ a → h₀.get? a = none := fun a ha => by
    cases e : h₀.get? a with
    | none => rfl
    | some o' => exact absurd (Heap.lt_size (F.keep a o' e)) (Nat.not_lt.mpr ha)
  have hD₀ : h₀.get? s.heap.objs.size = none := fresh₀ _ (Nat.le_refl _)
  have hC₀ : h₀.get? H2.objs.size = none := fresh₀ _ (by rw [hC]; exact Nat.le_succ _)
  have hLlt : L < s.heap.objs.size := F.ns.lt
  have hDL : s.heap.objs.size ≠ L := Ne.symm (below L hLlt).2
  have hCL : H2.objs.size ≠ L := Ne.symm (below L hLlt).1
  obtain ⟨oC, heC, hoC⟩ := LCg.ns_obj hns₁
  have off : Off2 H2.objs.size s.heap.objs.size news := fun p hp => below _ (Heap.lt_size (N p hp).1)
  have N₁ : News h₀ L h₁ ((H2.objs.size, oC) :: (s.heap.objs.size, LCg.lst []) :: news) := fa_cons ⟨heC, hCL, hC₀⟩ (fa_cons ⟨hacc, hDL, hD₀⟩ fun p hp => ⟨old _ _ (N p hp).1, (N p hp).2⟩)
  have loop : ∀ s₃ : Shared, s₃ = { s with heap := h₁, toks := s.toks + ([] : List (Str × Value)).length } →
      codeAny (model prog w) A (.compLoop (.ListComp elt [⟨tgt, iter, ifs, 0⟩] scope pos) 0 (.ref I) (.ref s.heap.objs.size) (compEnvC scope cl H2.objs.size env)) (RR (.ref s.heap.objs.size) H2.objs.size) s₃ := by
    rintro s₃ rfl
    refine comp_go (J := J) (Jend := Jend) (n := n) hJ (F.keeps old) hoC N₁ off (Ne.symm hDC) J0 (fun j ys nw h tk oC m₁ E' a1 a2 a3 a4 a5 => turn _ _ j ys nw h tk oC m₁ E' a1 a2 a3 a4 a5 (Ne.symm hDC) hCL hDL) ?_
    intro ys nw h tk oC m₁ a1 a2 a3 a4 a5
    exact hRR _ _ h tk m₁ ys nw (fin _ _ _ a1) a2 (fun p hp => a4 p (.tail _ hp)) (a3.ns (a4 _ (.head _)).1) hC₀ hCL hDL (Ne.symm hDC) a5
  exact codeAny_compStart_list (loop _ rfl) (hIt _ (old _ _ (N _ hm).1) _ _ (loop _ rfl))
noncomputable def CFinE (h₀ : Heap) (L : Addr) (m : Str → Option Value) (Q : Value → Shared → Prop) (s : Shared) (ys : List Value) (nw : List (Addr × Obj)) (tk : Nat) : Prop :=
  ∀ D h, Fr h₀ L h m → News h₀ L h ((D, LCg.lst ys) :: nw) → (∀ q ∈ nw, q.1 ≠ D) → Q (.ref D) { s with heap := h, toks := tk }
noncomputable def CFinA (h₀ : Heap) (L : Addr) (m : Str → Option Value) (y : Str) (Q : Flow → Shared → Prop) (s : Shared) (ys : List Value) (nw : List (Addr × Obj)) (tk : Nat) : Prop :=
  ∀ D h, Fr h₀ L h (fun z => if z = y then some (.ref D) else m z) → News h₀ L h ((D, LCg.lst ys) :: nw) → (∀ q ∈ nw, q.1 ≠ D) → Q .next { s with heap := h, toks := tk + 1 }
theorem listcomp_K {elt tgt iter : Expr} {ifs : List Expr} {scope : Scope} {cl : List (Str × Addr)} {pos : Pos} {Q : Value → Shared → Prop} (F₀ : Fr h₀ L s.heap m)
    (hclos : closureFor scope env = pure cl) (hcell : ∀ y ∈ scope.names, y.2 ≠ .cell) (hkind : scope.kind = .function) (hnames : ∀ y ∈ scope.names, y.2 = .local → scope.names.lookup y.1 = some .local)
    (h : wpAny (model prog w) A (eval iter env) (fun xv s₁ => wpAny (model prog w) A (pyIter xv) (CompIn prog w A h₀ L m env elt tgt ifs scope cl (CFinE h₀ L m Q)) E s₁) E s)
    (hs : ∀ x, foldedSetIterable iter env x = pure x := by intro _; rfl) :
    wpAny (model prog w) A (eval (.ListComp elt [⟨tgt, iter, ifs, 0⟩] scope pos) env) Q E s := by
  rw [eval_ListComp]
  refine wpAny_comprehension_free (use := none) rfl hs hclos hkind hnames (wpAny_mono h (fun xv s₁ h₁ => wpAny_mono h₁ (fun it s₂ h₂ => ?_) fun _ _ e => e) fun _ _ e => e)
  refine comp_block hcell hkind h₂ fun D C h tk m' ys nw fin F N hn hC₀ hCL hDL hCD off => ?_
  refine ⟨m', hn, fun h'' hs'' => fin D h'' (F.change hs'' hCL hC₀) (fun p hp => ?_) fun q hq => (off q hq).2⟩
  refine ⟨hs''.extBut _ _ ?_ (N p hp).1, (N p hp).2⟩
  rcases List.mem_cons.mp hp with rfl | hp
  · exact Ne.symm hCD
  · exact (off p hp).1
theorem assign_listcomp_K {elt tgt iter : Expr} {ifs : List Expr} {scope : Scope} {cl : List (Str × Addr)} {y : Str} {py pos spos : Pos} {Q : Flow → Shared → Prop} (F₀ : Fr h₀ L s.heap m) (hLe : env.locals = L)
    (hsw : swapsWith (.ListComp elt [⟨tgt, iter, ifs, 0⟩] scope pos) (some (.Name y py)) spos.line env = pure true)
    (hclos : closureFor scope env = pure cl) (hcell : ∀ y ∈ scope.names, y.2 ≠ .cell) (hkind : scope.kind = .function) (hnames : ∀ y ∈ scope.names, y.2 = .local → scope.names.lookup y.1 = some .local)
    (hy : env.kindOf y = some .local) (hp : (env.scope.kind == .class || (env.scope.kind == .module && env.locals != env.globals)) = false)
    (h : wpAny (model prog w) A (eval iter env) (fun xv s₁ => wpAny (model prog w) A (pyIter xv) (CompIn prog w A h₀ L m env elt tgt ifs scope cl (CFinA h₀ L m y Q)) E s₁) E s)
    (hs : ∀ x, foldedSetIterable iter env x = pure x := by intro _; rfl) :
    wpAny (model prog w) A (exec (.Assign [.Name y py] (.ListComp elt [⟨tgt, iter, ifs, 0⟩] scope pos) spos) env) Q E s := by
  subst hLe
  rw [exec_Assign_Name_used _ _ _ _ hsw]
  refine wpAny_bind (wpAny_standAt (wpAny_bind ?_))
  show wpAny _ A (do let _ ← comprehension (.ListComp elt [⟨tgt, iter, ifs, 0⟩] scope pos) scope env _ (newList []) false (eval iter env) (some (assign (.Name y py) env))) _ _ s
  refine wpAny_bind (wpAny_mono (wpAny_comprehension_free (use := some (assign (.Name y py) env)) (Q := fun _ s' => Q .next s') rfl hs hclos hkind hnames
    (wpAny_mono h (fun xv s₁ h₁ => wpAny_mono h₁ (fun it s₂ h₂ => ?_) fun _ _ e => e) fun _ _ e => e)) (fun _ s' hq => wpAny_pure (wpAny_pure hq)) fun _ _ e => e)
  refine comp_block hcell hkind h₂ fun D C h tk m' ys nw fin F N hn hC₀ hCL hDL hCD off => ?_
  show wpAny _ A (assign (.Name y py) env (.ref D)) _ _ _
  refine wpAny_assign_Name (wpAny_storeName_local hy F.ns (fun h₂ hn₂ hs₂ => ?_) hp)
  have hL₀ : h₀.get? env.locals = none := Heap.get?_none_of_le F.above
  have F₂ : Fr h₀ env.locals h₂ (fun z => if z = y then some (.ref D) else m z) := ⟨hn₂, fun b o e => hs₂.extBut b o (fun q => by rw [q, hL₀] at e; cases e) (F.keep b o e), F.above⟩
  refine ⟨m', hn.sameBut hs₂ hCL, fun h'' hs'' => fin D h'' (F₂.change hs'' hCL hC₀) (fun p hp => ?_) fun q hq => (off q hq).2⟩
  have z : h₂.get? p.1 = some p.2 := hs₂.extBut _ _ (N p hp).2.1 (N p hp).1
  refine ⟨hs''.extBut _ _ ?_ z, (N p hp).2⟩
  rcases List.mem_cons.mp hp with rfl | hp
  · exact Ne.symm hCD
  · exact (off p hp).1
theorem compIn_list {elt tgt : Expr} {ifs : List Expr} {scope : Scope} {cl : List (Str × Addr)} {Fin : Shared → List Value → List (Addr × Obj) → Nat → Prop} {S I : Addr} {c : Nat} {ws : List Value} (J : Nat → List Value → List (Addr × Obj) → Nat → Prop)
    (hh : A.handled = none) (h64 : ws.length < 64) (hJ : ∀ j ys nw tk, J j ys nw tk → ys.length ≤ j ∧ j ≤ ws.length ∧ (S, listOf ws.toArray c) ∈ nw)
    (F : Fr h₀ L s.heap m) (N : News h₀ L s.heap ((I, liObj S 0) :: news)) (off : ∀ q ∈ news, q.1 ≠ I) (J0 : J 0 [] news s.toks)
    (turn : ∀ C D j ys nw h tk oC m₁ v E', J j ys nw tk → ws[j]? = some v → Fr h₀ L h m → LCg.NsObj oC m₁ → News h₀ L h ((C, oC) :: (D, LCg.lst ys) :: (I, liObj S (j + 1)) :: nw) → Off2 C D nw → (∀ q ∈ nw, q.1 ≠ I) → C ≠ D → C ≠ L → D ≠ L → C ≠ I → D ≠ I →
      wpAny (model prog w) A (letOwnedTupleGo tgt (.ref I) v) (fun _ s₀ => wpAny (model prog w) A (assign tgt (compEnvC scope cl C env) v) (fun _ s₂ => wpAny (model prog w) A (testsOf ifs (compEnvC scope cl C env)) (fun ok s₃ =>
        if ok = true then wpAny (model prog w) A (eval elt (compEnvC scope cl C env)) (fun y s₄ => CBack h₀ L m C D (ItJ I (liObj S) J) s (j + 1) ys (ys ++ [y]) s₄) E' s₃
        else CBack h₀ L m C D (ItJ I (liObj S) J) s (j + 1) ys ys s₃) E' s₂) E' s₀) E' { s with heap := h, toks := tk })
    (fin : ∀ ys nw tk, J ws.length ys nw tk → Fin s ys nw tk) :
    CompIn prog w A h₀ L m env elt tgt ifs scope cl Fin (.ref I) s := by
  refine CompIn.mk ws.length (ItJ I (liObj S) J) (fun zs nw tk => J ws.length zs nw tk) ((I, liObj S 0) :: news) hh ?_ F N ⟨news, rfl, off, J0⟩ (.head _) ?_ ?_ fin
  · rintro j ys nw tk ⟨nw'', rfl, _, hj⟩
    have := hJ _ _ _ _ hj
    (first | assumption | exact omE ‹_› ‹_› | exact omN ‹_› ‹_› | exact om6 ‹_› | exact om7 ‹_› | exact om9 ‹_› ‹_› | exact om11 ‹_› rfl | exact om24 ‹_› ‹_› | exact rm2 ‹_› rfl | exact rm1 ‹_› rfl | exact Nat.le_trans ‹_› ‹_› | exact Nat.lt_of_lt_of_le ‹_› ‹_› | exact Nat.lt_of_le_of_lt ‹_› ‹_› | omega)
  · intro s' e Q' E' q
    exact wpAny_pyIter_listiter (isLI e) q
  · rintro C D j ys nw h tk oC m₁ E' ⟨nw'', rfl, offI, hj⟩ F' hoC N' off' hCD hCL hDL
    obtain ⟨_, hjn, hS⟩ := hJ _ _ _ _ hj
    have hIC := off' _ (.head _)
    have u : UpdF I (liObj S j) ((C, oC) :: (D, LCg.lst ys) :: (I, liObj S j) :: nw'') (fun o => (C, oC) :: (D, LCg.lst ys) :: (I, o) :: nw'') :=
      .tail (Ne.symm hIC.1) (.tail (Ne.symm hIC.2) (.head offI))
    have zI := (N' (I, liObj S j) (.tail _ (.tail _ (.head _)))).1
    have zS := (N' _ (.tail _ (.tail _ (.tail _ hS)))).1
    have hT : Shared.TypeIs ({ s with heap := h, toks := tk } : Shared) (.ref I) "list_iterator" := ⟨_, zI, rfl⟩
    unfold pyNext
    cases hv : ws[j]? with
    | none =>
      have hjl : j = ws.length := by have := List.getElem?_eq_none_iff.mp hv; (first | assumption | exact omE ‹_› ‹_› | exact omN ‹_› ‹_› | exact om6 ‹_› | exact om7 ‹_› | exact om9 ‹_› ‹_› | exact om11 ‹_› rfl | exact om24 ‹_› ‹_› | exact rm2 ‹_› rfl | exact rm1 ‹_› rfl | exact Nat.le_trans ‹_› ‹_› | exact Nat.lt_of_lt_of_le ‹_› ‹_› | exact Nat.lt_of_le_of_lt ‹_› ‹_› | omega)
      subst hjl
      refine wpAny_bind (wpAny_attempt (wpAny_callSpecial?_slot (name := Str.ofString "__next__") hT slot_listiter_next (listiter_end hh F' N' u (.tail _ (.tail _ (.tail _ hS))) hv fun h₁ h' e F₂ N₂ X₂ => ?_)))
      obtain ⟨ob, tp, he, hc, _⟩ := X₂.there
      refine wpAny_bind (wpAny_isInstance (T := "StopIteration") (b := true) ⟨ob, he, hc⟩ stop_subC ?_)
      refine wpAny_pure (CBack.mk (F₂.keeps X₂.keeps) hoC (fun q hq => ?_) (fun q hq => off' q (.tail _ hq)) hj)
      have z := N₂ q (mem_ins [_, _] hq)
      exact ⟨X₂.keeps _ _ z.1, z.2⟩
    | some v =>
      have hlt : j < ws.length := (List.getElem?_eq_some_iff.mp hv).1
      refine wpAny_bind (wpAny_attempt (wpAny_callSpecial?_slot (name := Str.ofString "__next__") hT slot_listiter_next (listiter_item F' N' u (.tail _ (.tail _ (.tail _ hS))) hv fun h' F₂ N₂ => wpAny_pure ?_)))
      exact ⟨hlt, turn C D j ys nw'' h' tk oC m₁ v E' hj hv F₂ hoC N₂ (fun q hq => off' q (.tail _ hq)) offI hCD hCL hDL (Ne.symm hIC.1) (Ne.symm hIC.2)⟩
theorem compIn_listF {elt tgt : Expr} {ifs : List Expr} {scope : Scope} {cl : List (Str × Addr)} {Fin : Shared → List Value → List (Addr × Obj) → Nat → Prop} {S I : Addr} {c : Nat} {ws : List Value} (J : Nat → List Value → List (Addr × Obj) → Nat → Prop) {NW : List (Addr × Obj)} {K : Nat → List Value → Nat → Prop} (hK : ∀ j ys nw tk, J j ys nw tk → nw = NW ∧ K j ys tk)
    (hh : A.handled = none) (h64 : ws.length < 64) (hJ : ∀ j ys tk, K j ys tk → ys.length ≤ j ∧ j ≤ ws.length) (hS : (S, listOf ws.toArray c) ∈ NW)
    (F : Fr h₀ L s.heap m) (N : News h₀ L s.heap ((I, liObj S 0) :: news)) (off : ∀ q ∈ news, q.1 ≠ I) (J0 : J 0 [] news s.toks)
    (turn : ∀ C D j ys h tk oC m₁ v E', K j ys tk → ws[j]? = some v → Fr h₀ L h m → LCg.NsObj oC m₁ → News h₀ L h ((C, oC) :: (D, LCg.lst ys) :: (I, liObj S (j + 1)) :: NW) → Off2 C D NW → (∀ q ∈ NW, q.1 ≠ I) → C ≠ D → C ≠ L → D ≠ L → C ≠ I → D ≠ I →
      wpAny (model prog w) A (letOwnedTupleGo tgt (.ref I) v) (fun _ s₀ => wpAny (model prog w) A (assign tgt (compEnvC scope cl C env) v) (fun _ s₂ => wpAny (model prog w) A (testsOf ifs (compEnvC scope cl C env)) (fun ok s₃ =>
        if ok = true then wpAny (model prog w) A (eval elt (compEnvC scope cl C env)) (fun y s₄ => CBack h₀ L m C D (ItJ I (liObj S) J) s (j + 1) ys (ys ++ [y]) s₄) E' s₃
        else CBack h₀ L m C D (ItJ I (liObj S) J) s (j + 1) ys ys s₃) E' s₂) E' s₀) E' { s with heap := h, toks := tk })
    (fin : ∀ ys tk, K ws.length ys tk → Fin s ys NW tk) :
    CompIn prog w A h₀ L m env elt tgt ifs scope cl Fin (.ref I) s :=
  compIn_list J hh h64 (fun j ys nw tk h => ⟨(hJ j ys tk (hK _ _ _ _ h).2).1, (hJ j ys tk (hK _ _ _ _ h).2).2, by rw [(hK _ _ _ _ h).1]; exact hS⟩) F N off J0
    (fun C D j ys nw h tk oC m₁ v E' hj => by obtain ⟨rfl, hk⟩ := hK _ _ _ _ hj; exact turn C D j ys h tk oC m₁ v E' hk)
    (fun ys nw tk h => by obtain ⟨rfl, hk⟩ := hK _ _ _ _ h; exact fin ys tk hk)
end
end Mine
end
-- WCompR
section
namespace Mine
theorem rstWCompR : True := by (w_top off); trivial
section
variable {w : World} {mean : ExcName → Option Value} {mg mb : Str → Option Value}
   {dp un : Nat} {gd : Option (List Code)} {cn : Str} {nm : List (Str × NameKind)} {ig ic : Bool} {mo : List (Str × Const)} {a : Addr} {ccd : Value} {outer : List Env} {A₀ : Around} {base h₀ : Heap} {L : Addr} {m : Str → Option Value} {s : Shared} {Q E : Value → Shared → Prop} {news : List (Addr × Obj)}
end
section
variable {prog : Program} {w : World} {A : Around} {E : Value → Shared → Prop} {s : Shared} {h₀ : Heap} {L : Addr} {m : Str → Option Value} {env : Env} {news : List (Addr × Obj)}
noncomputable abbrev rgO (x left step : Int) : Obj := { cls := .type "range_iterator", dict := none, data := .fields #[rawInt x, rawInt left, rawInt step], slots := #[] }
theorem compIn_range {elt tgt : Expr} {ifs : List Expr} {scope : Scope} {cl : List (Str × Addr)} {Fin : Shared → List Value → List (Addr × Obj) → Nat → Prop} {I : Addr} {a step left : Int} {n : Nat} (J : Nat → List Value → List (Addr × Obj) → Nat → Prop)
    (hh : A.handled = none) (h64 : n < 64) (hl : left = (n : Nat)) (hJ : ∀ j ys nw tk, J j ys nw tk → ys.length ≤ j ∧ j ≤ n)
    (F : Fr h₀ L s.heap m) (N : News h₀ L s.heap ((I, rgO a left step) :: news)) (off : ∀ q ∈ news, q.1 ≠ I) (J0 : J 0 [] news s.toks)
    (turn : ∀ C D j ys nw h tk oC m₁ E', J j ys nw tk → j < n → Fr h₀ L h m → LCg.NsObj oC m₁ → News h₀ L h ((C, oC) :: (D, LCg.lst ys) :: (I, rgO (a + ((j + 1 : Nat) : Int) * step) ((n : Int) - ((j + 1 : Nat) : Int)) step) :: nw) → Off2 C D nw → (∀ q ∈ nw, q.1 ≠ I) → C ≠ D → C ≠ L → D ≠ L → C ≠ I → D ≠ I →
      wpAny (model prog w) A (letOwnedTupleGo tgt (.ref I) (.int (a + (j : Nat) * step) tk)) (fun _ s₀ => wpAny (model prog w) A (assign tgt (compEnvC scope cl C env) (.int (a + (j : Nat) * step) tk)) (fun _ s₂ => wpAny (model prog w) A (testsOf ifs (compEnvC scope cl C env)) (fun ok s₃ =>
        if ok = true then wpAny (model prog w) A (eval elt (compEnvC scope cl C env)) (fun y s₄ => CBack h₀ L m C D (ItJ I (fun j' => rgO (a + (j' : Nat) * step) ((n : Int) - (j' : Nat)) step) J) s (j + 1) ys (ys ++ [y]) s₄) E' s₃
        else CBack h₀ L m C D (ItJ I (fun j' => rgO (a + (j' : Nat) * step) ((n : Int) - (j' : Nat)) step) J) s (j + 1) ys ys s₃) E' s₂) E' s₀) E' { s with heap := h, toks := tk + 1 })
    (fin : ∀ ys nw tk, J n ys nw tk → Fin s ys nw tk) :
    CompIn prog w A h₀ L m env elt tgt ifs scope cl Fin (.ref I) s := by
  subst hl
  refine CompIn.mk n (ItJ I (fun j' => rgO (a + (j' : Nat) * step) ((n : Int) - (j' : Nat)) step) J) (fun zs nw tk => J n zs nw tk) ((I, rgO a (n : Nat) step) :: news) hh ?_ F N ⟨news, by simp, off, J0⟩ (.head _) ?_ ?_ fin
  · rintro j ys nw tk ⟨nw'', rfl, _, hj⟩
    have := hJ _ _ _ _ hj
    (first | assumption | exact omE ‹_› ‹_› | exact omN ‹_› ‹_› | exact om6 ‹_› | exact om7 ‹_› | exact om9 ‹_› ‹_› | exact om11 ‹_› rfl | exact om24 ‹_› ‹_› | exact rm2 ‹_› rfl | exact rm1 ‹_› rfl | exact Nat.le_trans ‹_› ‹_› | exact Nat.lt_of_lt_of_le ‹_› ‹_› | exact Nat.lt_of_le_of_lt ‹_› ‹_› | omega)
  · intro s' e Q' E' q
    exact wpAny_pyIter_rangeiter e q
  · rintro C D j ys nw h tk oC m₁ E' ⟨nw'', rfl, offI, hj⟩ F' hoC N' off' hCD hCL hDL
    obtain ⟨_, hjn⟩ := hJ _ _ _ _ hj
    have hIC := off' _ (.head _)
    have zI := N' (I, rgO (a + (j : Nat) * step) ((n : Int) - (j : Nat)) step) (.tail _ (.tail _ (.head _)))
    have keep : ∀ {h₁ : Heap}, (∀ b o, b ≠ I → h.get? b = some o → h₁.get? b = some o) → News h₀ L h₁ ((C, oC) :: (D, LCg.lst ys) :: nw'') := fun k => fa_cons ⟨k _ _ (Ne.symm hIC.1) (N' _ (.head _)).1, (N' _ (.head _)).2⟩ (fa_cons ⟨k _ _ (Ne.symm hIC.2) (N' _ (.tail _ (.head _))).1, (N' _ (.tail _ (.head _))).2⟩ fun q hq => ⟨k _ _ (offI q hq) (N' q (.tail _ (.tail _ (.tail _ hq)))).1, (N' q (.tail _ (.tail _ (.tail _ hq)))).2⟩)
    rcases Nat.lt_or_ge j n with hlt | hge
    · refine wpAny_pyNext_range_item (s := { s with heap := h, toks := tk }) zI.1 (by (first | assumption | exact omE ‹_› ‹_› | exact omN ‹_› ‹_› | exact om6 ‹_› | exact om7 ‹_› | exact om9 ‹_› ‹_› | exact om11 ‹_› rfl | exact om24 ‹_› ‹_› | exact rm2 ‹_› rfl | exact rm1 ‹_› rfl | exact Nat.le_trans ‹_› ‹_› | exact Nat.lt_of_lt_of_le ‹_› ‹_› | exact Nat.lt_of_le_of_lt ‹_› ‹_› | omega)) fun h' hit' hs' => ?_
      have N₂ := keep hs'.extBut
      refine ⟨hlt, turn C D j ys nw'' h' tk oC m₁ E' hj hlt (F'.change hs' zI.2.1 zI.2.2) hoC (fa_cons (N₂ _ (.head _)) (fa_cons (N₂ _ (.tail _ (.head _))) (fa_cons ?_ fun q hq => N₂ _ (.tail _ (.tail _ hq))))) (fun q hq => off' q (.tail _ hq)) offI hCD hCL hDL (Ne.symm hIC.1) (Ne.symm hIC.2)⟩
      have e1 : a + ((j + 1 : Nat) : Int) * step = a + (j : Int) * step + step := by push_cast; rw [Int.add_mul, Int.one_mul, Int.add_assoc]
      have e2 : (n : Int) - ((j + 1 : Nat) : Int) = (n : Int) - (j : Int) - 1 := by push_cast; (first | assumption | exact omE ‹_› ‹_› | exact omN ‹_› ‹_› | exact om6 ‹_› | exact om7 ‹_› | exact om9 ‹_› ‹_› | exact om11 ‹_› rfl | exact om24 ‹_› ‹_› | exact rm2 ‹_› rfl | exact rm1 ‹_› rfl | exact Nat.le_trans ‹_› ‹_› | exact Nat.lt_of_lt_of_le ‹_› ‹_› | exact Nat.lt_of_le_of_lt ‹_› ‹_› | omega)
      rw [e1, e2]
      exact ⟨hit', zI.2⟩
    · have hjl : j = n := Nat.le_antisymm hjn hge
      subst hjl
      refine wpAny_pyNext_range_end (s := { s with heap := h, toks := tk }) hh zI.1 (by (first | assumption | exact omE ‹_› ‹_› | exact omN ‹_› ‹_› | exact om6 ‹_› | exact om7 ‹_› | exact om9 ‹_› ‹_› | exact om11 ‹_› rfl | exact om24 ‹_› ‹_› | exact rm2 ‹_› rfl | exact rm1 ‹_› rfl | exact Nat.le_trans ‹_› ‹_› | exact Nat.lt_of_lt_of_le ‹_› ‹_› | exact Nat.lt_of_le_of_lt ‹_› ‹_› | omega)) fun h' he' => ?_
      have F₂ : Fr h₀ L h' m := ⟨F'.ns.at' fun o e => he' L o (Ne.symm zI.2.1) e, fun b o e => he' b o (fun q => by subst q; rw [zI.2.2] at e; cases e) (F'.keep b o e), F'.above⟩
      exact CBack.mk F₂ hoC (keep he') (fun q hq => off' q (.tail _ hq)) hj
theorem bind_name {x : Str} {px : Pos} {scope : Scope} {cl : List (Str × Addr)} {C : Addr} {v it : Value} {oC : Obj} {m₁ : Str → Option Value} {rest : List (Addr × Obj)} {h : Heap} {tk : Nat} {K : Shared → Prop} (hx : scope.names.lookup x = some .local) (hkind : scope.kind = .function) (hoC : LCg.NsObj oC m₁)
    (N : News h₀ L h ((C, oC) :: rest)) (off : ∀ q ∈ rest, q.1 ≠ C) (F : Fr h₀ L h m)
    (h1 : ∀ h' oC' m₂, Fr h₀ L h' m → LCg.NsObj oC' m₂ → m₂ x = some v → News h₀ L h' ((C, oC') :: rest) → K { s with heap := h', toks := tk + 1 }) :
    wpAny (model prog w) A (letOwnedTupleGo (.Name x px) it v) (fun _ s₀ => wpAny (model prog w) A (assign (.Name x px) (compEnvC scope cl C env) v) (fun _ s₂ => K s₂) E s₀) E { s with heap := h, toks := tk } := by
  show wpAny _ _ (pure ()) _ _ _
  refine wpAny_pure ?_
  have zC := N _ (.head _)
  refine wpAny_assign_Name (wpAny_storeName_local (lookup_relabel_local hx) (hoC.ns zC.1) (fun h₃ hn₃ hs₃ => ?_) (by simp [compEnvC, relabel, hkind]))
  obtain ⟨oC', heC, hoC'⟩ := LCg.ns_obj hn₃
  refine h1 h₃ oC' _ (F.change hs₃ zC.2.1 zC.2.2) hoC' (by simp) (fa_cons ⟨heC, zC.2⟩ fun q hq => ?_)
  · exact ⟨hs₃.extBut _ _ (off q hq) (N q (.tail _ hq)).1, (N q (.tail _ hq)).2⟩
theorem off_of {C D I : Addr} {o1 o2 : Obj} {nw : List (Addr × Obj)} (h1 : C ≠ D) (h2 : C ≠ I) (h : Off2 C D nw) : ∀ q ∈ (D, o1) :: (I, o2) :: nw, q.1 ≠ C := fun q hq => by
  rcases List.mem_cons.mp hq with rfl | hq
  · exact Ne.symm h1
  rcases List.mem_cons.mp hq with rfl | hq
  · exact Ne.symm h2
  · exact (h q hq).1
theorem no_test {ifs : List Expr} {cenv : Env} {K : Shared → Prop} {K' : Shared → Prop} (he : ifs = []) (h : K s) : wpAny (model prog w) A (testsOf ifs cenv) (fun ok s₃ => if ok = true then K s₃ else K' s₃) E s := by
  subst he
  refine wpAny_tests_nil ?_
  simpa using h
theorem one_test {c : Expr} {cenv : Env} {K : Shared → Prop} {K' : Shared → Prop} (h : wpAny (model prog w) A (isTrue c cenv (eval c cenv)) (fun ok s₃ => if ok = true then K s₃ else K' s₃) E s) : wpAny (model prog w) A (testsOf [c] cenv) (fun ok s₃ => if ok = true then K s₃ else K' s₃) E s :=
  wpAny_tests_one h
theorem CBack.fin {C D I : Addr} {J : Nat → List Value → List (Addr × Obj) → Nat → Prop} {j tk' : Nat} {ys zs : List Value} {h' : Heap} {nw' nw : List (Addr × Obj)} {oC : Obj} {oI : Obj} {m' : Str → Option Value} (F : Fr h₀ L h' m) (hoC : LCg.NsObj oC m') (N : News h₀ L h' nw) (sub : ∀ q ∈ (C, oC) :: (D, LCg.lst ys) :: (I, oI) :: nw', q ∈ nw) (off : Off2 C D nw') (hCI : C ≠ I) (hDI : D ≠ I)
    (hJ : J j zs ((I, oI) :: nw') tk') : CBack h₀ L m C D J s j ys zs { s with heap := h', toks := tk' } :=
  ⟨h', tk', (I, oI) :: nw', oC, m', rfl, F, hoC, fun q hq => N q (sub q hq), fun q hq => by
    rcases List.mem_cons.mp hq with rfl | hq
    · exact ⟨Ne.symm hCI, Ne.symm hDI⟩
    · exact off q hq, hJ⟩
theorem pyIter_rg {r : Addr} {a b c : Int} {t u v : Tok} {Q : Value → Shared → Prop} (F : Fr h₀ L s.heap m) (N : News h₀ L s.heap news) (hr : IsRange s.heap r a b c t u v) (hs : Builtin.Range.small a b c = true)
    (h : ∀ I h', Fr h₀ L h' m → News h₀ L h' ((I, rgO a (Builtin.Range.rangeSize a b c) c) :: news) → (∀ q ∈ news, q.1 ≠ I) → Q (.ref I) { s with heap := h' }) : wpAny (model prog w) A (pyIter (.ref r)) Q E s :=
  wpAny_pyIter_range hr hs (h _ _ (F.push _) (N.push F _) fun p hp => Nat.ne_of_lt (Heap.lt_size (N p hp).1))
end
end Mine
end
-- WTup
section
namespace Mine
theorem rstWTup : True := by (w_top off); trivial
section
variable {w : World} {mean : ExcName → Option Value} {mg mb : Str → Option Value}
   {dp un : Nat} {gd : Option (List Code)} {cn : Str} {nm : List (Str × NameKind)} {ig ic : Bool} {mo : List (Str × Const)} {a : Addr} {ccd : Value} {outer : List Env} {A₀ : Around} {base h₀ : Heap} {L : Addr} {m : Str → Option Value} {s : Shared} {Q E : Value → Shared → Prop} {news : List (Addr × Obj)}
end
section
variable {prog : Program} {w : World} {A : Around} {E : Value → Shared → Prop} {s : Shared} {Q : Value → Shared → Prop}
theorem rich_lt {a b : Int} {t u : Tok} (h : Q (.bool (decide (a < b))) s) : wpAny (model prog w) A (richCompare .Lt (.int a t) (.int b u)) Q E s := wpAny_lt_int h
theorem rich_gt {a b : Int} {t u : Tok} (h : Q (.bool (decide (b < a))) s) : wpAny (model prog w) A (richCompare .Gt (.int a t) (.int b u)) Q E s := PyProof.Rows.gt_int h
noncomputable def tLt (p q : Int × Int) : Bool := if p.1 = q.1 then decide (p.2 < q.2) else decide (p.1 < q.1)
theorem tup_lt {x y : Addr} {p q : Int × Int} {t1 t2 t3 t4 : Tok} (hx : s.heap.get? x = some (tupO [.int p.1 t1, .int p.2 t2])) (hy : s.heap.get? y = some (tupO [.int q.1 t3, .int q.2 t4])) (hu : A.units < cLine) (h : Q (.bool (tLt p q)) s) :
    wpAny (model prog w) A (compareOp .Lt (.ref x) (.ref y)) Q E s := by
  have hT : ∀ {z : Addr} {l : List Value}, s.heap.get? z = some (tupO l) → s.TypeIs (.ref z) "tuple" := fun e => ⟨_, e, rfl⟩
  show wpAny _ _ (richCompare .Lt (.ref x) (.ref y)) Q E s
  refine wpAny_richCompare_same_room (hT hx) (hT hy) F.slot_tuple_lt (wpAny_call_entry F.slot_tuple_lt (hT hx) F.entry_tuple_lt ?_ (F.args_tuple_lt_2 _ _)) hu
  show wpAny _ _ (isInstance (.ref y) (.type "tuple") >>= _) _ _ s
  refine wpAny_bind (wpAny_isInstance (hT hy) isSubtype_tuple_tuple ?_)
  simp only [Bool.not_true, Bool.false_eq_true, if_false]
  refine wpAny_bind (wpAny_tupleItemsOf hx rfl ?_)
  refine wpAny_bind (wpAny_tupleItemsOf hy rfl ?_)
  simp only [List.zip_cons_cons, List.zip_nil_right, List.forIn_cons, List.forIn_nil]
  unfold tLt at h
  refine wpAny_bind (wpAny_bind (wpAny_bind (wpAny_eqBool_int ?_)))
  by_cases e1 : p.1 = q.1
  · rw [if_pos e1] at h
    have e1' : (p.1 == q.1) = true := by simpa using e1
    rw [e1']
    refine wpAny_pure (wpAny_bind (wpAny_bind (wpAny_eqBool_int ?_)))
    by_cases e2 : p.2 = q.2
    · have e2' : (p.2 == q.2) = true := by simpa using e2
      rw [e2']
      refine wpAny_pure (wpAny_pure ?_)
      refine wpAny_pure ⟨_, rfl, ⟨(by intro z; cases z), ?_⟩⟩
      have : decide (p.2 < q.2) = false := by simp; (first | assumption | exact omE ‹_› ‹_› | exact omN ‹_› ‹_› | exact om6 ‹_› | exact om7 ‹_› | exact om9 ‹_› ‹_› | exact om11 ‹_› rfl | exact om24 ‹_› ‹_› | exact rm2 ‹_› rfl | exact rm1 ‹_› rfl | exact Nat.le_trans ‹_› ‹_› | exact Nat.lt_of_lt_of_le ‹_› ‹_› | exact Nat.lt_of_le_of_lt ‹_› ‹_› | omega)
      rw [this] at h
      exact h
    · have e2' : (p.2 == q.2) = false := by simpa using e2
      rw [e2']
      refine wpAny_bind (wpAny_rule (wpAny_bind (rich_lt ?_)))
      refine wpAny_bind (wpAny_pure ?_)
      exact wpAny_pure (wpAny_pure (wpAny_pure ⟨_, rfl, ⟨(by intro z; cases z), h⟩⟩))
  · rw [if_neg e1] at h
    have e1' : (p.1 == q.1) = false := by simpa using e1
    rw [e1']
    refine wpAny_bind (wpAny_rule (wpAny_bind (rich_lt ?_)))
    refine wpAny_bind (wpAny_pure ?_)
    exact wpAny_pure (wpAny_pure (wpAny_pure ⟨_, rfl, ⟨(by intro z; cases z), h⟩⟩))
theorem tup_gt {x y : Addr} {p q : Int × Int} {t1 t2 t3 t4 : Tok} (hx : s.heap.get? x = some (tupO [.int p.1 t1, .int p.2 t2])) (hy : s.heap.get? y = some (tupO [.int q.1 t3, .int q.2 t4])) (hu : A.units < cLine) (h : Q (.bool (tLt q p)) s) :
    wpAny (model prog w) A (compareOp .Gt (.ref x) (.ref y)) Q E s := by
  have hT : ∀ {z : Addr} {l : List Value}, s.heap.get? z = some (tupO l) → s.TypeIs (.ref z) "tuple" := fun e => ⟨_, e, rfl⟩
  show wpAny _ _ (richCompare .Gt (.ref x) (.ref y)) Q E s
  refine wpAny_richCompare_same_room (hT hx) (hT hy) F.slot_tuple_gt (wpAny_call_entry F.slot_tuple_gt (hT hx) F.entry_tuple_gt ?_ (F.args_tuple_gt_2 _ _)) hu
  show wpAny _ _ (isInstance (.ref y) (.type "tuple") >>= _) _ _ s
  refine wpAny_bind (wpAny_isInstance (hT hy) isSubtype_tuple_tuple ?_)
  simp only [Bool.not_true, Bool.false_eq_true, if_false]
  refine wpAny_bind (wpAny_tupleItemsOf hx rfl ?_)
  refine wpAny_bind (wpAny_tupleItemsOf hy rfl ?_)
  simp only [List.zip_cons_cons, List.zip_nil_right, List.forIn_cons, List.forIn_nil]
  unfold tLt at h
  refine wpAny_bind (wpAny_bind (wpAny_bind (wpAny_eqBool_int ?_)))
  by_cases e1 : p.1 = q.1
  · rw [if_pos e1.symm] at h
    have e1' : (p.1 == q.1) = true := by simpa using e1
    rw [e1']
    refine wpAny_pure (wpAny_bind (wpAny_bind (wpAny_eqBool_int ?_)))
    by_cases e2 : p.2 = q.2
    · have e2' : (p.2 == q.2) = true := by simpa using e2
      rw [e2']
      refine wpAny_pure (wpAny_pure ?_)
      refine wpAny_pure ⟨_, rfl, ⟨(by intro z; cases z), ?_⟩⟩
      have : decide (q.2 < p.2) = false := by simp; (first | assumption | exact omE ‹_› ‹_› | exact omN ‹_› ‹_› | exact om6 ‹_› | exact om7 ‹_› | exact om9 ‹_› ‹_› | exact om11 ‹_› rfl | exact om24 ‹_› ‹_› | exact rm2 ‹_› rfl | exact rm1 ‹_› rfl | exact Nat.le_trans ‹_› ‹_› | exact Nat.lt_of_lt_of_le ‹_› ‹_› | exact Nat.lt_of_le_of_lt ‹_› ‹_› | omega)
      rw [this] at h
      exact h
    · have e2' : (p.2 == q.2) = false := by simpa using e2
      rw [e2']
      refine wpAny_bind (wpAny_rule (wpAny_bind (rich_gt ?_)))
      refine wpAny_bind (wpAny_pure ?_)
      exact wpAny_pure (wpAny_pure (wpAny_pure ⟨_, rfl, ⟨(by intro z; cases z), h⟩⟩))
  · rw [if_neg (fun z => e1 z.symm)] at h
    have e1' : (p.1 == q.1) = false := by simpa using e1
    rw [e1']
    refine wpAny_bind (wpAny_rule (wpAny_bind (rich_gt ?_)))
    refine wpAny_bind (wpAny_pure ?_)
    exact wpAny_pure (wpAny_pure (wpAny_pure ⟨_, rfl, ⟨(by intro z; cases z), h⟩⟩))
end
end Mine
end
-- WRaise
section
namespace Mine
theorem rstWRaise : True := by (w_top off); trivial
section
variable {w : World} {mean : ExcName → Option Value} {mg mb : Str → Option Value}
   {dp un : Nat} {gd : Option (List Code)} {cn : Str} {nm : List (Str × NameKind)} {ig ic : Bool} {mo : List (Str × Const)} {a : Addr} {ccd : Value} {outer : List Env} {A₀ : Around} {base h₀ : Heap} {L : Addr} {m : Str → Option Value} {s : Shared} {Q E : Value → Shared → Prop} {news : List (Addr × Obj)}
theorem Raise_ownX {M0 : Program} {A : Around} {cn : Str} {cs : Scope} {ccd : Value} {cls : List (Str × Addr)} {x : Str} {C : Addr} {B newId initId : String} {bm : List Value} {mg : Str → Option Value} {np cpos pos : Pos} {e₀ : Expr} {rest : List Expr} {Q : Flow → Shared → Prop} (F : Fr h₀ L s.heap m) (hg : h₀.Ns mainGlobals mg) (O : OwnCls x C bm newId mg h₀) (FB : ExcBaseFacts B newId initId bm) (hh : A.handled = none)
    (h : wpAny (model M0 w) A (spliced (backTo cpos (starEach (e₀ :: rest) (envX cn cs L a ccd cls)))) (fun vs s₂ => vs.length ≤ sizeLine ∧ (∀ b o, h₀.get? b = some o → s₂.heap.get? b = some o) ∧
      ∀ h' e, Heap.MadeExcOf s₂.heap h' e (.ref C) vs → E (.ref e) { s₂ with heap := h' }) E s)
    (he : starEach (e₀ :: rest) (envX cn cs L a ccd cls) = (false, eval e₀ (envX cn cs L a ccd cls)) :: starEach rest (envX cn cs L a ccd cls) := by rfl)
    (hplain : (backTo cpos (starEach rest (envX cn cs L a ccd cls))).any (·.1) = false := by rfl)
    (hk : cs.kind = .function := by rfl) (hx : (envX cn cs L a ccd cls).kindOf x = some .globalImplicit := by rfl) (hd : (x == ("__debug__" : Str)) = false := by decide) :
    wpAny (model M0 w) A (exec (.Raise (some (.Call (.Name x np) (e₀ :: rest) [] cpos)) none pos) (envX cn cs L a ccd cls)) Q E s := by
  obtain ⟨tl, N, nm, q, bs, hdct, sn, sub, ab, col, dd, k0, k1, k2, k3, k5, mN, hC, hN, hni, T⟩ := O.obj
  refine wpAny_Raise_call_subT (C := C) (nm := nm) (q := q) (N := N) (bs := bs) (bm := tl) (hdct := hdct) (sn := sn) (sub := sub) (ab := ab) (col := col) (dd := dd) (k0 := k0) (k1 := k1) (k2 := k2) (k3 := k3) (k5 := k5)
    FB (mN := mN) (T.hasType FB.hasBase) hh (by rw [he]; show (false || (backTo cpos (starEach rest (envX cn cs L a ccd cls))).any (·.1)) = false; rw [hplain]; rfl) hni
    (Calls.Name_function_global hk hx (Calls.loadGlobal_global (env := envX cn cs L a ccd cls) (hg.keeps F.keep) O.bound ⟨rfl, ?_⟩) hd)
  rw [he] at h ⊢
  exact Calls.evalArgs_plain (wpAny_mono h (fun vs s₂ h₂ => ⟨rfl, h₂.1, h₂.2.1 _ _ hC, hN.keeps h₂.2.1, T.keeps h₂.2.1, h₂.2.2⟩) fun _ _ y => y)
theorem hideX_stays {env : Env} {g h : Heap} (hf : env.frame = some L) (hke : env.scope.kind = .function) (K : Below A₀ base outer g) (F : Fr g L h m) : base.StaysIn (hideAll h (Fs (env :: outer))) := fun b o q => by
  have K' := pushX K F hf hke
  exact hideAll_get _ (K'.stays b o q) fun hm => by
    rw [(K'.frames.mem hm).1] at q; cases q
theorem hideX_keeps {env : Env} {g h : Heap} (hf : env.frame = some L) (F : Fr g L h m) : ∀ b o, g.get? b = some o → b ∉ Fs outer → (hideAll h (Fs (env :: outer))).get? b = some o := fun b o q nm => hideAll_get _ (F.keep b o q) fun hm => by
  rcases memX hf hm with z | z
  · rw [z, kts_self F] at q
    cases q
  · exact nm z
theorem hideX_news {env : Env} {g h : Heap} (hf : env.frame = some L) (K : Below A₀ base outer g) (N : News g L h news) : ∀ q ∈ news, (hideAll h (Fs (env :: outer))).get? q.1 = some q.2 ∧ g.get? q.1 = none ∧ base.get? q.1 = none := fun q hq => by
  refine ⟨hideAll_get _ (N q hq).1 fun hm => ?_, (N q hq).2.2, fresh_of_stays K.stays (N q hq).2.2⟩
  rcases memX hf hm with z | z
  · exact (N q hq).2.1 z
  · obtain ⟨o, ho, _⟩ := (K.frames.mem z).2
    rw [(N q hq).2.2] at ho; cases ho
theorem leave_raiseX {M : Model} {A : Around} {env : Env} {g h : Heap} {e : Addr} {s' : Shared} {cls : Value} {vs : List Value} {Q : Unit → Shared → Prop} (hf : env.frame = some L) (hke : env.scope.kind = .function) (K : Below A base outer g) (hx : Heap.MadeExcOf h s'.heap e cls vs) (F : Fr g L h m) (N : News g L h news)
    (hQ : ∀ h' t, RaisedS base g outer e cls t vs news h' → g.UpToSlots h' → Q () { s' with heap := h' }) :
    wpAny M (A.deeper env) (leaving env (.ref e)) Q E s' := by
  have K' := pushX K F hf hke
  have hin : ∀ env' ∈ (env :: outer), ∀ b, env'.frame = some b → b ∈ Fs (env :: outer) := fun env' he b hb => List.mem_filterMap.mpr ⟨env', he, hb⟩
  exact wpAny_leaves_madeW K'.stack hf (fun b o q => of_hideAll _ q) (funFrames_hide K'.frames hin) hx fun h' t x1 x2 x3 x4 =>
    hQ h' t ⟨⟨_, hideX_stays hf hke K F, hideX_keeps hf F, hideX_news hf K N, x1, x3⟩, x2⟩ (((Heap.UpToSlots.of_keeps F.keep).trans (Heap.UpToSlots.of_keeps hx.keeps)).trans x4)
end
end Mine
end
-- WRaise2
section
namespace Mine
theorem rstWRaise2 : True := by (w_top off); trivial
section
variable {w : World} {mean : ExcName → Option Value} {mg mb : Str → Option Value}
   {dp un : Nat} {gd : Option (List Code)} {cn : Str} {nm : List (Str × NameKind)} {ig ic : Bool} {mo : List (Str × Const)} {a : Addr} {ccd : Value} {outer : List Env} {A₀ : Around} {base h₀ : Heap} {L : Addr} {m : Str → Option Value} {s : Shared} {Q E : Value → Shared → Prop} {news : List (Addr × Obj)}
end
section
variable {prog : Program} {w : World} {A₀ : Around} {E : Value → Shared → Prop} {s' : Shared} {base g h : Heap} {outer : List Env} {L a e : Addr} {m : Str → Option Value} {name : Str} {scope : Scope} {cd : Value} {cls : List (Str × Addr)}
  {b₀ : Stmt} {suite : List Stmt} {pos np : Pos} {rest : List ExceptHandler} {Q : Flow → Shared → Prop} {news : List (Addr × Obj)} {KF : Frag}
  {p : Program} {loose : List Str} {mean : ExcName → Option Value} {mg mb : Str → Option Value} {x : Str} {X T' : String}
noncomputable def Hd2 (B h : Heap) (e : Addr) (cls : Value) : Prop :=
  B.StaysIn h ∧ ∃ oe vs T oT ts, h.get? e = some oe ∧ oe.cls = cls ∧ oe.data = .fields vs ∧ vs[1]? = some (.ref T) ∧ vs[2]? = some .none ∧ B.get? T = none ∧ T ≠ e ∧ h.get? T = some oT ∧ oT.data = .fields ts ∧ 3 < ts.size
theorem Hd2.there {B h : Heap} {e : Addr} {cls : Value} (H : Hd2 B h e cls) : ∃ o vs, h.get? e = some o ∧ o.cls = cls ∧ o.data = .fields vs ∧ vs[2]? = some .none := by
  obtain ⟨_, oe, vs, _, _, _, a, b, c, _, d, _⟩ := H
  exact ⟨oe, vs, a, b, c, d⟩
theorem flight2 {M : Model} {A : Around} {E : Value → Shared → Prop} {s : Shared} {B : Heap} {e : Addr} {cls : Value} {Q : Unit → Shared → Prop} (H : Hd2 B s.heap e cls)
    (k : ∀ h', Hd2 B h' e cls → s.heap.UpToSlots h' → Q () { s with heap := h' }) : wpAny M A (setFlight (.ref e) none) Q E s := by
  obtain ⟨st, oe, vs, T, oT, ts, he, hc, hd, h1, h2, hT0, hTe, hT, hdT, h3⟩ := H
  unfold setFlight
  refine wpAny_bind (wpAny_field he hd h1 ?_)
  rw [if_pos (show (Value.ref T != Value.none) = true from by simp)]
  refine wpAny_setField hT hdT h3 (k _ ⟨fun b o q => ?_, oe, vs, T, _, _, (Heap.get?_update_other _ _ hTe).trans he, hc, hd, h1, h2, hT0, hTe, Heap.get?_update_self _ hT (Obj.isFreed_of_fields (Obj.data_mapFields hdT _)), Obj.data_mapFields hdT _, by simpa using h3⟩ fun b o q nf => ⟨o.slots, ?_⟩)
  · exact (Heap.get?_update_other _ _ (fun z => by rw [← z, hT0] at q; cases q)).trans (st b o q)
  · exact (Heap.get?_update_other _ _ (fun z => by rw [← z, hT] at q; injection q with q; subst q; exact nf _ hdT)).trans q
theorem entry2 {M : Model} {A : Around} {E : Value → Shared → Prop} {s : Shared} {B : Heap} {env : Env} {outer : List Env} {L e : Addr} {oe : Obj} {vs : Array Value} {Q : Unit → Shared → Prop}
    (hfr : A.frames = some (env :: outer)) (hl : s.heap.FunFrames B (env :: outer)) (hf : env.frame = some L)
    (he : s.heap.get? e = some oe) (hkb : B.StaysIn s.heap) (hen : B.get? e = none) (hd : oe.data = .fields vs) (hsz : 1 < vs.size) (h1 : vs[1]? = some .none) (h2 : vs[2]? = some .none)
    (k : ∀ h', Hd2 B h' e oe.cls → s.heap.UpToSlots h' → Q () { s with heap := h' }) : wpAny M A (noteFrame (.ref e) env) Q E s := by
  have hene : e ∉ (env :: outer).filterMap (·.frame) := fun hm => by
    obtain ⟨_, o, ho, hnf⟩ := hl.mem hm
    rw [he] at ho; injection ho with ho; subst ho; exact hnf vs hd
  unfold noteFrame
  simp only [hf]
  refine wpAny_bind (wpAny_field he hd h1 ?_)
  rw [if_neg (by decide)]
  refine wpAny_bind (wpAny_frameOf_fun hfr hl hf fun g₁ so => ?_)
  refine wpAny_bind (wpAny_entryPlaceOf fun pl hpl => ?_)
  unfold EntryCells.newEntry newFields
  refine wpAny_bind (wpAny_newObj_type ?_ (hpl.sizeOk5 _ _ _ _ _))
  have e1 : g₁.get? e = some oe := (so.2.1 e hene).trans he
  have st1 : B.StaysIn g₁ := fun b o q => (so.2.1 b fun hm => by rw [(hl.mem hm).1] at q; cases q).trans (hkb b o q)
  generalize hTO : (Obj.mk (Value.type "traceback") none (Data.fields ([Value.none, .ref L, .none, rawInt L, .none] ++ (if pl.isEmpty then List.replicate 6 Value.none else pl)).toArray) #[]) = tO
  have tf : tO.isFreed = false := by subst hTO; rfl
  have e2 := Heap.get?_push_of_some (h := g₁) tO e1
  have hTe : g₁.objs.size ≠ e := Nat.ne_of_gt (Heap.lt_size e1)
  have hd3 := Obj.data_mapFields hd (·.setIfInBounds 1 (Value.ref g₁.objs.size))
  have e3 := Heap.get?_update_self (Obj.mapFields (·.setIfInBounds 1 (Value.ref g₁.objs.size))) e2 (Obj.isFreed_of_fields hd3)
  have hT3 := (Heap.get?_update_other (g₁.push tO) (Obj.mapFields (·.setIfInBounds 1 (Value.ref g₁.objs.size))) (Ne.symm hTe)).trans (Heap.get?_push_size g₁ tf)
  refine wpAny_setField e2 hd hsz (k _ ⟨fun b o q => ?_, _, _, g₁.objs.size, tO, _, e3, Obj.cls_mapFields _ _, hd3, by simp [hsz], by rw [Array.getElem?_setIfInBounds_ne (by decide)]; exact h2, st1.fresh, hTe, hT3, by subst hTO; rfl, by simp⟩ fun b o q nf => ?_)
  · rw [Heap.get?_update_other _ _ (fun z => by rw [← z, hen] at q; cases q)]
    exact Heap.get?_push_of_some _ (st1 b o q)
  · obtain ⟨sl, hs⟩ := so.2.2 b o q
    refine ⟨sl, ?_⟩
    rw [Heap.get?_update_other _ _ (fun z => by rw [← z, he] at q; injection q with q; subst q; exact nf vs hd)]
    exact Heap.get?_push_of_some _ hs
theorem name_BX {M : Model} {A : Around} {E : Value → Shared → Prop} {s : Shared} {K : Frag} {h₀ : Heap} {L a : Addr} {m mg mb : Str → Option Value} {cn : Str} {cs : Scope} {ccd : Value} {cls : List (Str × Addr)} {p : Program} {loose : List Str}
    {x : Str} {pos : Pos} {v : Value} {Q : Value → Shared → Prop} (F : Fr h₀ L s.heap m) (X : K.In h₀) (T : TopRead p loose mg mb h₀) (e : nsIn K mainGlobals x = some none) (hv : bootBuiltins x = some v) (hn : x ≠ "__name__") (h : Q v s)
    (hk : cs.kind = .function := by rfl) (hx : (envX cn cs L a ccd cls).kindOf x = some .globalImplicit := by rfl) (hd : (x == ("__debug__" : Str)) = false := by decide) :
    wpAny M A (eval (.Name x pos) (envX cn cs L a ccd cls)) Q E s :=
  Calls.Name_function_global hk hx (Calls.loadGlobal_builtin (env := envX cn cs L a ccd cls) (T.g.keeps F.keep) (mg_none_of X T.g e) (T.b.keeps F.keep) ((T.builtins x hn).trans hv) h) hd
theorem bareX_keeps (F : Fr g L h m) : ∀ b o, h.get? b = some o → b ∉ (envX name scope L a cd cls :: outer).filterMap (·.frame) → (bare h (envX name scope L a cd cls :: outer)).get? b = some o :=
  fun _ _ q nm => hideAll_get _ q nm
theorem bareX_news (K : Below A₀ base outer g) (F : Fr g L h m) (N : News g L h news) (q : Addr × Obj) (hq : q ∈ news) :
    (bare h (envX name scope L a cd cls :: outer)).get? q.1 = some q.2 ∧ q.1 ≠ L ∧ g.get? q.1 = none := by
  refine ⟨hideAll_get _ (N q hq).1 fun hm => ?_, (N q hq).2⟩
  rcases memX (env := envX name scope L a cd cls) rfl hm with z | z
  · exact (N q hq).2.1 z
  · obtain ⟨_, o, ho, _⟩ := K.frames.mem z
    rw [(N q hq).2.2] at ho; cases ho
theorem bareX_none {b : Addr} {l : List Env} (q : h.get? b = none) : (bare h l).get? b = none := by
  cases e : (bare h l).get? b with
  | none => rfl
  | some o => have := of_hideAll _ e; rw [q] at this; cases this
theorem bareX_frames (K : Below A₀ base outer g) (F : Fr g L h m) (hk : scope.kind = .function) {h' : Heap} (hx : ∀ b o, h.get? b = some o → h'.get? b = some o) : h'.FunFrames (bare h (envX name scope L a cd cls :: outer)) (envX name scope L a cd cls :: outer) := by
  have K' := pushX (env := envX name scope L a cd cls) K F rfl hk
  exact (funFrames_hide K'.frames fun env he b hb => List.mem_filterMap.mpr ⟨env, he, hb⟩).of_keeps fun b o hb _ => ⟨o, hx b o hb, rfl⟩

theorem caught_newX (hx : Heap.NewExc h s'.heap e X) (K : Below A₀ base outer g) (F : Fr g L h m) (N : News g L h news) (XB : KF.In base) (TB : Top p loose mean mg mb base) (D : KtsDicts (Fs outer) g)
    (ex : nsIn KF mainGlobals x = some none) (hv : bootBuiltins x = some (.type T')) (hn' : x ≠ "__name__")
    (hexc : isSubtype (.type T') (.type "BaseException") = pure true) (hnt : isSubtype (.type ((Manifest.find? T').elim "type" fun y => y.metatype)) (.type "tuple") = pure false) (hsub : isSubtype (.type X) (.type T') = pure true)
    (k : ∀ h' g', (∃ o vs, h'.get? e = some o ∧ o.cls = .type X ∧ o.data = .fields vs ∧ vs[2]? = some .none) → KtsTurn (Fs outer) g g' → Fr g' L h' m → News g' L h' news → Below A₀ base outer g' → KF.In g' → Top p loose mean mg mb g' → KtsDicts (Fs outer) g' →
      wpAny (model prog w) ((A₀.deeper (envX name scope L a cd cls)).mark (some (.ref e))) (execs (b₀ :: suite) (envX name scope L a cd cls)) Q E { s' with heap := h' })
    (hk : scope.kind = .function := by rfl) (hkx : (envX name scope L a cd cls).kindOf x = some .globalImplicit := by rfl) (hdx : (x == ("__debug__" : Str)) = false := by decide)
    (hE : PassesOwnAt (model prog w) ((A₀.deeper (envX name scope L a cd cls)).mark (some (.ref e))) (A₀.deeper (envX name scope L a cd cls)) (envX name scope L a cd cls) E := by passes_own) :
    wpAny (model prog w) (A₀.deeper (envX name scope L a cd cls)) (noteFrame (.ref e) (envX name scope L a cd cls))
      (fun _ s₂ => wpAny (model prog w) (A₀.deeper (envX name scope L a cd cls)) (setFlight (.ref e) none) (fun _ s₃ =>
        wpAny (model prog w) (A₀.deeper (envX name scope L a cd cls)) (handleBy (.ref e) (envX name scope L a cd cls) (.ExceptHandler (some (.Name x np)) none (b₀ :: suite) pos :: rest)) Q E s₃) E s₂) E s' := by
  have K' := pushX (env := envX name scope L a cd cls) K F rfl hk
  obtain ⟨ob, tp, he, hcls, hd⟩ := hx.there
  have hen := bareX_none (l := envX name scope L a cd cls :: outer) hx.new
  refine entry2 K'.stack (bareX_frames K F hk hx.keeps) rfl he (fun b o q => hx.keeps b o (of_hideAll _ q)) hen hd (by show 1 < 6; decide) rfl rfl fun h₄ H₄ u₄ => ?_
  rw [hcls] at H₄
  have sm₄ : h.UpToSlots h₄ := (Heap.UpToSlots.of_keeps hx.keeps).trans u₄
  refine flight2 H₄ fun h₅ H₅ u₅ => ?_
  have sm₅ := sm₄.trans u₅
  obtain ⟨g₅, T₅, F₅, K₅⟩ := kts_ground (name := name) (scope := scope) (a := a) (cd := cd) (B := bare h (envX name scope L a cd cls :: outer)) K F (bareX_keeps (name := name) (scope := scope) (a := a) (cd := cd) (cls := cls) F) H₅.1 sm₅
  obtain ⟨ob', _, hob, hobc, _⟩ := H₅.there
  refine wpAny_handleBy_builtin (X := X) (T := T') (b := true) hexc hnt hsub (name_BX F₅ (XB.keeps K₅.stays) (topRead_of (TB.keeps K₅.stays)) ex hv hn' ⟨rfl, ⟨ob', hob, hobc⟩, ?_⟩ hk hkx hdx)
  refine flight2 H₅ fun h₆ H₆ u₆ => ?_
  obtain ⟨g₆, T₆, F₆, K₆⟩ := kts_ground (name := name) (scope := scope) (a := a) (cd := cd) (B := bare h (envX name scope L a cd cls :: outer)) K F (bareX_keeps (name := name) (scope := scope) (a := a) (cd := cd) (cls := cls) F) H₆.1 (sm₅.trans u₆)
  have Nl : News g₆ L h₆ news := fun q hq => by
    obtain ⟨z1, z2, z3⟩ := bareX_news (name := name) (scope := scope) (a := a) (cd := cd) (cls := cls) K F N q hq
    exact ⟨H₆.1 _ _ z1, z2, T₆.none_ _ z3⟩
  exact wpAny_passesOwnAt hE (k h₆ g₆ H₆.there T₆ F₆ Nl K₆ (XB.keeps K₆.stays) (TB.keeps K₆.stays) (D.turn T₆))
end
section
variable {prog : Program} {w : World} {A : Around} {E : Value → Shared → Prop} {s : Shared} {env : Env}
theorem plain_unchain : plainId "proto.unchain" = true := by decide +kernel
theorem entry_unchain : entryFor table "proto.unchain" = some Builtin.«proto.unchain» := entryFor_of_fast (by kernel_rfl)
theorem raiseNew_H {α : Type} {e e0 : Addr} {oe o0 : Obj} {v0 ve : Array Value} {Q : α → Shared → Prop} (hh : A.handled = some (.ref e0)) (hne : e ≠ e0) (h0 : s.heap.get? e0 = some o0) (hd0 : o0.data = .fields v0) (hc : v0[2]? = some .none)
    (he : s.heap.get? e = some oe) (hd : oe.data = .fields ve) (hsz : 2 < ve.size) (h : E (.ref e) { s with heap := s.heap.update e (Obj.mapFields (·.setIfInBounds 2 (.ref e0))) }) : wpAny (model prog w) A (raiseNew (.ref e) : Sem α) Q E s := by
  unfold raiseNew
  refine wpAny_bind (wpAny_handled ?_)
  rw [hh]
  have hb : (Value.ref e0 != Value.ref e) = true := by simp; exact fun z => hne z.symm
  simp only [hb, if_true]
  refine wpAny_bind (wpAny_holding (wpAny_runValue (codeAny_builtin entry_unchain ?_)))
  rw [Around.under_plainId plain_unchain _]
  show wpAny _ _ (field (.ref e0) 2 >>= _) _ _ s
  refine wpAny_bind (wpAny_field h0 hd0 hc ?_)
  show wpAny _ _ (ret .none) _ _ s
  refine wpAny_pure ?_
  show wpAny _ _ (updateField e 2 (.ref e0) >>= _) _ _ s
  unfold updateField
  refine wpAny_bind (wpAny_bind (wpAny_load he ?_))
  rw [hd]
  show wpAny _ _ (if 2 < ve.size then _ else _) _ _ s
  rw [if_pos hsz]
  exact wpAny_update he (wpAny_throw h)
theorem made_ne {h h' : Heap} {e e0 : Addr} {cls : Value} {vs : List Value} {o : Obj} (hm : Heap.MadeExcOf h h' e cls vs) (h0 : h.get? e0 = some o) : e ≠ e0 := fun z => by have := hm.new; rw [z, h0] at this; cases this
theorem raiseStmt_H {C N : Addr} {nm q : Str} {bs bm : List Value} {hdct : Bool} {sn : List Str} {sub : List Value} {ab : Bool} {col : Option Bool} {dd : Option Addr} {k0 k1 k2 k3 k5 : Option Value} {newId : String} {e0 : Addr} {x : Sem Value} {Q : Flow → Shared → Prop}
    (hbase : bm.contains (.type "BaseException") = true) (hh : A.handled = some (.ref e0))
    (h : wpAny (model prog w) A x (fun v s₁ => ∃ e t o0 v0, v = .ref e ∧ s₁.heap.get? C = some (excClassObj nm q C N bs bm hdct sn sub ab col dd k0 k1 k2 k3 k5 newId) ∧
      s₁.heap.get? e = some { cls := .ref C, data := .fields #[.ref t, .none, .none, .none, .bool false, .none] } ∧ e ≠ e0 ∧ s₁.heap.get? e0 = some o0 ∧ o0.data = .fields v0 ∧ v0[2]? = some .none ∧
      E (.ref e) { s₁ with heap := s₁.heap.update e (Obj.mapFields (·.setIfInBounds 2 (.ref e0))) }) E s) :
    wpAny (model prog w) A (raiseStmt env (some x) none) Q E s := by
  have hcB : (Value.ref C :: bm).contains (.type "BaseException") = true := by rw [List.contains_cons, hbase, Bool.or_true]
  unfold raiseStmt
  refine wpAny_bind (wpAny_mono h (fun v s₁ h₁ => ?_) fun _ _ x => x)
  refine x4c8 h₁ fun e t o0 v0 ev hC he hne h0 hd0 hc hE => ?_
  subst ev
  obtain ⟨hp, g, d, tk, os⟩ := s₁
  repeat (first | with_reducible refine wpAny_loadPart_at he ?_ | with_reducible refine wpAny_loadPart_at hC ?_ | (with_reducible refine wpAny_isSubtype_exc hC ?_; rw [hcB]) | wp_step)
  exact raiseNew_H hh hne h0 hd0 hc he rfl (by show 2 < 6; decide) hE
theorem Raise_call_H {C N : Addr} {nm q : Str} {bs bm bmB : List Value} {hdct : Bool} {sn : List Str} {sub : List Value} {ab : Bool} {col : Option Bool} {dd : Option Addr} {k0 k1 k2 k3 k5 : Option Value} {B newId initId : String} {e0 : Addr}
    (F : ExcBaseFacts B newId initId bmB) {mN : Str → Option Value} {x : Str} {np cpos pos : Pos} {args : List Expr} {Q : Flow → Shared → Prop}
    (hbase : bm.contains (.type "BaseException") = true) (hh : A.handled = some (.ref e0)) (hplain : (backTo cpos (starEach args env)).any (·.1) = false) (hni : mN "__init__" = none)
    (h : wpAny (model prog w) A (eval (.Name x np) env) (fun f s₁ => f = .ref C ∧ wpAny (model prog w) A (evalArgs (.ref C) true (backTo cpos (starEach args env)) [])
      (fun a s₂ => a.kw = [] ∧ a.pos.length ≤ sizeLine ∧ s₂.heap.get? C = some (excClassObj nm q C N bs bm hdct sn sub ab col dd k0 k1 k2 k3 k5 newId) ∧ s₂.heap.Ns N mN ∧ OwnTail s₂.heap bmB bm ∧
        (∃ o0 v0, s₂.heap.get? e0 = some o0 ∧ o0.data = .fields v0 ∧ v0[2]? = some .none) ∧
        ∀ h' e, Heap.MadeExcOf s₂.heap h' e (.ref C) a.pos → E (.ref e) { s₂ with heap := h'.update e (Obj.mapFields (·.setIfInBounds 2 (.ref e0))) }) E s₁) E s) :
    wpAny (model prog w) A (exec (.Raise (some (.Call (.Name x np) args [] cpos)) none pos) env) Q E s := by
  rw [arm_exec_Raise]
  refine wpAny_bind (wpAny_standAt (raiseStmt_H (C := C) (nm := nm) (q := q) (N := N) (bs := bs) (bm := bm) (hdct := hdct) (sn := sn) (sub := sub) (ab := ab) (col := col) (dd := dd) (k0 := k0) (k1 := k1) (k2 := k2) (k3 := k3) (k5 := k5) (newId := newId) hbase hh (wpAny_bind (wpAny_mono (wpAny_Call_ofName (wpAny_mono h (fun f s₁ h₁ => ?_) fun _ _ x => x)) (fun v s₃ h₃ => wpAny_bind (wpAny_standAt (wpAny_pure h₃))) fun _ _ x => x))))
  obtain ⟨rfl, h₁⟩ := h₁
  unfold callWith
  refine wpAny_bind (wpAny_holding (wpAny_mono h₁ (fun a s₂ h₂ => wpAny_bind (wpAny_standAt ?_)) fun _ _ x => x))
  obtain ⟨apos, akw⟩ := a
  refine c7 h₂ fun hkw hlen hC hn T h3 h₂ => x2c3 h3 fun o0 v0 h0 hd0 hc => ?_
  obtain rfl : akw = [] := hkw
  obtain ⟨hp, g, d, tk, os⟩ := s₂
  simp only [hplain]
  refine wpAny_bind (wpAny_keeperOf_exc hC ?_)
  refine wpAny_bind (wpAny_call_exc_subT (hrest := hlen) F T hC hn hni fun h' e hm => wpAny_bind (wpAny_holding (wpAny_point (wpAny_pure ?_))))
  obtain ⟨t, ht, _, _⟩ := hm.there
  exact ⟨e, t, o0, v0, rfl, hm.keeps _ _ hC, ht, made_ne hm h0, hm.keeps _ _ h0, hd0, hc, h₂ h' e hm⟩
noncomputable def Ctx0 (h : Heap) (e0 : Addr) : Prop := ∃ o0 v0, h.get? e0 = some o0 ∧ o0.data = .fields v0 ∧ v0[2]? = some .none
theorem Raise_ownXH {h₀ : Heap} {L a : Addr} {m : Str → Option Value} {cn : Str} {cs : Scope} {ccd : Value} {cls : List (Str × Addr)} {x : Str} {C e0 : Addr} {B newId initId : String} {bm : List Value} {mg : Str → Option Value} {np cpos pos : Pos} {ee : Expr} {rest : List Expr} {Q : Flow → Shared → Prop} (F : Fr h₀ L s.heap m) (hg : h₀.Ns mainGlobals mg) (O : OwnCls x C bm newId mg h₀) (FB : ExcBaseFacts B newId initId bm) (hh : A.handled = some (.ref e0))
    (h : wpAny (model prog w) A (spliced (backTo cpos (starEach (ee :: rest) (envX cn cs L a ccd cls)))) (fun vs s₂ => vs.length ≤ sizeLine ∧ (∀ b o, h₀.get? b = some o → s₂.heap.get? b = some o) ∧ Ctx0 s₂.heap e0 ∧
      ∀ h' e, Heap.MadeExcOf s₂.heap h' e (.ref C) vs → E (.ref e) { s₂ with heap := h'.update e (Obj.mapFields (·.setIfInBounds 2 (.ref e0))) }) E s)
    (he : starEach (ee :: rest) (envX cn cs L a ccd cls) = (false, eval ee (envX cn cs L a ccd cls)) :: starEach rest (envX cn cs L a ccd cls) := by rfl)
    (hplain : (backTo cpos (starEach rest (envX cn cs L a ccd cls))).any (·.1) = false := by rfl)
    (hk : cs.kind = .function := by rfl) (hx : (envX cn cs L a ccd cls).kindOf x = some .globalImplicit := by rfl) (hd : (x == ("__debug__" : Str)) = false := by decide) :
    wpAny (model prog w) A (exec (.Raise (some (.Call (.Name x np) (ee :: rest) [] cpos)) none pos) (envX cn cs L a ccd cls)) Q E s := by
  obtain ⟨tl, N, nm, q, bs, hdct, sn, sub, ab, col, dd, k0, k1, k2, k3, k5, mN, hC, hN, hni, T⟩ := O.obj
  refine Raise_call_H (C := C) (nm := nm) (q := q) (N := N) (bs := bs) (bm := tl) (hdct := hdct) (sn := sn) (sub := sub) (ab := ab) (col := col) (dd := dd) (k0 := k0) (k1 := k1) (k2 := k2) (k3 := k3) (k5 := k5)
    FB (mN := mN) (T.hasType FB.hasBase) hh (by rw [he]; show (false || (backTo cpos (starEach rest (envX cn cs L a ccd cls))).any (·.1)) = false; rw [hplain]; rfl) hni
    (Calls.Name_function_global hk hx (Calls.loadGlobal_global (env := envX cn cs L a ccd cls) (hg.keeps F.keep) O.bound ⟨rfl, ?_⟩) hd)
  rw [he] at h ⊢
  exact Calls.evalArgs_plain (wpAny_mono h (fun vs s₂ h₂ => ⟨rfl, h₂.1, h₂.2.1 _ _ hC, hN.keeps h₂.2.1, T.keeps h₂.2.1, h₂.2.2.1, h₂.2.2.2⟩) fun _ _ y => y)
theorem leave_raiseXH {base g h h₁ : Heap} {A : Around} {L : Addr} {m : Str → Option Value} {outer : List Env} {news : List (Addr × Obj)} {e e0 : Addr} {s' : Shared} {cls : Value} {vs : List Value} {Q : Unit → Shared → Prop} (hf : env.frame = some L) (hke : env.scope.kind = .function) (K : Below A base outer g) (hx : Heap.MadeExcOf h h₁ e cls vs) (hs : s'.heap = h₁.update e (Obj.mapFields (·.setIfInBounds 2 (.ref e0)))) (F : Fr g L h m) (N : News g L h news)
    (hQ : ∀ h' t, RaisedS base g outer e cls t vs news h' → g.UpToSlots h' → Q () { s' with heap := h' }) :
    wpAny (model prog w) (A.deeper env) (leaving env (.ref e)) Q E s' := by
  have K' := pushX K F hf hke
  have hin : ∀ env' ∈ (env :: outer), ∀ b, env'.frame = some b → b ∈ Fs (env :: outer) := fun env' he b hb => List.mem_filterMap.mpr ⟨env', he, hb⟩
  obtain ⟨t, he, htn, ht⟩ := hx.there
  have kp : ∀ b o, h.get? b = some o → s'.heap.get? b = some o := fun b o q => by
    rw [hs, Heap.get?_update_other _ _ (fun z => by have := hx.new; rw [z, q] at this; cases this)]
    exact hx.keeps b o q
  have hte : t ≠ e := fun z => by rw [z, he] at ht; injection ht with ht; cases ht
  have he' : s'.heap.get? e = some (Obj.mapFields (·.setIfInBounds 2 (.ref e0)) { cls := cls, data := .fields #[.ref t, .none, .none, .none, .bool false, .none] }) := by
    rw [hs]; exact Heap.get?_update_self _ he rfl
  have ht' : s'.heap.get? t = some { cls := .type "tuple", data := .seq vs.toArray } := by
    rw [hs, Heap.get?_update_other _ _ (Ne.symm hte)]; exact ht
  have hst := hideX_stays hf hke K F
  have none_of : ∀ b, h.get? b = none → (hideAll h (Fs (env :: outer))).get? b = none := fun b hb => by
    cases q : (hideAll h (Fs (env :: outer))).get? b with
    | none => rfl
    | some o => have := of_hideAll _ q; rw [hb] at this; cases this
  have htn' := none_of t htn
  refine wpAny_leaving_firstW (base := hideAll h (Fs (env :: outer))) (a0 := .ref t) K'.stack ((funFrames_hide K'.frames hin).of_keeps fun b o hb _ => ⟨o, kp b o hb, rfl⟩) hf he' (fun b o hb => kp b o (of_hideAll _ hb)) (none_of e hx.new) rfl rfl rfl fun h' hL => ?_
  obtain ⟨k1, ⟨_, _, k2⟩, k3, k4⟩ := hL
  refine hQ h' t ⟨⟨_, hst, hideX_keeps hf F, hideX_news hf K N, ⟨k1, none_of e hx.new, k2, k3⟩, htn'⟩, Heap.TupAt.of_slots ⟨_, _, ht', rfl, rfl⟩ k4⟩ ?_
  exact ((Heap.UpToSlots.of_keeps F.keep).trans (Heap.UpToSlots.of_keeps kp)).trans k4
end
end Mine
end
section
local macro_rules | `(tactic| walk_at "pend") => `(tactic| (obtain ⟨B9, X9, P9, XB9, TB9, DD9⟩ := G9; walk_at "post"))
local macro_rules | `(tactic| walk_at "call ref") => callM `pull_item 10 76 "args" [`D9, `h9, `tk9, `F9, `N9, `l9, `ht9] "post"
local macro_rules | `(tactic| walk_at "call ref") => callM `pull_end 8 76 "args" [`D9, `g9, `h9, `tk9, `G9, `T9, `F9, `N9, `l9, `ht9] "pend"
local macro_rules | `(tactic| walk_at "call ref") => callM `pull_dead 6 76 "args" [`D9, `g9, `h9, `tk9, `G9, `T9, `F9, `N9, `l9, `ht9] "pend"
-- WStep
section
namespace Mine
theorem rstWStep : True := by (w_top off); trivial
section
variable {w : World} {mean : ExcName → Option Value} {mg mb : Str → Option Value}
   {dp un : Nat} {gd : Option (List Code)} {cn : Str} {nm : List (Str × NameKind)} {ig ic : Bool} {mo : List (Str × Const)} {a : Addr} {ccd : Value} {outer : List Env} {A₀ : Around} {base h₀ : Heap} {L : Addr} {m : Str → Option Value} {s : Shared} {Q E : Value → Shared → Prop} {news : List (Addr × Obj)}
noncomputable abbrev gbObj (dgb : Addr) (cg : Int) (tcg : Tok) (ck cv : Value) (hk hv ht : Bool) (LI KF : Addr) (ser : Int) (ts : Tok) (tgt : Value) : Obj :=
  ⟨.ref 124, some dgb, .plain, #[some (.int cg tcg), some ck, some cv, some (.bool hk), some (.bool hv), some (.bool ht), some (.ref LI), some (.ref KF), some (.int ser ts), some tgt]⟩
theorem step_item {gb dgb LI KF dKF IT V T : Addr} {cg ser idx : Int} {tcg ts t0 ti : Tok} {ck cv tgt : Value} {hk hv ht : Bool} {i k : Nat} {vs : List Value} {rest : List (Addr × Obj)} (p : Key × Tok)
   (B : Below A₀ base outer h₀) (F : Fr h₀ L s.heap m) (X : (Mine.hd.heap_1 w.params).In h₀) (T' : Top PV LO mean mg mb h₀)
   (N : News h₀ L s.heap ((gb, gbObj dgb cg tcg ck cv hk hv ht LI KF ser ts tgt) :: (LI, liObj V i) :: rest))
   (n1 : @Ne Nat gb LI) (n2 : ∀ q ∈ rest, q.1 ≠ gb) (n3 : ∀ q ∈ rest, q.1 ≠ LI) (mV : (V, listOf vs.toArray k) ∈ rest) (mdg : (dgb, dictOf [] 0) ∈ rest)
   (mKF : (KF, (⟨.ref 267, some dKF, .plain, #[some (.ref IT)]⟩ : Obj)) ∈ rest) (mdKF : (dKF, dictOf [] 0) ∈ rest) (mIT : (IT, (⟨.type "tuple", none, .seq [.int 0 t0].toArray 0, #[]⟩ : Obj)) ∈ rest)
   (mT : (T, (⟨.type "tuple", none, .seq [p.1.val p.2, .int idx ti].toArray 0, #[]⟩ : Obj)) ∈ rest) (hi : vs[i]? = some (.ref T))
   (hd : dp + 8 < recursionLimit) (hu : un + 60 < cLine)
   (hQ : ∀ h' tk', Fr h₀ L h' m → News h₀ L h' ((gb, gbObj dgb cg tcg (p.1.val p.2) (.ref T) true true ht LI KF ser ts tgt) :: (LI, liObj V (i + 1)) :: rest) → s.toks ≤ tk' → Q .none { s with heap := h', toks := tk' }) :
   wpAny (model Challenge.rw_ij0174_01.row.prog w) (AT dp un gd cn nm ig ic mo L a ccd outer) (call (.ref 113) [.ref gb]) Q E s := by
  revert X
  k_fill
  intro X
  refine wpAny_toks (wpAny_call ?_)
  k_dflt k_enter
  refine let_ar ?_; intro ar9
  k_steps
  exact hQ _ _ (by assumption) (news_drop (by assumption) fun _ hq => .tail _ hq) (by first | assumption | omega | (dsimp only; omega) | (simp only [List.length_cons, List.length_nil]; omega))
theorem step_end {gb dgb LI KF V : Addr} {cg ser : Int} {tcg ts : Tok} {ck cv tgt : Value} {hk hv ht : Bool} {i k : Nat} {vs : List Value} {rest : List (Addr × Obj)}
   (G : Gd w mean mg mb A₀ base outer h₀) (F : Fr h₀ L s.heap m)
   (N : News h₀ L s.heap ((gb, gbObj dgb cg tcg ck cv hk hv ht LI KF ser ts tgt) :: (LI, liObj V i) :: rest))
   (n1 : @Ne Nat gb LI) (n2 : ∀ q ∈ rest, q.1 ≠ gb) (n3 : ∀ q ∈ rest, q.1 ≠ LI) (mV : (V, listOf vs.toArray k) ∈ rest) (mdg : (dgb, dictOf [] 0) ∈ rest)
   (hi : vs[i]? = none)
   (hd : dp + 8 < recursionLimit) (hu : un + 60 < cLine)
   (hE : ∀ h₁ g h' e t tk', Gd w mean mg mb A₀ base outer h₁ → KtsTurn (Fs outer) h₀ h₁ → Fr h₁ L g m → RaisedS base g (envOf cn ⟨.function, nm, ig, ic, mo⟩ L a ccd :: outer) e (.type "StopIteration") t [] ((gb, gbObj dgb cg tcg ck cv hk hv ht LI KF ser ts tgt) :: (LI, liDead i) :: rest) h' →
     g.UpToSlots h' → s.toks ≤ tk' → E (.ref e) { s with heap := h', toks := tk' }) :
   wpAny (model Challenge.rw_ij0174_01.row.prog w) (AT dp un gd cn nm ig ic mo L a ccd outer) (call (.ref 113) [.ref gb]) Q E s := by
  have G₀ := G
  have B := G.B; have X := G.X; have T' := G.T; have XB := G.XB; have TB := G.TB; have D := G.D
  revert X
  k_fill
  intro X
  refine wpAny_toks (wpAny_call ?_)
  k_dflt kts_go
  refine let_ar ?_; intro ar9
  k_steps
  obtain ⟨h₁, G₁, T₁, F₁⟩ := turn_back G₀ (by assumption) (by assumption)
  exact hE _ _ _ _ _ _ G₁ T₁ F₁ (raised_drop (by assumption) fun _ hq => .tail _ hq) (by assumption) (by first | assumption | omega | (dsimp only; omega) | (simp only [List.length_cons, List.length_nil]; omega))
theorem step_dead {gb dgb LI KF : Addr} {cg ser : Int} {tcg ts : Tok} {ck cv tgt : Value} {hk hv ht : Bool} {i : Nat} {rest : List (Addr × Obj)}
   (G : Gd w mean mg mb A₀ base outer h₀) (F : Fr h₀ L s.heap m)
   (N : News h₀ L s.heap ((gb, gbObj dgb cg tcg ck cv hk hv ht LI KF ser ts tgt) :: (LI, liDead i) :: rest))
   (n1 : @Ne Nat gb LI) (n2 : ∀ q ∈ rest, q.1 ≠ gb) (mdg : (dgb, dictOf [] 0) ∈ rest)
   (hd : dp + 8 < recursionLimit) (hu : un + 60 < cLine)
   (hE : ∀ h₁ g h' e t tk', Gd w mean mg mb A₀ base outer h₁ → KtsTurn (Fs outer) h₀ h₁ → Fr h₁ L g m → RaisedS base g (envOf cn ⟨.function, nm, ig, ic, mo⟩ L a ccd :: outer) e (.type "StopIteration") t [] ((gb, gbObj dgb cg tcg ck cv hk hv ht LI KF ser ts tgt) :: (LI, liDead i) :: rest) h' →
     g.UpToSlots h' → s.toks ≤ tk' → E (.ref e) { s with heap := h', toks := tk' }) :
   wpAny (model Challenge.rw_ij0174_01.row.prog w) (AT dp un gd cn nm ig ic mo L a ccd outer) (call (.ref 113) [.ref gb]) Q E s := by
  have G₀ := G
  have B := G.B; have X := G.X; have T' := G.T; have XB := G.XB; have TB := G.TB; have D := G.D
  revert X
  k_fill
  intro X
  refine wpAny_toks (wpAny_call ?_)
  k_dflt kts_go
  refine let_ar ?_; intro ar9
  k_steps
  obtain ⟨h₁, G₁, T₁, F₁⟩ := turn_back G₀ (by assumption) (by assumption)
  exact hE _ _ _ _ _ _ G₁ T₁ F₁ (raised_drop (by assumption) fun _ hq => .tail _ hq) (by assumption) (by first | assumption | omega | (dsimp only; omega) | (simp only [List.length_cons, List.length_nil]; omega))
end
end Mine
end
section
local macro_rules | `(tactic| walk_at "send") => `(tactic| (obtain ⟨B9, X9, P9, XB9, TB9, DD9⟩ := G9; dsimp only at R9 U9 ht9))
local macro_rules | `(tactic| walk_at "call ref") => callM `step_item 18 113 "args" [`h9, `tk9, `F9, `N9, `ht9] "post"
local macro_rules | `(tactic| walk_at "call ref") => callM `step_end 11 113 "args" [`g91, `g9, `h9, `e9, `t9, `tk9, `G9, `T9, `F9, `R9, `U9, `ht9] "send"
local macro_rules | `(tactic| walk_at "call ref") => callM `same_call2 8 83 "args" [`h9, `tk9, `F9, `N9, `ht9] "post"
local macro_rules | `(tactic| walk_at "call ref") => callM `step_dead 8 113 "args" [`g91, `g9, `h9, `e9, `t9, `tk9, `G9, `T9, `F9, `R9, `U9, `ht9] "send"
-- WGb
section
namespace Mine
theorem rstWGb : True := by (w_top off); trivial
section
variable {w : World} {mean : ExcName → Option Value} {mg mb : Str → Option Value}
   {dp un : Nat} {gd : Option (List Code)} {cn : Str} {nm : List (Str × NameKind)} {ig ic : Bool} {mo : List (Str × Const)} {a : Addr} {ccd : Value} {outer : List Env} {A₀ : Around} {base h₀ : Heap} {L : Addr} {m : Str → Option Value} {s : Shared} {Q E : Value → Shared → Prop} {news : List (Addr × Obj)}
noncomputable abbrev grObj (dgr gb : Addr) (n : Int) (tn : Tok) (tgt : Value) : Obj := ⟨.ref 169, some dgr, .plain, #[some (.int n tn), some (.ref gb), some tgt]⟩
theorem gb_first {gb dgb LI KF dKF IT V T : Addr} {cg ser idx : Int} {tcg ts t0 ti : Tok} {ck cv tgt : Value} {hv : Bool} {i k : Nat} {vs : List Value} {rest : List (Addr × Obj)} (p : Key × Tok)
   (B : Below A₀ base outer h₀) (F : Fr h₀ L s.heap m) (X : (Mine.hd.heap_1 w.params).In h₀) (T' : Top PV LO mean mg mb h₀)
   (N : News h₀ L s.heap ((gb, gbObj dgb cg tcg ck cv false hv false LI KF ser ts tgt) :: (LI, liObj V i) :: rest))
   (n1 : @Ne Nat gb LI) (n2 : ∀ q ∈ rest, q.1 ≠ gb) (n3 : ∀ q ∈ rest, q.1 ≠ LI) (mV : (V, listOf vs.toArray k) ∈ rest) (mdg : (dgb, dictOf [] 0) ∈ rest)
   (mKF : (KF, (⟨.ref 267, some dKF, .plain, #[some (.ref IT)]⟩ : Obj)) ∈ rest) (mdKF : (dKF, dictOf [] 0) ∈ rest) (mIT : (IT, (⟨.type "tuple", none, .seq [.int 0 t0].toArray 0, #[]⟩ : Obj)) ∈ rest)
   (mT : (T, (⟨.type "tuple", none, .seq [p.1.val p.2, .int idx ti].toArray 0, #[]⟩ : Obj)) ∈ rest) (hi : vs[i]? = some (.ref T))
   (hd : dp + 12 < recursionLimit) (hu : un + 100 < cLine)
   (hQ : ∀ h' tk' RT GR dgr t1 t2 t3, Fr h₀ L h' m → News h₀ L h' ((RT, tupO [p.1.val p.2, .ref GR]) :: (GR, grObj dgr gb (ser + 1) t1 (p.1.val p.2)) :: (dgr, dictOf [] 0) :: (gb, gbObj dgb (ser + 1) t2 (p.1.val p.2) (.ref T) true true true LI KF (ser + 1) t3 (p.1.val p.2)) :: (LI, liObj V (i + 1)) :: rest) →
     @LT.lt Nat _ gb dgr → @LT.lt Nat _ LI dgr → (∀ q ∈ rest, @LT.lt Nat _ q.1 dgr) → @LT.lt Nat _ dgr GR → @LT.lt Nat _ GR RT → s.toks ≤ tk' → Q (.ref RT) { s with heap := h', toks := tk' }) :
   wpAny (model Challenge.rw_ij0174_01.row.prog w) (AT dp un gd cn nm ig ic mo L a ccd outer) (call (.ref 120) [.ref gb]) Q E s := by
  revert X
  k_fill
  intro X
  refine wpAny_toks (wpAny_call ?_)
  k_dflt k_enter
  refine let_ar ?_; intro ar9
  k_steps
  exact hQ _ _ _ _ _ _ _ _ (by assumption) (by assumption) (by first | assumption | omega | (dsimp only; omega) | (simp only [List.length_cons, List.length_nil]; omega)) (by first | assumption | omega | (dsimp only; omega) | (simp only [List.length_cons, List.length_nil]; omega)) (by k_all) (by first | assumption | omega | (dsimp only; omega) | (simp only [List.length_cons, List.length_nil]; omega)) (by first | assumption | omega | (dsimp only; omega) | (simp only [List.length_cons, List.length_nil]; omega)) (by first | assumption | omega | (dsimp only; omega) | (simp only [List.length_cons, List.length_nil]; omega))
theorem gb_next {gb dgb LI KF V T : Addr} {cg ser : Int} {tcg ts : Tok} {hv : Bool} {i : Nat} {rest : List (Addr × Obj)} (p q : Key × Tok)
   (B : Below A₀ base outer h₀) (F : Fr h₀ L s.heap m) (X : (Mine.hd.heap_1 w.params).In h₀) (T' : Top PV LO mean mg mb h₀)
   (N : News h₀ L s.heap ((gb, gbObj dgb cg tcg (p.1.val p.2) (.ref T) true hv true LI KF ser ts (q.1.val q.2)) :: (LI, liObj V i) :: rest))
   (n1 : @Ne Nat gb LI) (n2 : ∀ q ∈ rest, q.1 ≠ gb) (n3 : ∀ q ∈ rest, q.1 ≠ LI) (mdg : (dgb, dictOf [] 0) ∈ rest)
   (hp : KeyPair q p) (hne : decide (q.1 = p.1) = false)
   (hd : dp + 12 < recursionLimit) (hu : un + 100 < cLine)
   (hQ : ∀ h' tk' RT GR dgr t1 t2 t3, Fr h₀ L h' m → News h₀ L h' ((RT, tupO [p.1.val p.2, .ref GR]) :: (GR, grObj dgr gb (ser + 1) t1 (p.1.val p.2)) :: (dgr, dictOf [] 0) :: (gb, gbObj dgb (ser + 1) t2 (p.1.val p.2) (.ref T) true hv true LI KF (ser + 1) t3 (p.1.val p.2)) :: (LI, liObj V i) :: rest) →
     @LT.lt Nat _ gb dgr → @LT.lt Nat _ LI dgr → (∀ q ∈ rest, @LT.lt Nat _ q.1 dgr) → @LT.lt Nat _ dgr GR → @LT.lt Nat _ GR RT → s.toks ≤ tk' → Q (.ref RT) { s with heap := h', toks := tk' }) :
   wpAny (model Challenge.rw_ij0174_01.row.prog w) (AT dp un gd cn nm ig ic mo L a ccd outer) (call (.ref 120) [.ref gb]) Q E s := by
  revert X
  k_fill
  intro X
  refine wpAny_toks (wpAny_call ?_)
  k_dflt k_enter
  refine let_ar ?_; intro ar9
  k_steps
  exact hQ _ _ _ _ _ _ _ _ (by assumption) (by assumption) (by first | assumption | omega | (dsimp only; omega) | (simp only [List.length_cons, List.length_nil]; omega)) (by first | assumption | omega | (dsimp only; omega) | (simp only [List.length_cons, List.length_nil]; omega)) (by k_all) (by first | assumption | omega | (dsimp only; omega) | (simp only [List.length_cons, List.length_nil]; omega)) (by first | assumption | omega | (dsimp only; omega) | (simp only [List.length_cons, List.length_nil]; omega)) (by first | assumption | omega | (dsimp only; omega) | (simp only [List.length_cons, List.length_nil]; omega))
theorem gb_dead {gb dgb LI KF : Addr} {cg ser : Int} {tcg ts : Tok} {ck cv tgt : Value} {hv ht : Bool} {i : Nat} {rest : List (Addr × Obj)}
   (G : Gd w mean mg mb A₀ base outer h₀) (F : Fr h₀ L s.heap m)
   (N : News h₀ L s.heap ((gb, gbObj dgb cg tcg ck cv false hv ht LI KF ser ts tgt) :: (LI, liDead i) :: rest))
   (n1 : @Ne Nat gb LI) (n2 : ∀ q ∈ rest, q.1 ≠ gb) (mdg : (dgb, dictOf [] 0) ∈ rest)
   (hd : dp + 12 < recursionLimit) (hu : un + 100 < cLine)
   (hE : ∀ h₁ g h' e t tk' t2, Gd w mean mg mb A₀ base outer h₁ → KtsTurn (Fs outer) h₀ h₁ → Fr h₁ L g m → RaisedS base g (envOf cn ⟨.function, nm, ig, ic, mo⟩ L a ccd :: outer) e (.type "StopIteration") t [] ((gb, gbObj dgb 0 t2 ck cv false hv ht LI KF ser ts tgt) :: (LI, liDead i) :: rest) h' →
     g.UpToSlots h' → s.toks ≤ tk' → E (.ref e) { s with heap := h', toks := tk' }) :
   wpAny (model Challenge.rw_ij0174_01.row.prog w) (AT dp un gd cn nm ig ic mo L a ccd outer) (call (.ref 120) [.ref gb]) Q E s := by
  have G₀ := G
  have B := G.B; have X := G.X; have T' := G.T; have XB := G.XB; have TB := G.TB; have D := G.D
  revert X
  k_fill
  intro X
  refine wpAny_toks (wpAny_call ?_)
  k_dflt kts_go
  refine let_ar ?_; intro ar9
  k_steps
  obtain ⟨h₁, G₁, T₁, F₁⟩ := turn_back G₀ (by assumption) (by assumption)
  exact hE _ _ _ _ _ _ _ G₁ T₁ F₁ (by assumption) (by assumption) (by first | assumption | omega | (dsimp only; omega) | (simp only [List.length_cons, List.length_nil]; omega))
end
end Mine
end
-- WGr
section
namespace Mine
theorem rstWGr : True := by (w_top off); trivial
section
variable {w : World} {mean : ExcName → Option Value} {mg mb : Str → Option Value}
   {dp un : Nat} {gd : Option (List Code)} {cn : Str} {nm : List (Str × NameKind)} {ig ic : Bool} {mo : List (Str × Const)} {a : Addr} {ccd : Value} {outer : List Env} {A₀ : Around} {base h₀ : Heap} {L : Addr} {m : Str → Option Value} {s : Shared} {Q E : Value → Shared → Prop} {news : List (Addr × Obj)}
theorem gr_held {gb dgb LI KF V GR dgr T : Addr} {cg ser : Int} {tcg ts tn : Tok} {i : Nat} {ht : Bool} {tgt0 : Value} {rest : List (Addr × Obj)} (p q : Key × Tok)
   (B : Below A₀ base outer h₀) (F : Fr h₀ L s.heap m) (X : (Mine.hd.heap_1 w.params).In h₀) (T' : Top PV LO mean mg mb h₀)
   (N : News h₀ L s.heap ((gb, gbObj dgb cg tcg (p.1.val p.2) (.ref T) true true ht LI KF ser ts tgt0) :: (LI, liObj V i) :: rest))
   (n1 : @Ne Nat gb LI) (n2 : ∀ q ∈ rest, q.1 ≠ gb) (n3 : ∀ q ∈ rest, q.1 ≠ LI) (mdg : (dgb, dictOf [] 0) ∈ rest) (mGR : (GR, grObj dgr gb cg tn (q.1.val q.2)) ∈ rest) (mdr : (dgr, dictOf [] 0) ∈ rest)
   (hp : KeyPair q p) (he : decide (q.1 = p.1) = true)
   (hd : dp + 12 < recursionLimit) (hu : un + 100 < cLine)
   (hQ : ∀ h' tk', Fr h₀ L h' m → News h₀ L h' ((gb, gbObj dgb cg tcg .none .none false false ht LI KF ser ts tgt0) :: (LI, liObj V i) :: rest) → s.toks ≤ tk' → Q (.ref T) { s with heap := h', toks := tk' }) :
   wpAny (model Challenge.rw_ij0174_01.row.prog w) (AT dp un gd cn nm ig ic mo L a ccd outer) (call (.ref 165) [.ref GR]) Q E s := by
  revert X
  k_fill
  intro X
  refine wpAny_toks (wpAny_call ?_)
  k_dflt k_enter
  refine let_ar ?_; intro ar9
  k_steps
  all_goals first | exact absurd rfl (by assumption) | exact hQ _ _ (by assumption) (by assumption) (by first | assumption | omega | (dsimp only; omega) | (simp only [List.length_cons, List.length_nil]; omega))
theorem gr_item {gb dgb LI KF dKF IT V GR dgr T : Addr} {cg ser idx : Int} {tcg ts tn t0 ti : Tok} {i k : Nat} {ck cv tgt0 : Value} {hk ht : Bool} {vs : List Value} {rest : List (Addr × Obj)} (p q : Key × Tok)
   (B : Below A₀ base outer h₀) (F : Fr h₀ L s.heap m) (X : (Mine.hd.heap_1 w.params).In h₀) (T' : Top PV LO mean mg mb h₀)
   (N : News h₀ L s.heap ((gb, gbObj dgb cg tcg ck cv hk false ht LI KF ser ts tgt0) :: (LI, liObj V i) :: rest))
   (n1 : @Ne Nat gb LI) (n2 : ∀ q ∈ rest, q.1 ≠ gb) (n3 : ∀ q ∈ rest, q.1 ≠ LI) (mV : (V, listOf vs.toArray k) ∈ rest) (mdg : (dgb, dictOf [] 0) ∈ rest)
   (mKF : (KF, (⟨.ref 267, some dKF, .plain, #[some (.ref IT)]⟩ : Obj)) ∈ rest) (mdKF : (dKF, dictOf [] 0) ∈ rest) (mIT : (IT, (⟨.type "tuple", none, .seq [.int 0 t0].toArray 0, #[]⟩ : Obj)) ∈ rest)
   (mT : (T, (⟨.type "tuple", none, .seq [p.1.val p.2, .int idx ti].toArray 0, #[]⟩ : Obj)) ∈ rest) (hi : vs[i]? = some (.ref T))
   (mGR : (GR, grObj dgr gb cg tn (q.1.val q.2)) ∈ rest) (mdr : (dgr, dictOf [] 0) ∈ rest)
   (hp : KeyPair q p) (he : decide (q.1 = p.1) = true)
   (hd : dp + 12 < recursionLimit) (hu : un + 100 < cLine)
   (hQ : ∀ h' tk', Fr h₀ L h' m → News h₀ L h' ((gb, gbObj dgb cg tcg .none .none false false ht LI KF ser ts tgt0) :: (LI, liObj V (i + 1)) :: rest) → s.toks ≤ tk' → Q (.ref T) { s with heap := h', toks := tk' }) :
   wpAny (model Challenge.rw_ij0174_01.row.prog w) (AT dp un gd cn nm ig ic mo L a ccd outer) (call (.ref 165) [.ref GR]) Q E s := by
  revert X
  k_fill
  intro X
  refine wpAny_toks (wpAny_call ?_)
  k_dflt k_enter
  refine let_ar ?_; intro ar9
  k_steps
  all_goals first | exact absurd rfl (by assumption) | exact hQ _ _ (by assumption) (by assumption) (by first | assumption | omega | (dsimp only; omega) | (simp only [List.length_cons, List.length_nil]; omega))
theorem gr_key {gb dgb LI KF dKF IT V GR dgr T : Addr} {cg ser idx : Int} {tcg ts tn t0 ti : Tok} {i k : Nat} {ck cv tgt0 : Value} {hk ht : Bool} {vs : List Value} {rest : List (Addr × Obj)} (p q : Key × Tok)
   (G : Gd w mean mg mb A₀ base outer h₀) (F : Fr h₀ L s.heap m)
   (N : News h₀ L s.heap ((gb, gbObj dgb cg tcg ck cv hk false ht LI KF ser ts tgt0) :: (LI, liObj V i) :: rest))
   (n1 : @Ne Nat gb LI) (n2 : ∀ q ∈ rest, q.1 ≠ gb) (n3 : ∀ q ∈ rest, q.1 ≠ LI) (mV : (V, listOf vs.toArray k) ∈ rest) (mdg : (dgb, dictOf [] 0) ∈ rest)
   (mKF : (KF, (⟨.ref 267, some dKF, .plain, #[some (.ref IT)]⟩ : Obj)) ∈ rest) (mdKF : (dKF, dictOf [] 0) ∈ rest) (mIT : (IT, (⟨.type "tuple", none, .seq [.int 0 t0].toArray 0, #[]⟩ : Obj)) ∈ rest)
   (mT : (T, (⟨.type "tuple", none, .seq [p.1.val p.2, .int idx ti].toArray 0, #[]⟩ : Obj)) ∈ rest) (hi : vs[i]? = some (.ref T))
   (mGR : (GR, grObj dgr gb cg tn (q.1.val q.2)) ∈ rest) (mdr : (dgr, dictOf [] 0) ∈ rest)
   (hp : KeyPair q p) (he : decide (q.1 = p.1) = false)
   (hd : dp + 12 < recursionLimit) (hu : un + 100 < cLine)
   (hE : ∀ h₁ g h' e t tk', Gd w mean mg mb A₀ base outer h₁ → KtsTurn (Fs outer) h₀ h₁ → Fr h₁ L g m → RaisedS base g (envOf cn ⟨.function, nm, ig, ic, mo⟩ L a ccd :: outer) e (.type "StopIteration") t [] ((gb, gbObj dgb cg tcg (p.1.val p.2) (.ref T) true true ht LI KF ser ts tgt0) :: (LI, liObj V (i + 1)) :: rest) h' →
     g.UpToSlots h' → s.toks ≤ tk' → E (.ref e) { s with heap := h', toks := tk' }) :
   wpAny (model Challenge.rw_ij0174_01.row.prog w) (AT dp un gd cn nm ig ic mo L a ccd outer) (call (.ref 165) [.ref GR]) Q E s := by
  have G₀ := G
  have B := G.B; have X := G.X; have T' := G.T; have XB := G.XB; have TB := G.TB; have D := G.D
  revert X
  k_fill
  intro X
  refine wpAny_toks (wpAny_call ?_)
  k_dflt kts_go
  refine let_ar ?_; intro ar9
  k_steps
  all_goals first | exact absurd rfl (by assumption) | exact hE _ _ _ _ _ _ G₀ .refl (by assumption) (by assumption) (by assumption) (by first | assumption | omega | (dsimp only; omega) | (simp only [List.length_cons, List.length_nil]; omega))
theorem gr_end {gb dgb LI KF V GR dgr : Addr} {cg ser : Int} {tcg ts tn : Tok} {i k : Nat} {ck cv tgt0 : Value} {hk ht : Bool} {vs : List Value} {rest : List (Addr × Obj)} (q : Key × Tok)
   (G : Gd w mean mg mb A₀ base outer h₀) (F : Fr h₀ L s.heap m)
   (N : News h₀ L s.heap ((gb, gbObj dgb cg tcg ck cv hk false ht LI KF ser ts tgt0) :: (LI, liObj V i) :: rest))
   (n1 : @Ne Nat gb LI) (n2 : ∀ q ∈ rest, q.1 ≠ gb) (n3 : ∀ q ∈ rest, q.1 ≠ LI) (mV : (V, listOf vs.toArray k) ∈ rest) (mdg : (dgb, dictOf [] 0) ∈ rest)
   (mGR : (GR, grObj dgr gb cg tn (q.1.val q.2)) ∈ rest) (mdr : (dgr, dictOf [] 0) ∈ rest) (hi : vs[i]? = none)
   (hd : dp + 12 < recursionLimit) (hu : un + 100 < cLine)
   (hE : ∀ h₁ g h' e t tk', Gd w mean mg mb A₀ base outer h₁ → KtsTurn (Fs outer) h₀ h₁ → Fr h₁ L g m → RaisedS base g (envOf cn ⟨.function, nm, ig, ic, mo⟩ L a ccd :: outer) e (.type "StopIteration") t [] ((gb, gbObj dgb cg tcg ck cv hk false ht LI KF ser ts tgt0) :: (LI, liDead i) :: rest) h' →
     g.UpToSlots h' → s.toks ≤ tk' → E (.ref e) { s with heap := h', toks := tk' }) :
   wpAny (model Challenge.rw_ij0174_01.row.prog w) (AT dp un gd cn nm ig ic mo L a ccd outer) (call (.ref 165) [.ref GR]) Q E s := by
  have G₀ := G
  have B := G.B; have X := G.X; have T' := G.T; have XB := G.XB; have TB := G.TB; have D := G.D
  revert X
  k_fill
  intro X
  refine wpAny_toks (wpAny_call ?_)
  k_dflt kts_go
  refine let_ar ?_; intro ar9
  k_steps
  · exact absurd rfl (by assumption)
  obtain ⟨h₁, G₁, T₁, F₁⟩ := turn_back G₀ (by assumption) (by assumption)
  exact hE _ _ _ _ _ _ G₁ T₁ F₁ (by assumption) (by assumption) (by first | assumption | omega | (dsimp only; omega) | (simp only [List.length_cons, List.length_nil]; omega))
end
end Mine
end
-- WList
section
namespace Mine
theorem rstWList : True := by (w_top off); trivial
section
variable {w : World} {mean : ExcName → Option Value} {mg mb : Str → Option Value}
   {dp un : Nat} {gd : Option (List Code)} {cn : Str} {nm : List (Str × NameKind)} {ig ic : Bool} {mo : List (Str × Const)} {a : Addr} {ccd : Value} {outer : List Env} {A₀ : Around} {base h₀ : Heap} {L : Addr} {m : Str → Option Value} {s : Shared} {Q E : Value → Shared → Prop} {news : List (Addr × Obj)}
theorem fi_gr_next (p : _) : findIn (Mine.hd.heap_1 p) (.ref 169) "__next__" = some (some (.ref 165)) := by kernel_rfl
theorem fi_gr_iter (p : _) : findIn (Mine.hd.heap_1 p) (.ref 169) "__iter__" = some (some (.ref 158)) := by kernel_rfl
theorem fi_gr_len (p : _) : findIn (Mine.hd.heap_1 p) (.ref 169) "__len__" = some none := by kernel_rfl
theorem fi_gr_hint (p : _) : findIn (Mine.hd.heap_1 p) (.ref 169) "__length_hint__" = some none := by kernel_rfl
theorem isFn_165 (p : _) : isFn (Mine.hd.heap_1 p) (.ref 165) = true := by kernel_rfl
theorem isFn_158 (p : _) : isFn (Mine.hd.heap_1 p) (.ref 158) = true := by kernel_rfl
theorem gr_iter {GR : Addr} (B : Below A₀ base outer h₀) (F : Fr h₀ L s.heap m) (X : (Mine.hd.heap_1 w.params).In h₀) (T' : Top PV LO mean mg mb h₀) (N : News h₀ L s.heap news) {o od : Obj} {dgr : Addr} {sl : Array (Option Value)} (m1 : (GR, (⟨.ref 169, some dgr, .plain, sl⟩ : Obj)) ∈ news) (m2 : (dgr, dictOf [] 0) ∈ news)
   (hd : dp + 3 < recursionLimit) (hu : un + 24 < cLine)
   (hQ : ∀ h' tk', Fr h₀ L h' m → News h₀ L h' news → s.toks ≤ tk' → Q (.ref GR) { s with heap := h', toks := tk' }) :
   wpAny (model Challenge.rw_ij0174_01.row.prog w) (AT dp un gd cn nm ig ic mo L a ccd outer) (call (.ref 158) [.ref GR]) Q E s := by
  revert X
  k_fill
  intro X
  refine wpAny_toks (wpAny_call ?_)
  k_dflt k_enter
  refine let_ar ?_; intro ar9
  k_steps
  exact hQ _ _ (by assumption) (by assumption) (by first | assumption | omega | (dsimp only; omega) | (simp only [List.length_cons, List.length_nil]; omega))
theorem stop_landed {nw : List (Addr × Obj)} {g : Heap} {e t : Addr} {A : Around} {M : Model} {Q : Option Value → Shared → Prop} (G : Gd w mean mg mb A₀ base outer h₀) (F : Fr h₀ L g m)
   (R : RaisedS base g (envOf cn ⟨.function, nm, ig, ic, mo⟩ L a ccd :: outer) e (.type "StopIteration") t [] nw s.heap) (U : g.UpToSlots s.heap)
   (k : ∀ h₂, Gd w mean mg mb A₀ base outer h₂ → KtsTurn (Fs outer) h₀ h₂ → Fr h₂ L s.heap m → News h₂ L s.heap nw → Q none s) : OwitStop M A Q E (.ref e) s := by
  obtain ⟨h₂, G₂, T₂, F₂, N₂, o, ho, hc⟩ := landed G F U R
  unfold OwitStop
  refine wpAny_isInstance (b := true) (show s.TypeIs (.ref e) "StopIteration" from ⟨o, ho, hc⟩) stop_sub ?_
  show (if true = true then Q none s else E (.ref e) s)
  rw [if_pos rfl]
  exact k h₂ G₂ T₂ F₂ N₂
structure RunAt (key : Nat → Key × Tok) (T : Nat → Addr) (idx : Nat → Int) (ti : Nat → Tok) (n : Nat) (gb dgb LI V KF dKF IT : Addr) (t0 : Tok) (k : Nat) (rest : List (Addr × Obj)) : Prop where
  n1 : @Ne Nat gb LI
  n2 : ∀ q ∈ rest, q.1 ≠ gb
  n3 : ∀ q ∈ rest, q.1 ≠ LI
  mV : (V, listOf ((List.range n).map fun j => Value.ref (T j)).toArray k) ∈ rest
  mdg : (dgb, dictOf [] 0) ∈ rest
  mKF : (KF, (⟨.ref 267, some dKF, .plain, #[some (.ref IT)]⟩ : Obj)) ∈ rest
  mdKF : (dKF, dictOf [] 0) ∈ rest
  mIT : (IT, (⟨.type "tuple", none, .seq [.int 0 t0].toArray 0, #[]⟩ : Obj)) ∈ rest
  mT : ∀ j, j < n → (T j, (⟨.type "tuple", none, .seq [(key j).1.val (key j).2, .int (idx j) (ti j)].toArray 0, #[]⟩ : Obj)) ∈ rest
  kp : ∀ i j, i < n → j < n → KeyPair (key i) (key j)
section
variable {key : Nat → Key × Tok} {T : Nat → Addr} {idx : Nat → Int} {ti : Nat → Tok} {n : Nat} {gb dgb LI V KF dKF IT : Addr} {t0 : Tok} {k : Nat} {rest : List (Addr × Obj)}
theorem RunAt.cons (R : RunAt key T idx ti n gb dgb LI V KF dKF IT t0 k rest) (x : Addr × Obj) (h1 : x.1 ≠ gb) (h2 : x.1 ≠ LI) : RunAt key T idx ti n gb dgb LI V KF dKF IT t0 k (x :: rest) :=
  ⟨R.n1, fun q hq => (List.mem_cons.mp hq).elim (fun e => e ▸ h1) (R.n2 q), fun q hq => (List.mem_cons.mp hq).elim (fun e => e ▸ h2) (R.n3 q), .tail _ R.mV, .tail _ R.mdg, .tail _ R.mKF, .tail _ R.mdKF, .tail _ R.mIT, fun j hj => .tail _ (R.mT j hj), R.kp⟩
theorem vs_at {j : Nat} (h : j < n) : ((List.range n).map fun j => Value.ref (T j))[j]? = some (.ref (T j)) := by simp [h]
theorem vs_end {j : Nat} (h : n ≤ j) : ((List.range n).map fun j => Value.ref (T j))[j]? = none := by simp [h]
theorem push_toArray (acc : List Value) (v : Value) : acc.toArray.push v = (acc ++ [v]).toArray := by simp
theorem range_next {acc : List Value} {j e : Nat} (h : j < e) : acc ++ (List.range (e - j)).map (fun i => Value.ref (T (j + i))) = acc ++ [Value.ref (T j)] ++ (List.range (e - (j + 1))).map (fun i => Value.ref (T (j + 1 + i))) := by
  rw [show e - j = (e - (j + 1)) + 1 from om25 h, List.range_succ_eq_map, List.map_cons, List.map_map, List.append_assoc]
  simp only [Nat.add_zero, List.singleton_append, List.cons.injEq, true_and, List.append_cancel_left_eq]
  apply List.map_congr_left
  intro i _
  show Value.ref (T (j + (i + 1))) = _
  rw [show j + (i + 1) = j + 1 + i from Nat.add_right_comm j i 1]
theorem grp_loop (Rn : RunAt key T idx ti n gb dgb LI V KF dKF IT t0 k rest) {GR dgr S : Addr} {res : Value} {cg ser : Int} {tcg ts tn : Tok} {tgt0 : Value} {q : Key × Tok} {e : Nat} (hn : n < 64)
   (mGR : (GR, grObj dgr gb cg tn (q.1.val q.2)) ∈ rest) (mdr : (dgr, dictOf [] 0) ∈ rest) (hS1 : S ≠ gb) (hS2 : S ≠ LI) (hS3 : ∀ q ∈ rest, q.1 ≠ S)
   (he : e ≤ n) (hq : ∀ j, j < n → KeyPair q (key j)) (hk2 : e < n → decide (q.1 = (key e).1) = false)
   (hd : dp + 14 < recursionLimit) (hu : un + 110 < cLine) {R : Result → Shared → Prop} :
   ∀ (r j : Nat) (acc : List Value) (c : Nat) (h₀ : Heap) (s : Shared) (ck cv : Value) (hk : Bool), e - j = r → j ≤ e → (∀ i, j ≤ i → i < e → decide (q.1 = (key i).1) = true) → acc.length ≤ j →
    Gd w mean mg mb A₀ base outer h₀ → Fr h₀ L s.heap m →
    News h₀ L s.heap ((gb, gbObj dgb cg tcg ck cv hk false true LI KF ser ts tgt0) :: (LI, liObj V j) :: (S, listOf acc.toArray c) :: rest) →
    (∀ h₁ h' tk' c', e < n → Gd w mean mg mb A₀ base outer h₁ → KtsTurn (Fs outer) h₀ h₁ → Fr h₁ L h' m →
      News h₁ L h' ((gb, gbObj dgb cg tcg ((key e).1.val (key e).2) (.ref (T e)) true true true LI KF ser ts tgt0) :: (LI, liObj V (e + 1)) :: (S, listOf (acc ++ (List.range (e - j)).map fun i => Value.ref (T (j + i))).toArray c') :: rest) →
      s.toks ≤ tk' → R (.ok (.ret res)) { s with heap := h', toks := tk' }) →
    (∀ h₁ h' tk' c' ck cv, e = n → Gd w mean mg mb A₀ base outer h₁ → KtsTurn (Fs outer) h₀ h₁ → Fr h₁ L h' m →
      News h₁ L h' ((gb, gbObj dgb cg tcg ck cv (if j < e then false else hk) false true LI KF ser ts tgt0) :: (LI, liDead n) :: (S, listOf (acc ++ (List.range (e - j)).map fun i => Value.ref (T (j + i))).toArray c') :: rest) →
      s.toks ≤ tk' → R (.ok (.ret res)) { s with heap := h', toks := tk' }) →
    codeAny (model Challenge.rw_ij0174_01.row.prog w) (AT dp un gd cn nm ig ic mo L a ccd outer) (.builtin "list.extend.loop" ⟨[.ref S, .ref GR, res], []⟩) R s := by
  intro r
  induction r with
  | zero =>
    intro j acc c h₀ s ck cv hk hr hje hkey hacc G F N hQ1 hQ2
    have hje : j = e := by (first | assumption | exact omE ‹_› ‹_› | exact omN ‹_› ‹_› | exact om6 ‹_› | exact om7 ‹_› | exact om9 ‹_› ‹_› | exact om11 ‹_› rfl | exact om24 ‹_› ‹_› | exact rm2 ‹_› rfl | exact rm1 ‹_› rfl | exact Nat.le_trans ‹_› ‹_› | exact Nat.lt_of_lt_of_le ‹_› ‹_› | exact Nat.lt_of_le_of_lt ‹_› ‹_› | omega)
    subst hje
    have Rn' := Rn.cons (S, listOf acc.toArray c) hS1 hS2
    refine codeAny_builtin PySem.F.entry_extend_loop ?_
    rw [Around.under_plainId PySem.F.plain_extend_loop _]
    show wpAny _ (AT dp (un + 1) gd cn nm ig ic mo L a ccd outer) (pyNext (.ref GR) >>= _) _ _ s
    refine wpAny_bind (owit_next F G.X (InstAt.of_news N (.tail _ (.tail _ (.tail _ mGR))) (.tail _ (.tail _ (.tail _ mdr)))) (fi_gr_next _) (isFn_165 _) ?_)
    by_cases hen : j < n
    · refine gr_key (key j) q G F N Rn'.n1 Rn'.n2 Rn'.n3 Rn'.mV Rn'.mdg Rn'.mKF Rn'.mdKF Rn'.mIT (Rn'.mT j hen) (vs_at hen) (.tail _ mGR) (.tail _ mdr) (hq j hen) (hk2 hen) (by (first | assumption | exact omE ‹_› ‹_› | exact omN ‹_› ‹_› | exact om6 ‹_› | exact om7 ‹_› | exact om9 ‹_› ‹_› | exact om11 ‹_› rfl | exact om24 ‹_› ‹_› | exact rm2 ‹_› rfl | exact rm1 ‹_› rfl | exact Nat.le_trans ‹_› ‹_› | exact Nat.lt_of_lt_of_le ‹_› ‹_› | exact Nat.lt_of_le_of_lt ‹_› ‹_› | omega)) (by (first | assumption | exact omE ‹_› ‹_› | exact omN ‹_› ‹_› | exact om6 ‹_› | exact om7 ‹_› | exact om9 ‹_› ‹_› | exact om11 ‹_› rfl | exact om24 ‹_› ‹_› | exact rm2 ‹_› rfl | exact rm1 ‹_› rfl | exact Nat.le_trans ‹_› ‹_› | exact Nat.lt_of_lt_of_le ‹_› ‹_› | exact Nat.lt_of_le_of_lt ‹_› ‹_› | omega)) fun h₁ g h' ex t tk' G₁ T₁ F₁ R₁ U₁ ht => ?_
      refine stop_landed G₁ F₁ R₁ U₁ fun h₂ G₂ T₂ F₂ N₂ => ?_
      refine wpAny_pure (hQ1 h₂ h' tk' c hen G₂ (T₁.trans T₂) F₂ ?_ ht)
      simpa using N₂
    · have hen' : j = n := by (first | assumption | exact omE ‹_› ‹_› | exact omN ‹_› ‹_› | exact om6 ‹_› | exact om7 ‹_› | exact om9 ‹_› ‹_› | exact om11 ‹_› rfl | exact om24 ‹_› ‹_› | exact rm2 ‹_› rfl | exact rm1 ‹_› rfl | exact Nat.le_trans ‹_› ‹_› | exact Nat.lt_of_lt_of_le ‹_› ‹_› | exact Nat.lt_of_le_of_lt ‹_› ‹_› | omega)
      refine gr_end q G F N Rn'.n1 Rn'.n2 Rn'.n3 Rn'.mV Rn'.mdg (.tail _ mGR) (.tail _ mdr) (vs_end (by (first | assumption | exact omE ‹_› ‹_› | exact omN ‹_› ‹_› | exact om6 ‹_› | exact om7 ‹_› | exact om9 ‹_› ‹_› | exact om11 ‹_› rfl | exact om24 ‹_› ‹_› | exact rm2 ‹_› rfl | exact rm1 ‹_› rfl | exact Nat.le_trans ‹_› ‹_› | exact Nat.lt_of_lt_of_le ‹_› ‹_› | exact Nat.lt_of_le_of_lt ‹_› ‹_› | omega))) (by (first | assumption | exact omE ‹_› ‹_› | exact omN ‹_› ‹_› | exact om6 ‹_› | exact om7 ‹_› | exact om9 ‹_› ‹_› | exact om11 ‹_› rfl | exact om24 ‹_› ‹_› | exact rm2 ‹_› rfl | exact rm1 ‹_› rfl | exact Nat.le_trans ‹_› ‹_› | exact Nat.lt_of_lt_of_le ‹_› ‹_› | exact Nat.lt_of_le_of_lt ‹_› ‹_› | omega)) (by (first | assumption | exact omE ‹_› ‹_› | exact omN ‹_› ‹_› | exact om6 ‹_› | exact om7 ‹_› | exact om9 ‹_› ‹_› | exact om11 ‹_› rfl | exact om24 ‹_› ‹_› | exact rm2 ‹_› rfl | exact rm1 ‹_› rfl | exact Nat.le_trans ‹_› ‹_› | exact Nat.lt_of_lt_of_le ‹_› ‹_› | exact Nat.lt_of_le_of_lt ‹_› ‹_› | omega)) fun h₁ g h' ex t tk' G₁ T₁ F₁ R₁ U₁ ht => ?_
      refine stop_landed G₁ F₁ R₁ U₁ fun h₂ G₂ T₂ F₂ N₂ => ?_
      refine wpAny_pure (hQ2 h₂ h' tk' c ck cv hen' G₂ (T₁.trans T₂) F₂ ?_ ht)
      subst hen'
      simpa using N₂
  | succ r ih =>
    intro j acc c h₀ s ck cv hk hr hje hkey hacc G F N hQ1 hQ2
    have hlt : j < e := by (first | assumption | exact omE ‹_› ‹_› | exact omN ‹_› ‹_› | exact om6 ‹_› | exact om7 ‹_› | exact om9 ‹_› ‹_› | exact om11 ‹_› rfl | exact om24 ‹_› ‹_› | exact rm2 ‹_› rfl | exact rm1 ‹_› rfl | exact Nat.le_trans ‹_› ‹_› | exact Nat.lt_of_lt_of_le ‹_› ‹_› | exact Nat.lt_of_le_of_lt ‹_› ‹_› | omega)
    have hltn : j < n := by (first | assumption | exact omE ‹_› ‹_› | exact omN ‹_› ‹_› | exact om6 ‹_› | exact om7 ‹_› | exact om9 ‹_› ‹_› | exact om11 ‹_› rfl | exact om24 ‹_› ‹_› | exact rm2 ‹_› rfl | exact rm1 ‹_› rfl | exact Nat.le_trans ‹_› ‹_› | exact Nat.lt_of_lt_of_le ‹_› ‹_› | exact Nat.lt_of_le_of_lt ‹_› ‹_› | omega)
    have Rn' := Rn.cons (S, listOf acc.toArray c) hS1 hS2
    refine codeAny_builtin PySem.F.entry_extend_loop ?_
    rw [Around.under_plainId PySem.F.plain_extend_loop _]
    show wpAny _ (AT dp (un + 1) gd cn nm ig ic mo L a ccd outer) (pyNext (.ref GR) >>= _) _ _ s
    refine wpAny_bind (owit_next F G.X (InstAt.of_news N (.tail _ (.tail _ (.tail _ mGR))) (.tail _ (.tail _ (.tail _ mdr)))) (fi_gr_next _) (isFn_165 _) ?_)
    refine gr_item (key j) q G.B F G.X G.T N Rn'.n1 Rn'.n2 Rn'.n3 Rn'.mV Rn'.mdg Rn'.mKF Rn'.mdKF Rn'.mIT (Rn'.mT j hltn) (vs_at hltn) (.tail _ mGR) (.tail _ mdr) (hq j hltn) (hkey j (Nat.le_refl _) hlt) (by (first | assumption | exact omE ‹_› ‹_› | exact omN ‹_› ‹_› | exact om6 ‹_› | exact om7 ‹_› | exact om9 ‹_› ‹_› | exact om11 ‹_› rfl | exact om24 ‹_› ‹_› | exact rm2 ‹_› rfl | exact rm1 ‹_› rfl | exact Nat.le_trans ‹_› ‹_› | exact Nat.lt_of_lt_of_le ‹_› ‹_› | exact Nat.lt_of_le_of_lt ‹_› ‹_› | omega)) (by (first | assumption | exact omE ‹_› ‹_› | exact omN ‹_› ‹_› | exact om6 ‹_› | exact om7 ‹_› | exact om9 ‹_› ‹_› | exact om11 ‹_› rfl | exact om24 ‹_› ‹_› | exact rm2 ‹_› rfl | exact rm1 ‹_› rfl | exact Nat.le_trans ‹_› ‹_› | exact Nat.lt_of_lt_of_le ‹_› ‹_› | exact Nat.lt_of_le_of_lt ‹_› ‹_› | omega)) fun h' tk' F' N' ht => ?_
    show wpAny _ _ (updateSeq S (·.push (.ref (T j))) >>= _) _ _ _
    have hS := (N' (S, listOf acc.toArray c) (.tail _ (.tail _ (.head _)))).1
    refine wpAny_bind (wpAny_updateSeq hS rfl ?_ (by simp; have := sizeLine_eq; (first | assumption | exact omE ‹_› ‹_› | exact omN ‹_› ‹_› | exact om6 ‹_› | exact om7 ‹_› | exact om9 ‹_› ‹_› | exact om11 ‹_› rfl | exact om24 ‹_› ‹_› | exact rm2 ‹_› rfl | exact rm1 ‹_› rfl | exact Nat.le_trans ‹_› ‹_› | exact Nat.lt_of_lt_of_le ‹_› ‹_› | exact Nat.lt_of_le_of_lt ‹_› ‹_› | omega)) (by simp; have := sizeLine_eq; (first | assumption | exact omE ‹_› ‹_› | exact omN ‹_› ‹_› | exact om6 ‹_› | exact om7 ‹_› | exact om9 ‹_› ‹_› | exact om11 ‹_› rfl | exact om24 ‹_› ‹_› | exact rm2 ‹_› rfl | exact rm1 ‹_› rfl | exact Nat.le_trans ‹_› ‹_› | exact Nat.lt_of_lt_of_le ‹_› ‹_› | exact Nat.lt_of_le_of_lt ‹_› ‹_› | omega)))
    have hu' := upd_split (f := Obj.mapSeq (·.push (.ref (T j)))) (o' := listOf (acc ++ [Value.ref (T j)]).toArray (c + 1)) F' N' (.tail (p := (gb, _)) (fun z => hS1 z.symm) (.tail (p := (LI, _)) (fun z => hS2 z.symm) (.head hS3))) (by rw [← push_toArray]; simp [Obj.mapSeq]) rfl
    refine wpAny_pure ⟨plainId_quiet PySem.F.plain_extend_loop _, ih (j + 1) (acc ++ [Value.ref (T j)]) _ h₀ _ .none .none false (by (first | assumption | exact omE ‹_› ‹_› | exact omN ‹_› ‹_› | exact om6 ‹_› | exact om7 ‹_› | exact om9 ‹_› ‹_› | exact om11 ‹_› rfl | exact om24 ‹_› ‹_› | exact rm2 ‹_› rfl | exact rm1 ‹_› rfl | exact Nat.le_trans ‹_› ‹_› | exact Nat.lt_of_lt_of_le ‹_› ‹_› | exact Nat.lt_of_le_of_lt ‹_› ‹_› | omega)) hlt (fun i h1 h2 => hkey i (by (first | assumption | exact omE ‹_› ‹_› | exact omN ‹_› ‹_› | exact om6 ‹_› | exact om7 ‹_› | exact om9 ‹_› ‹_› | exact om11 ‹_› rfl | exact om24 ‹_› ‹_› | exact rm2 ‹_› rfl | exact rm1 ‹_› rfl | exact Nat.le_trans ‹_› ‹_› | exact Nat.lt_of_lt_of_le ‹_› ‹_› | exact Nat.lt_of_le_of_lt ‹_› ‹_› | omega)) h2) (by simp; (first | assumption | exact omE ‹_› ‹_› | exact omN ‹_› ‹_› | exact om6 ‹_› | exact om7 ‹_› | exact om9 ‹_› ‹_› | exact om11 ‹_› rfl | exact om24 ‹_› ‹_› | exact rm2 ‹_› rfl | exact rm1 ‹_› rfl | exact Nat.le_trans ‹_› ‹_› | exact Nat.lt_of_lt_of_le ‹_› ‹_› | exact Nat.lt_of_le_of_lt ‹_› ‹_› | omega)) G hu'.1 hu'.2 ?_ ?_⟩
    · intro h₁ h' tk' c' hen G₁ T₁ F₁ N₁ ht'
      refine hQ1 h₁ h' tk' c' hen G₁ T₁ F₁ ?_ (Nat.le_trans ht ht')
      rw [range_next hlt]
      exact N₁
    · intro h₁ h' tk' c' ck cv hen G₁ T₁ F₁ N₁ ht'
      refine hQ2 h₁ h' tk' c' ck cv hen G₁ T₁ F₁ ?_ (Nat.le_trans ht ht')
      rw [range_next hlt, if_pos hlt]
      simpa using N₁
end
end
end Mine
end
-- WList2
section
namespace Mine
theorem rstWList2 : True := by (w_top off); trivial
section
variable {w : World} {mean : ExcName → Option Value} {mg mb : Str → Option Value}
   {dp un : Nat} {gd : Option (List Code)} {cn : Str} {nm : List (Str × NameKind)} {ig ic : Bool} {mo : List (Str × Const)} {a : Addr} {ccd : Value} {outer : List Env} {A₀ : Around} {base h₀ : Heap} {L : Addr} {m : Str → Option Value} {s : Shared} {Q E : Value → Shared → Prop} {news : List (Addr × Obj)}
section
variable {key : Nat → Key × Tok} {T : Nat → Addr} {idx : Nat → Int} {ti : Nat → Tok} {n : Nat} {gb dgb LI V KF dKF IT : Addr} {t0 : Tok} {k : Nat} {rest : List (Addr × Obj)}
theorem grp_all (Rn : RunAt key T idx ti n gb dgb LI V KF dKF IT t0 k rest) {GR dgr S : Addr} {res : Value} {cg ser : Int} {tcg ts tn : Tok} {tgt0 : Value} {j e : Nat} (hn : n < 64)
   (mGR : (GR, grObj dgr gb cg tn ((key j).1.val (key j).2)) ∈ rest) (mdr : (dgr, dictOf [] 0) ∈ rest) (hS1 : S ≠ gb) (hS2 : S ≠ LI) (hS3 : ∀ q ∈ rest, q.1 ≠ S)
   (hje : j < e) (he : e ≤ n) (hkey : ∀ i, j ≤ i → i < e → decide ((key j).1 = (key i).1) = true) (hk2 : e < n → decide ((key j).1 = (key e).1) = false)
   (hd : dp + 14 < recursionLimit) (hu : un + 110 < cLine) {R : Result → Shared → Prop} {c : Nat}
    (G : Gd w mean mg mb A₀ base outer h₀) (F : Fr h₀ L s.heap m)
    (N : News h₀ L s.heap ((gb, gbObj dgb cg tcg ((key j).1.val (key j).2) (.ref (T j)) true true true LI KF ser ts tgt0) :: (LI, liObj V (j + 1)) :: (S, listOf [].toArray c) :: rest))
    (hQ1 : ∀ h₁ h' tk' c', e < n → Gd w mean mg mb A₀ base outer h₁ → KtsTurn (Fs outer) h₀ h₁ → Fr h₁ L h' m →
      News h₁ L h' ((gb, gbObj dgb cg tcg ((key e).1.val (key e).2) (.ref (T e)) true true true LI KF ser ts tgt0) :: (LI, liObj V (e + 1)) :: (S, listOf ((List.range (e - j)).map fun i => Value.ref (T (j + i))).toArray c') :: rest) →
      s.toks ≤ tk' → R (.ok (.ret res)) { s with heap := h', toks := tk' })
    (hQ2 : ∀ h₁ h' tk' c' ck cv, e = n → Gd w mean mg mb A₀ base outer h₁ → KtsTurn (Fs outer) h₀ h₁ → Fr h₁ L h' m →
      News h₁ L h' ((gb, gbObj dgb cg tcg ck cv false false true LI KF ser ts tgt0) :: (LI, liDead n) :: (S, listOf ((List.range (e - j)).map fun i => Value.ref (T (j + i))).toArray c') :: rest) →
      s.toks ≤ tk' → R (.ok (.ret res)) { s with heap := h', toks := tk' }) :
    codeAny (model Challenge.rw_ij0174_01.row.prog w) (AT dp un gd cn nm ig ic mo L a ccd outer) (.builtin "list.extend.loop" ⟨[.ref S, .ref GR, res], []⟩) R s := by
  have hltn : j < n := by (first | assumption | exact omE ‹_› ‹_› | exact omN ‹_› ‹_› | exact om6 ‹_› | exact om7 ‹_› | exact om9 ‹_› ‹_› | exact om11 ‹_› rfl | exact om24 ‹_› ‹_› | exact rm2 ‹_› rfl | exact rm1 ‹_› rfl | exact Nat.le_trans ‹_› ‹_› | exact Nat.lt_of_lt_of_le ‹_› ‹_› | exact Nat.lt_of_le_of_lt ‹_› ‹_› | omega)
  have Rn' := Rn.cons (S, listOf [].toArray c) hS1 hS2
  refine codeAny_builtin PySem.F.entry_extend_loop ?_
  rw [Around.under_plainId PySem.F.plain_extend_loop _]
  show wpAny _ (AT dp (un + 1) gd cn nm ig ic mo L a ccd outer) (pyNext (.ref GR) >>= _) _ _ s
  refine wpAny_bind (owit_next F G.X (InstAt.of_news N (.tail _ (.tail _ (.tail _ mGR))) (.tail _ (.tail _ (.tail _ mdr)))) (fi_gr_next _) (isFn_165 _) ?_)
  refine gr_held (key j) (key j) G.B F G.X G.T N Rn'.n1 Rn'.n2 Rn'.n3 Rn'.mdg (.tail _ mGR) (.tail _ mdr) (Rn.kp j j hltn hltn) (hkey j (Nat.le_refl _) hje) (by (first | assumption | exact omE ‹_› ‹_› | exact omN ‹_› ‹_› | exact om6 ‹_› | exact om7 ‹_› | exact om9 ‹_› ‹_› | exact om11 ‹_› rfl | exact om24 ‹_› ‹_› | exact rm2 ‹_› rfl | exact rm1 ‹_› rfl | exact Nat.le_trans ‹_› ‹_› | exact Nat.lt_of_lt_of_le ‹_› ‹_› | exact Nat.lt_of_le_of_lt ‹_› ‹_› | omega)) (by (first | assumption | exact omE ‹_› ‹_› | exact omN ‹_› ‹_› | exact om6 ‹_› | exact om7 ‹_› | exact om9 ‹_› ‹_› | exact om11 ‹_› rfl | exact om24 ‹_› ‹_› | exact rm2 ‹_› rfl | exact rm1 ‹_› rfl | exact Nat.le_trans ‹_› ‹_› | exact Nat.lt_of_lt_of_le ‹_› ‹_› | exact Nat.lt_of_le_of_lt ‹_› ‹_› | omega)) fun h' tk' F' N' ht => ?_
  show wpAny _ _ (updateSeq S (·.push (.ref (T j))) >>= _) _ _ _
  have hS := (N' (S, listOf [].toArray c) (.tail _ (.tail _ (.head _)))).1
  refine wpAny_bind (wpAny_updateSeq hS rfl ?_ (by simp) (by simp))
  have hu' := upd_split (f := Obj.mapSeq (·.push (.ref (T j)))) (o' := listOf ([Value.ref (T j)]).toArray (c + 1)) F' N' (.tail (p := (gb, _)) (fun z => hS1 z.symm) (.tail (p := (LI, _)) (fun z => hS2 z.symm) (.head hS3))) (by simp [Obj.mapSeq]) rfl
  refine wpAny_pure ⟨plainId_quiet PySem.F.plain_extend_loop _, grp_loop Rn (q := key j) (e := e) hn mGR mdr hS1 hS2 hS3 he (fun i hi => Rn.kp j i hltn hi) hk2 hd hu _ (j + 1) [Value.ref (T j)] _ h₀ _ .none .none false rfl hje (fun i h1 h2 => hkey i (by (first | assumption | exact omE ‹_› ‹_› | exact omN ‹_› ‹_› | exact om6 ‹_› | exact om7 ‹_› | exact om9 ‹_› ‹_› | exact om11 ‹_› rfl | exact om24 ‹_› ‹_› | exact rm2 ‹_› rfl | exact rm1 ‹_› rfl | exact Nat.le_trans ‹_› ‹_› | exact Nat.lt_of_lt_of_le ‹_› ‹_› | exact Nat.lt_of_le_of_lt ‹_› ‹_› | omega)) h2) (by simp) G hu'.1 hu'.2 ?_ ?_⟩
  · intro h₁ h' tk' c' hen G₁ T₁ F₁ N₁ ht'
    refine hQ1 h₁ h' tk' c' hen G₁ T₁ F₁ ?_ (Nat.le_trans ht ht')
    have e1 := range_next (T := T) (acc := []) hje
    simp only [List.nil_append] at e1
    rw [e1]
    exact N₁
  · intro h₁ h' tk' c' ck cv hen G₁ T₁ F₁ N₁ ht'
    refine hQ2 h₁ h' tk' c' ck cv hen G₁ T₁ F₁ ?_ (Nat.le_trans ht ht')
    have e1 := range_next (T := T) (acc := []) hje
    simp only [List.nil_append] at e1
    rw [e1]
    simpa using N₁
theorem gr_code_loop {S GR : Addr} {c : Nat} {R : Result → Shared → Prop} {nw : List (Addr × Obj)} {dgr : Addr} {sl : Array (Option Value)} (hd : dp + 14 < recursionLimit) (hu : un + 130 < cLine)
    (G : Gd w mean mg mb A₀ base outer h₀) (F : Fr h₀ L s.heap m) (mGR : (GR, (⟨.ref 169, some dgr, .plain, sl⟩ : Obj)) ∈ nw) (mdr : (dgr, dictOf [] 0) ∈ nw) (hS3 : ∀ q ∈ nw, q.1 ≠ S) (hGS : S ≠ GR)
    (N : News h₀ L s.heap ((S, listOf [].toArray c) :: nw)) (res : Value)
    (hk : ∀ h' tk' c', Fr h₀ L h' m → News h₀ L h' ((S, listOf [].toArray c') :: nw) → s.toks ≤ tk' → codeAny (model Challenge.rw_ij0174_01.row.prog w) (AT dp un gd cn nm ig ic mo L a ccd outer) (.builtin "list.extend.loop" ⟨[.ref S, .ref GR, res], []⟩) R { s with heap := h', toks := tk' }) :
    wpAny (model Challenge.rw_ij0174_01.row.prog w) (AT dp un gd cn nm ig ic mo L a ccd outer).in1 (Builtin.List.listExtendWith (.ref S) (.ref GR) res)
      (fun fin s' => match fin with | .done f => R (.ok f) s' | .again c' => c'.quiet = true ∧ codeAny (model Challenge.rw_ij0174_01.row.prog w) (AT dp un gd cn nm ig ic mo L a ccd outer) c' R s') (fun e s' => R (.error e) s') s := by
  have I := InstAt.of_news (N := N) (h1 := List.mem_cons_of_mem _ mGR) (h2 := List.mem_cons_of_mem _ mdr)
  unfold Builtin.List.listExtendWith
  refine wpAny_bind (I.type.here ?_)
  have h1 : Builtin.List.listSameRef (.ref S) (.ref GR) = false := by simp [Builtin.List.listSameRef, hGS]
  have h2 : (Value.ref 169 == Value.type "list") = false := by decide
  have h3 : (Value.ref 169 == Value.type "tuple") = false := by decide
  simp only [h1, h2, h3, Bool.or_false, Bool.false_eq_true, if_false]
  refine wpAny_bind (owit_iter F G.X I (fi_gr_iter _) (isFn_158 _) (gr_iter (o := default) (od := default) G.B F G.X G.T N (List.mem_cons_of_mem _ mGR) (List.mem_cons_of_mem _ mdr) (by show dp + 3 < _; (first | assumption | exact omE ‹_› ‹_› | exact omN ‹_› ‹_› | exact om6 ‹_› | exact om7 ‹_› | exact om9 ‹_› ‹_› | exact om11 ‹_› rfl | exact om24 ‹_› ‹_› | exact rm2 ‹_› rfl | exact rm1 ‹_› rfl | exact Nat.le_trans ‹_› ‹_› | exact Nat.lt_of_lt_of_le ‹_› ‹_› | exact Nat.lt_of_le_of_lt ‹_› ‹_› | omega)) (by show un + 1 + 24 < _; (first | assumption | exact omE ‹_› ‹_› | exact omN ‹_› ‹_› | exact om6 ‹_› | exact om7 ‹_› | exact om9 ‹_› ‹_› | exact om11 ‹_› rfl | exact om24 ‹_› ‹_› | exact rm2 ‹_› rfl | exact rm1 ‹_› rfl | exact Nat.le_trans ‹_› ‹_› | exact Nat.lt_of_lt_of_le ‹_› ‹_› | exact Nat.lt_of_le_of_lt ‹_› ‹_› | omega)) fun h' tk' F' N' ht => ?_))
  have I' := InstAt.of_news (N := N') (h1 := List.mem_cons_of_mem _ mGR) (h2 := List.mem_cons_of_mem _ mdr)
  refine owit_it F' G.X I' (fi_gr_next _) ?_
  refine wpAny_bind (wpAny_holding ?_)
  unfold Builtin.List.listLengthHint
  refine wpAny_bind (wpAny_bind (I'.type.here ((looks_findIn (G.X.keeps F'.keep) (fi_gr_len _)).here ?_)))
  show wpAny _ _ (specialOf (Value.ref GR) (Str.ofString "__length_hint__") >>= _) _ _ _
  refine wpAny_bind (wpAny_bind (I'.type.here ((looks_findIn (G.X.keeps F'.keep) (fi_gr_hint _)).here ?_)))
  refine wpAny_pure ?_
  show wpAny _ _ (rule "list.extend.makes-room" >>= fun _ => Builtin.List.listTouch (.ref S) >>= fun _ =>
    again (.builtin "list.extend.loop" ⟨[.ref S, .ref GR, res], []⟩)) _ _ _
  refine wpAny_bind (wpAny_rule ?_)
  refine wpAny_bind ?_
  show wpAny _ _ (updateSeq S (·.push .none) >>= fun _ => updateSeq S (·.pop)) _ _ _
  have u1 := upd_split (f := Obj.mapSeq (·.push Value.none)) (o' := listOf [Value.none].toArray (c + 1)) F' N' (.head hS3) (by simp [Obj.mapSeq]) rfl
  refine wpAny_bind (wpAny_updateSeq (N' _ (.head _)).1 rfl ?_ (by simp) (by simp))
  have u2 := upd_split (f := Obj.mapSeq (·.pop)) (o' := listOf [].toArray (c + 1 + 1)) u1.1 u1.2 (.head hS3) (by simp [Obj.mapSeq]) rfl
  refine wpAny_updateSeq (u1.2 _ (.head _)).1 rfl ?_ (by rw [sizeLine_eq]; simp) (by simp)
  exact wpAny_pure ⟨plainId_quiet PySem.F.plain_extend_loop _, hk _ _ _ u2.1 u2.2 ht⟩
theorem list_group (Rn : RunAt key T idx ti n gb dgb LI V KF dKF IT t0 k rest) {GR dgr : Addr} {cg ser : Int} {tcg ts tn : Tok} {tgt0 : Value} {j e : Nat} (hn : n < 64)
   (mGR : (GR, grObj dgr gb cg tn ((key j).1.val (key j).2)) ∈ rest) (mdr : (dgr, dictOf [] 0) ∈ rest)
   (hje : j < e) (he : e ≤ n) (hkey : ∀ i, j ≤ i → i < e → decide ((key j).1 = (key i).1) = true) (hk2 : e < n → decide ((key j).1 = (key e).1) = false)
   (hd : dp + 14 < recursionLimit) (hu : un + 140 < cLine)
    (G : Gd w mean mg mb A₀ base outer h₀) (F : Fr h₀ L s.heap m)
    (N : News h₀ L s.heap ((gb, gbObj dgb cg tcg ((key j).1.val (key j).2) (.ref (T j)) true true true LI KF ser ts tgt0) :: (LI, liObj V (j + 1)) :: rest))
    (hQ1 : ∀ S h₁ h' tk' c', e < n → Gd w mean mg mb A₀ base outer h₁ → KtsTurn (Fs outer) h₀ h₁ → Fr h₁ L h' m →
      News h₁ L h' ((gb, gbObj dgb cg tcg ((key e).1.val (key e).2) (.ref (T e)) true true true LI KF ser ts tgt0) :: (LI, liObj V (e + 1)) :: (S, listOf ((List.range (e - j)).map fun i => Value.ref (T (j + i))).toArray c') :: rest) →
      @LT.lt Nat _ gb S → @LT.lt Nat _ LI S → (∀ q ∈ rest, @LT.lt Nat _ q.1 S) → s.toks ≤ tk' → Q (.ref S) { s with heap := h', toks := tk' })
    (hQ2 : ∀ S h₁ h' tk' c' ck cv, e = n → Gd w mean mg mb A₀ base outer h₁ → KtsTurn (Fs outer) h₀ h₁ → Fr h₁ L h' m →
      News h₁ L h' ((gb, gbObj dgb cg tcg ck cv false false true LI KF ser ts tgt0) :: (LI, liDead n) :: (S, listOf ((List.range (e - j)).map fun i => Value.ref (T (j + i))).toArray c') :: rest) →
      @LT.lt Nat _ gb S → @LT.lt Nat _ LI S → (∀ q ∈ rest, @LT.lt Nat _ q.1 S) → s.toks ≤ tk' → Q (.ref S) { s with heap := h', toks := tk' }) :
    wpAny (model Challenge.rw_ij0174_01.row.prog w) (AT dp un gd cn nm ig ic mo L a ccd outer) (call (.type "list") [.ref GR]) Q E s := by
  have lt : ∀ q ∈ ((gb, gbObj dgb cg tcg ((key j).1.val (key j).2) (.ref (T j)) true true true LI KF ser ts tgt0) :: (LI, liObj V (j + 1)) :: rest), @LT.lt Nat _ q.1 s.heap.objs.size := fun q hq => Heap.lt_size (N q hq).1
  have g1 := lt _ (.head _)
  have g2 := lt _ (.tail _ (.head _))
  have g3 : ∀ q ∈ rest, @LT.lt Nat _ q.1 s.heap.objs.size := fun q hq => lt q (.tail _ (.tail _ hq))
  have gGR := g3 _ mGR
  dsimp only at g1 g2 gGR
  refine callType_codes (Q₁ := fun obj s₁ => obj = .ref s.heap.objs.size ∧ s₁ = { s with heap := s.heap.push { cls := .type "list", data := .seq #[] } }) PySem.F.called_list (PySem.F.typeCall_list_1 _) PySem.F.entry_list_init
    (code_list_new _ ⟨rfl, rfl⟩) fun obj s₁ h₁ => ?_
  obtain ⟨rfl, rfl⟩ := h₁
  have F₁ : Fr h₀ L (s.heap.push { cls := .type "list", data := .seq #[] }) m := F.push _
  have N₁ := N.push F { cls := .type "list", data := .seq #[] }
  have hS : (s.heap.push { cls := .type "list", data := .seq #[] }).get? s.heap.objs.size = some { cls := .type "list", data := .seq #[] } := Heap.get?_push_size _ rfl
  refine ⟨⟨_, hS, rfl⟩, PySem.F.args_list_init_2 _ _, ?_⟩
  generalize hSz : s.heap.objs.size = S at *
  show wpAny _ (AT dp (un + 1) gd cn nm ig ic mo L a ccd outer).in1 (do let old ← Builtin.List.listItems (.ref S); Builtin.List.listUpdate (.ref S) (fun _ => #[]); letGo old.toList.reverse; Builtin.List.listExtendWith (.ref S) (.ref GR) .none) _ _ _
  refine wpAny_bind ?_
  unfold Builtin.List.listItems
  refine wpAny_bind (wpAny_seqItems hS rfl (wpAny_pure ?_))
  show wpAny _ _ (updateSeq S (fun _ => #[]) >>= fun _ => letGo (#[] : Array Value).toList.reverse >>= fun _ => Builtin.List.listExtendWith (.ref S) (.ref GR) .none) _ _ _
  have gnw : ∀ q ∈ ((gb, gbObj dgb cg tcg ((key j).1.val (key j).2) (.ref (T j)) true true true LI KF ser ts tgt0) :: (LI, liObj V (j + 1)) :: rest), q.1 ≠ S := fun q hq => Nat.ne_of_lt (lt q hq)
  have u1 := upd_split (f := Obj.mapSeq (fun _ => (#[] : Array Value))) (o' := listOf [].toArray 0) F₁ N₁ (.head gnw) (by simp [Obj.mapSeq]) rfl
  refine wpAny_bind (wpAny_updateSeq hS rfl ?_)
  refine wpAny_bind (wpAny_letGo ?_)
  refine gr_code_loop (un := un + 1) (by (first | assumption | exact omE ‹_› ‹_› | exact omN ‹_› ‹_› | exact om6 ‹_› | exact om7 ‹_› | exact om9 ‹_› ‹_› | exact om11 ‹_› rfl | exact om24 ‹_› ‹_› | exact rm2 ‹_› rfl | exact rm1 ‹_› rfl | exact Nat.le_trans ‹_› ‹_› | exact Nat.lt_of_lt_of_le ‹_› ‹_› | exact Nat.lt_of_le_of_lt ‹_› ‹_› | omega)) (by (first | assumption | exact omE ‹_› ‹_› | exact omN ‹_› ‹_› | exact om6 ‹_› | exact om7 ‹_› | exact om9 ‹_› ‹_› | exact om11 ‹_› rfl | exact om24 ‹_› ‹_› | exact rm2 ‹_› rfl | exact rm1 ‹_› rfl | exact Nat.le_trans ‹_› ‹_› | exact Nat.lt_of_lt_of_le ‹_› ‹_› | exact Nat.lt_of_le_of_lt ‹_› ‹_› | omega)) G u1.1 (.tail _ (.tail _ mGR)) (.tail _ (.tail _ mdr)) gnw (Nat.ne_of_gt gGR) u1.2 .none fun h' tk' c' F' N' ht => ?_
  have N'' : News h₀ L h' ((gb, gbObj dgb cg tcg ((key j).1.val (key j).2) (.ref (T j)) true true true LI KF ser ts tgt0) :: (LI, liObj V (j + 1)) :: (S, listOf [].toArray c') :: rest) :=
    news_drop N' fun q hq => by
      rcases List.mem_cons.mp hq with e | hq
      · exact e ▸ .tail _ (.head _)
      rcases List.mem_cons.mp hq with e | hq
      · exact e ▸ .tail _ (.tail _ (.head _))
      rcases List.mem_cons.mp hq with e | hq
      · exact e ▸ .head _
      · exact .tail _ (.tail _ (.tail _ hq))
  refine grp_all Rn (un := un + 1) hn mGR mdr (Nat.ne_of_gt g1) (Nat.ne_of_gt g2) (fun q hq => Nat.ne_of_lt (g3 q hq)) hje he hkey hk2 (by (first | assumption | exact omE ‹_› ‹_› | exact omN ‹_› ‹_› | exact om6 ‹_› | exact om7 ‹_› | exact om9 ‹_› ‹_› | exact om11 ‹_› rfl | exact om24 ‹_› ‹_› | exact rm2 ‹_› rfl | exact rm1 ‹_› rfl | exact Nat.le_trans ‹_› ‹_› | exact Nat.lt_of_lt_of_le ‹_› ‹_› | exact Nat.lt_of_le_of_lt ‹_› ‹_› | omega)) (by (first | assumption | exact omE ‹_› ‹_› | exact omN ‹_› ‹_› | exact om6 ‹_› | exact om7 ‹_› | exact om9 ‹_› ‹_› | exact om11 ‹_› rfl | exact om24 ‹_› ‹_› | exact rm2 ‹_› rfl | exact rm1 ‹_› rfl | exact Nat.le_trans ‹_› ‹_› | exact Nat.lt_of_lt_of_le ‹_› ‹_› | exact Nat.lt_of_le_of_lt ‹_› ‹_› | omega)) G F' N'' ?_ ?_
  · intro h₁ h' tk' c' hen G₁ T₁ F₁ N₁ ht'
    exact ⟨rfl, hQ1 S h₁ h' tk' c' hen G₁ T₁ F₁ N₁ g1 g2 g3 (Nat.le_trans ht ht')⟩
  · intro h₁ h' tk' c' ck cv hen G₁ T₁ F₁ N₁ ht'
    exact ⟨rfl, hQ2 S h₁ h' tk' c' ck cv hen G₁ T₁ F₁ N₁ g1 g2 g3 (Nat.le_trans ht ht')⟩
end
end
end Mine
end
-- WRankA
section
namespace Mine
theorem rstWRankA : True := by (w_top off); trivial
section
variable {w : World} {mean : ExcName → Option Value} {mg mb : Str → Option Value}
   {dp un : Nat} {gd : Option (List Code)} {cn : Str} {nm : List (Str × NameKind)} {ig ic : Bool} {mo : List (Str × Const)} {a : Addr} {ccd : Value} {outer : List Env} {A₀ : Around} {base h₀ : Heap} {L : Addr} {m : Str → Option Value} {s : Shared} {Q E : Value → Shared → Prop} {news : List (Addr × Obj)}
section
variable {Z TO I1 CT TI D dct : Addr} {rest : List (Addr × Obj)} {key : Nat → Key × Tok} {n k : Nat} {tk t1 : Tok} {a' b' : Value}
theorem sorted_zip' (h2 : 2 ≤ n) (hn : n < 64) (a1 : @LT.lt Nat _ I1 TI) (a2 : @LT.lt Nat _ TI TO) (a3 : @LT.lt Nat _ TO Z) (a4 : @LT.lt Nat _ CT I1) (ar : ∀ q ∈ rest, @LT.lt Nat _ q.1 CT) (mD : (D, listOf ((List.range n).map fun j => (key j).1.val (key j).2).toArray k) ∈ rest) (mdc : (dct, dictOf [] 0) ∈ rest)
   (hk : ∀ i j, i < n → j < n → (key i).1.ty = (key j).1.ty)
   (B : Below A₀ base outer h₀) (F : Fr h₀ L s.heap m) (X : (Mine.hd.heap_1 w.params).In h₀) (T' : Top PV LO mean mg mb h₀) (N : News h₀ L s.heap ((Z, zpObj .none false TI TO) :: (TO, tupO [a', b']) :: (TI, tupO [.ref I1, .ref CT]) :: (I1, liObj D 0) :: (CT, ctObj dct 0 tk t1) :: rest))
   (hd : dp + 3 < recursionLimit) (hu : un + 70 < cLine)
   (hQ : ∀ V (T : Nat → Addr) (ti : Nat → Tok) c (p : Array Nat) tl h' tk', Ok n p → Srt (pLt key) p n → (∀ j, j < n → (T j, (⟨.type "tuple", none, .seq [(key (at' p j)).1.val (key (at' p j)).2, .int ((at' p j : Nat) : Int) (ti j)].toArray 0, #[]⟩ : Obj)) ∈ tl ++ rest) →
      Fr h₀ L h' m → News h₀ L h' ((V, listOf ((List.range n).map fun j => Value.ref (T j)).toArray c) :: (tl ++ rest)) → (∀ q ∈ tl ++ rest, @LT.lt Nat _ q.1 V) → s.toks ≤ tk' → Q (.ref V) { s with heap := h', toks := tk' }) :
   wpAny (model Challenge.rw_ij0174_01.row.prog w) (AT dp un gd cn nm ig ic mo L a ccd outer) (call (.builtin "sorted") [.ref Z] [(Str.ofString "reverse", .bool false)]) Q E s := by
  have ar' : ∀ q ∈ rest, @LT.lt Nat _ q.1 I1 := fun q hq => Nat.lt_trans (ar q hq) a4
  have g : ∀ {x : Addr}, @LT.lt Nat _ I1 x → ∀ q ∈ rest, q.1 ≠ x := fun hx q hq => Nat.ne_of_lt (Nat.lt_trans (ar' q hq) hx)
  have b1 := Nat.lt_trans a1 a2
  have b2 := Nat.lt_trans b1 a3
  have b3 := Nat.lt_trans a2 a3
  refine sorted_zip (tk := tk) (t1 := t1) (a' := a') (b' := b') (TI := TI) (rest := (TI, tupO [.ref I1, .ref CT]) :: rest) h2 hn
    ⟨Nat.ne_of_gt a3, Nat.ne_of_gt b2, Nat.ne_of_gt (Nat.lt_trans a4 b2), Nat.ne_of_gt b1, Nat.ne_of_gt (Nat.lt_trans a4 b1), Nat.ne_of_gt a4,
      List.forall_mem_cons.mpr ⟨Nat.ne_of_lt b3, g b2⟩, List.forall_mem_cons.mpr ⟨Nat.ne_of_lt a2, g b1⟩, List.forall_mem_cons.mpr ⟨Nat.ne_of_gt a1, fun q hq => Nat.ne_of_lt (ar' q hq)⟩,
      List.forall_mem_cons.mpr ⟨Nat.ne_of_gt (Nat.lt_trans a4 a1), fun q hq => Nat.ne_of_lt (ar q hq)⟩⟩ (.head _) (.tail _ mD) (.tail _ mdc) hk B F X T' ?_ hd hu ?_
  · exact news_drop N fun q hq => mem_sk (fun h => mem_sk (fun h => mem_rot [_] [_, _] h) h) hq
  · intro V ts c p h' tk' hlen hok hs F' N' l' ht
    have sub : ∀ q ∈ tups key ts ++ rest, q ∈ tups key ts ++ ((TI, tupO [.ref I1, .ref CT]) :: rest) := fun q hq => (List.mem_append.mp hq).elim (List.mem_append_left _) fun h => List.mem_append_right _ (.tail _ h)
    refine hQ V (fun j => (ts.getD (at' p j) (0, 0)).1) (fun j => (ts.getD (at' p j) (0, 0)).2) c p (tups key ts) h' tk' hok hs (fun j hj => ?_) F' ?_ (fun q hq => l' q (sub q hq)) ht
    · have hb : at' p j < ts.length := by rw [hlen]; exact hok.bnd hj
      refine List.mem_append_left _ ?_
      have z := tups_at (key := key) hb
      generalize at' p j = x at hb z ⊢
      have e : ts.getD x (0, 0) = ts[x] := by simp [hb]
      rw [e]
      exact z
    · have e : (p.toList.map fun i => (refs ts).getD i .none) = (List.range n).map fun j => Value.ref (ts.getD (at' p j) (0, 0)).1 := by
        apply List.ext_getElem
        · simp [hok.size]
        · intro j h1 h2
          have hj : j < n := by simpa using h2
          have hb : at' p j < ts.length := by rw [hlen]; exact hok.bnd hj
          have hj' : j < p.size := by rw [hok.size]; exact hj
          have e1 : p[j] = at' p j := by simp [at', Array.getD, hj']
          simp only [List.getElem_map, Array.getElem_toList, List.getElem_range, e1]
          generalize at' p j = x at hb ⊢
          simp [refs, hb]
      rw [← e]
      exact news_drop N' fun q hq => (List.mem_cons.mp hq).elim (fun e => e ▸ .head _) fun h => .tail _ (sub q h)
theorem len_tab {D : Addr} {f : Nat → Value} {c n : Nat} {prog : Program} {A : Around} (N : News h₀ L s.heap news) (hm : (D, listOf ((List.range n).map f).toArray c) ∈ news) (hn : n < 64) (h : Q (.int (n : Nat) (s.toks + 1)) { s with toks := s.toks + 1 + 1 }) :
    wpAny (model prog w) A (call (.builtin "len") [.ref D]) Q E s := KM.len_K N hm (by simp) (by omega) h
theorem zeros {l : Addr} {c n : Nat} {t u : Tok} {prog : Program} {A : Around} (F : Fr h₀ L s.heap m) (N : News h₀ L s.heap news) (hm : (l, listOf [.int 0 t].toArray c) ∈ news) (hn : n < 64)
   (h : ∀ D h', Fr h₀ L h' m → News h₀ L h' ((D, listOf (List.replicate n (.int 0 t)).toArray 0) :: news) → (∀ p ∈ news, p.1 < D) → Q (.ref D) { s with heap := h' }) :
    wpAny (model prog w) A (binaryOp .Mult (.ref l) (.int (n : Nat) u)) Q E s := by
  refine KM.mul F N (vs := [.int 0 t]) (ns := [0]) (News.isList N hm) (.cons 0 t .nil) (by omega) (by omega) (by simp; omega) fun D h' F' N' l1 _ _ _ _ _ _ => h D h' F' ?_ l1
  have e : (List.replicate ((n : Nat) : Int).toNat [Value.int 0 t]).flatten = List.replicate n (.int 0 t) := by
    simp [List.flatten_replicate_singleton]
  rw [e] at N'
  exact N'
theorem set_tab {D : Addr} {vs : List Value} {c j : Nat} {v : Value} {t : Tok} {g : Obj → List (Addr × Obj)} {Q : Unit → Shared → Prop} {prog : Program} {A : Around} (F : Fr h₀ L s.heap m) (N : News h₀ L s.heap news) (U : UpdF D (listOf vs.toArray c) news g) (hj : j < vs.length) (h64 : vs.length < 64)
   (h : ∀ h', Fr h₀ L h' m → News h₀ L h' (g (listOf (vs.set j v).toArray c)) → Q () { s with heap := h' }) :
    wpAny (model prog w) A (setItem (.ref D) (.int (j : Nat) t) v) Q E s := by
  obtain ⟨pre, post, rfl, hg, a, b'⟩ := U.split
  have z := N (D, listOf vs.toArray c) (List.mem_append.mpr (.inr (.head _)))
  refine ki_setAt z.1 (by omega) (by omega) (by simp; omega) (h _ (F.change (Heap.SameBut.update ..) z.2.1 z.2.2) ?_)
  rw [hg]
  refine ki_turn _ N a b' ?_ ?_
  · show vs.toArray.setIfInBounds ((j : Nat) : Int).toNat v = (vs.set j v).toArray
    apply Array.toList_inj.mp
    simp
  · simp
theorem iter_list {V : Addr} {its : Array Value} {c : Nat} {prog : Program} {A : Around} (F : Fr h₀ L s.heap m) (N : News h₀ L s.heap news) (hm : (V, listOf its c) ∈ news)
   (h : ∀ LI h', Fr h₀ L h' m → News h₀ L h' ((LI, liObj V 0) :: news) → (∀ p ∈ news, p.1 < LI) → Q (.ref LI) { s with heap := h' }) :
    wpAny (model prog w) A (call (.builtin "iter") [.ref V]) Q E s := by
  refine call_function_entry (by decide +kernel) (by decide +kernel) kdk_entry_iter (kdk_args_iter _) ?_
  unfold Builtin.«iter»
  refine wpAny_bind (m := someArgs "iter" 1 2 _) (wpAny_of_eq (a := [Value.ref V]) (by first | rfl | kernel_rfl!) ?_)
  refine wpAny_bind (wpAny_pyIter_list (show s.heap.IsList V its from ⟨_, (N _ hm).1, rfl, c, rfl⟩) ?_)
  exact wpAny_pure ⟨_, rfl, h _ _ (F.push _) (N.push F _) fun p hp => Heap.lt_size (N p hp).1⟩
end
end
end Mine
end
-- WFor
section
namespace Mine
theorem rstWFor : True := by (w_top off); trivial
section
variable {w : World} {mean : ExcName → Option Value} {mg mb : Str → Option Value}
   {dp un : Nat} {gd : Option (List Code)} {cn : Str} {nm : List (Str × NameKind)} {ig ic : Bool} {mo : List (Str × Const)} {a : Addr} {ccd : Value} {outer : List Env} {A₀ : Around} {base h₀ : Heap} {L : Addr} {m : Str → Option Value} {s : Shared} {Q E : Value → Shared → Prop} {news : List (Addr × Obj)}
end
section
variable {prog : Program} {w : World} {A : Around} {E : Value → Shared → Prop} {s : Shared} {env : Env}
noncomputable def ForTurn (prog : Program) (w : World) (A : Around) (E : Value → Shared → Prop) (env : Env) (tgt : Expr) (it : Value) (body : List Stmt) (Q : Flow → Shared → Prop) (rest : Shared → Prop) (r : Option Value) (s₁ : Shared) : Prop := match r with
  | none => Q .next s₁
  | some y => wpAny (model prog w) A (letOwnedTupleGo tgt it y) (fun _ s₀ => wpAny (model prog w) A (assign tgt env y) (fun _ s₂ => wpAny (model prog w) A (execs body env) (OwitFlow Q rest) E s₂) E s₀) E s₁
noncomputable def ForK (prog : Program) (w : World) (A : Around) (E : Value → Shared → Prop) (env : Env) (tgt : Expr) (body : List Stmt) (Q : Flow → Shared → Prop) (it : Value) (s₂ : Shared) : Prop :=
  ∃ (J : Nat → Shared → Prop) (n : Nat), J n s₂ ∧ ∀ k s', J k s' → wpAny (model prog w) A (pyNext it) (ForTurn prog w A E env tgt it body Q (fun s₃ => ∃ k', k' < k ∧ J k' s₃)) E s'
theorem for_own {tgt : Expr} {pos : Pos} {iter : Expr} {body : List Stmt} {Q : Flow → Shared → Prop}
    (h : wpAny (model prog w) A (eval iter env) (fun xv s₁ => wpAny (model prog w) A (pyIter xv) (ForK prog w A E env tgt body Q) E s₁) E s)
    (hs : ∀ x, foldedSetIterable iter env x = pure x := by intro _; rfl) (hE : PassesOwn (model prog w) A env E := by passes_own) :
    wpAny (model prog w) A (exec (.For tgt iter body [] pos) env) Q E s := by
  refine wpAny_For (wpAny_mono h (fun xv s₁ h₁ => wpAny_mono h₁ (fun it s₂ h₂ => ?_) fun _ _ z => z) fun _ _ z => z) hs
  obtain ⟨J, n, h0, turn⟩ := h₂
  refine codeAny_forLoop_any (R := fun r s' => match r with | .ok f => Q f s' | .error e => cameBackBy (model prog w) A env E e s') J ?_ n h0
  intro k s' hk
  refine wpAny_passesOwn hE (wpAny_mono (turn k s' hk) (fun r s₁ hr => ?_) fun _ _ z => z)
  cases r with
  | none => exact wpAny_execs_nil hr
  | some y =>
    refine wpAny_passesOwn hE (wpAny_mono hr (fun _ s₀ h₀ => ?_) fun _ _ z => z)
    refine wpAny_passesOwn hE (wpAny_mono h₀ (fun _ s₂ h₂ => ?_) fun _ _ z => z)
    refine wpAny_passesOwn hE (wpAny_mono h₂ (fun f s₃ h₃ => ?_) fun _ _ z => z)
    cases f with
    | next => exact h₃
    | cont => exact h₃
    | brk => exact h₃
    | ret _ => exact h₃
theorem letGo_inst {M : Model} {elts : List Expr} {x1 : _} {pos : Pos} {x C T : Addr} {od : Option Addr} {dt : Data} {sl : Array (Option Value)} {Q : Unit → Shared → Prop} (ho : s.heap.get? x = some (⟨.ref C, od, dt, sl⟩ : Obj)) (h : Q () s) :
    wpAny M A (letOwnedTupleGo (.Tuple elts x1 pos) (.ref x) (.ref T)) Q E s := by
  unfold letOwnedTupleGo
  exact wpAny_bind (wpAny_load ho (wpAny_pure h))
end
end Mine
end
-- WForGb
section
namespace Mine
theorem rstWForGb : True := by (w_top off); trivial
section
variable {w : World} {mean : ExcName → Option Value} {mg mb : Str → Option Value}
   {dp un : Nat} {gd : Option (List Code)} {cn : Str} {nm : List (Str × NameKind)} {ig ic : Bool} {mo : List (Str × Const)} {a : Addr} {ccd : Value} {outer : List Env} {A₀ : Around} {base h₀ : Heap} {L : Addr} {m : Str → Option Value} {s : Shared} {Q E : Value → Shared → Prop} {news : List (Addr × Obj)}
section
variable (key : Nat → Key × Tok) (T : Nat → Addr) (n : Nat) (dgb LI KF V : Addr)
noncomputable def GbAt (e : Nat) (o oLI : Obj) : Prop :=
  ∃ (cg : Int) (tcg : Tok) (ck cv : Value) (hv : Bool) (ser : Int) (ts : Tok) (tgt : Value),
    (e = 0 ∧ o = gbObj dgb cg tcg ck cv false hv false LI KF ser ts tgt ∧ oLI = liObj V 0) ∨
    (0 < e ∧ e < n ∧ (∃ q : Key × Tok, o = gbObj dgb cg tcg ((key e).1.val (key e).2) (.ref (T e)) true true true LI KF ser ts (q.1.val q.2) ∧ KeyPair q (key e) ∧ decide (q.1 = (key e).1) = false) ∧ oLI = liObj V (e + 1)) ∨
    (0 < e ∧ e = n ∧ o = gbObj dgb cg tcg ck cv false false true LI KF ser ts tgt ∧ oLI = liDead n)
noncomputable def IsGrp (e e' : Nat) : Prop := e < e' ∧ e' ≤ n ∧ (∀ i, e ≤ i → i < e' → decide ((key e).1 = (key i).1) = true) ∧ (e' < n → decide ((key e).1 = (key e').1) = false)
theorem grp_end {e : Nat} (h : e < n) : ∃ e', IsGrp key n e e' := by
  have : ∀ r j, n - j = r → e < j → j ≤ n → (∀ i, e ≤ i → i < j → decide ((key e).1 = (key i).1) = true) → ∃ e', IsGrp key n e e' := by
    intro r
    induction r with
    | zero => intro j hr h1 h2 hk; exact ⟨j, h1, h2, hk, fun z => by (first | assumption | exact omE ‹_› ‹_› | exact omN ‹_› ‹_› | exact om6 ‹_› | exact om7 ‹_› | exact om9 ‹_› ‹_› | exact om11 ‹_› rfl | exact om24 ‹_› ‹_› | exact rm2 ‹_› rfl | exact rm1 ‹_› rfl | exact Nat.le_trans ‹_› ‹_› | exact Nat.lt_of_lt_of_le ‹_› ‹_› | exact Nat.lt_of_le_of_lt ‹_› ‹_› | omega)⟩
    | succ r ih =>
      intro j hr h1 h2 hk
      cases hd : decide ((key e).1 = (key j).1) with
      | false => exact ⟨j, h1, h2, hk, fun _ => hd⟩
      | true =>
        refine ih (j + 1) (by (first | assumption | exact omE ‹_› ‹_› | exact omN ‹_› ‹_› | exact om6 ‹_› | exact om7 ‹_› | exact om9 ‹_› ‹_› | exact om11 ‹_› rfl | exact om24 ‹_› ‹_› | exact rm2 ‹_› rfl | exact rm1 ‹_› rfl | exact Nat.le_trans ‹_› ‹_› | exact Nat.lt_of_lt_of_le ‹_› ‹_› | exact Nat.lt_of_le_of_lt ‹_› ‹_› | omega)) (by (first | assumption | exact omE ‹_› ‹_› | exact omN ‹_› ‹_› | exact om6 ‹_› | exact om7 ‹_› | exact om9 ‹_› ‹_› | exact om11 ‹_› rfl | exact om24 ‹_› ‹_› | exact rm2 ‹_› rfl | exact rm1 ‹_› rfl | exact Nat.le_trans ‹_› ‹_› | exact Nat.lt_of_lt_of_le ‹_› ‹_› | exact Nat.lt_of_le_of_lt ‹_› ‹_› | omega)) (by (first | assumption | exact omE ‹_› ‹_› | exact omN ‹_› ‹_› | exact om6 ‹_› | exact om7 ‹_› | exact om9 ‹_› ‹_› | exact om11 ‹_› rfl | exact om24 ‹_› ‹_› | exact rm2 ‹_› rfl | exact rm1 ‹_› rfl | exact Nat.le_trans ‹_› ‹_› | exact Nat.lt_of_lt_of_le ‹_› ‹_› | exact Nat.lt_of_le_of_lt ‹_› ‹_› | omega)) fun i hi1 hi2 => ?_
        by_cases hij : i = j
        · rw [hij]; exact hd
        · exact hk i hi1 (by (first | assumption | exact omE ‹_› ‹_› | exact omN ‹_› ‹_› | exact om6 ‹_› | exact om7 ‹_› | exact om9 ‹_› ‹_› | exact om11 ‹_› rfl | exact om24 ‹_› ‹_› | exact rm2 ‹_› rfl | exact rm1 ‹_› rfl | exact Nat.le_trans ‹_› ‹_› | exact Nat.lt_of_lt_of_le ‹_› ‹_› | exact Nat.lt_of_le_of_lt ‹_› ‹_› | omega))
  exact this (n - (e + 1)) (e + 1) rfl (by (first | assumption | exact omE ‹_› ‹_› | exact omN ‹_› ‹_› | exact om6 ‹_› | exact om7 ‹_› | exact om9 ‹_› ‹_› | exact om11 ‹_› rfl | exact om24 ‹_› ‹_› | exact rm2 ‹_› rfl | exact rm1 ‹_› rfl | exact Nat.le_trans ‹_› ‹_› | exact Nat.lt_of_lt_of_le ‹_› ‹_› | exact Nat.lt_of_le_of_lt ‹_› ‹_› | omega)) (by (first | assumption | exact omE ‹_› ‹_› | exact omN ‹_› ‹_› | exact om6 ‹_› | exact om7 ‹_› | exact om9 ‹_› ‹_› | exact om11 ‹_› rfl | exact om24 ‹_› ‹_› | exact rm2 ‹_› rfl | exact rm1 ‹_› rfl | exact Nat.le_trans ‹_› ‹_› | exact Nat.lt_of_lt_of_le ‹_› ‹_› | exact Nat.lt_of_le_of_lt ‹_› ‹_› | omega)) fun i h1 h2 => by
    have : i = e := by (first | assumption | exact omE ‹_› ‹_› | exact omN ‹_› ‹_› | exact om6 ‹_› | exact om7 ‹_› | exact om9 ‹_› ‹_› | exact om11 ‹_› rfl | exact om24 ‹_› ‹_› | exact rm2 ‹_› rfl | exact rm1 ‹_› rfl | exact Nat.le_trans ‹_› ‹_› | exact Nat.lt_of_lt_of_le ‹_› ‹_› | exact Nat.lt_of_le_of_lt ‹_› ‹_› | omega)
    rw [this]; simp
end
section
variable {key : Nat → Key × Tok} {T : Nat → Addr} {idx : Nat → Int} {ti : Nat → Tok} {n : Nat} {gb dgb LI V KF dKF IT : Addr} {t0 : Tok} {k : Nat} {rest : List (Addr × Obj)}
theorem list_group' (Rn : RunAt key T idx ti n gb dgb LI V KF dKF IT t0 k rest) {GR dgr : Addr} {cg ser : Int} {tcg ts tn : Tok} {e e' : Nat} (hn : n < 64)
   (mGR : (GR, grObj dgr gb cg tn ((key e).1.val (key e).2)) ∈ rest) (mdr : (dgr, dictOf [] 0) ∈ rest) (he : IsGrp key n e e')
   (hd : dp + 14 < recursionLimit) (hu : un + 140 < cLine)
   (G : Gd w mean mg mb A₀ base outer h₀) (F : Fr h₀ L s.heap m)
   (N : News h₀ L s.heap ((gb, gbObj dgb cg tcg ((key e).1.val (key e).2) (.ref (T e)) true true true LI KF ser ts ((key e).1.val (key e).2)) :: (LI, liObj V (e + 1)) :: rest))
   (hQ : ∀ S h₁ h' tk' c' o oLI, GbAt key T n dgb LI KF V e' o oLI → Gd w mean mg mb A₀ base outer h₁ → KtsTurn (Fs outer) h₀ h₁ → Fr h₁ L h' m →
      News h₁ L h' ((gb, o) :: (LI, oLI) :: (S, listOf ((List.range (e' - e)).map fun i => Value.ref (T (e + i))).toArray c') :: rest) →
      @LT.lt Nat _ gb S → @LT.lt Nat _ LI S → (∀ q ∈ rest, @LT.lt Nat _ q.1 S) → s.toks ≤ tk' → Q (.ref S) { s with heap := h', toks := tk' }) :
    wpAny (model Challenge.rw_ij0174_01.row.prog w) (AT dp un gd cn nm ig ic mo L a ccd outer) (call (.type "list") [.ref GR]) Q E s := by
  obtain ⟨h1, h2, h3, h4⟩ := he
  refine list_group Rn hn mGR mdr h1 h2 h3 h4 hd hu G F N (fun S h₁ h' tk' c' hen G₁ T₁ F₁ N₁ l1 l2 l3 ht => ?_) (fun S h₁ h' tk' c' ck cv hen G₁ T₁ F₁ N₁ l1 l2 l3 ht => ?_)
  · exact hQ S h₁ h' tk' c' _ _ ⟨cg, tcg, .none, .none, true, ser, ts, .none, .inr (.inl ⟨by (first | assumption | exact omE ‹_› ‹_› | exact omN ‹_› ‹_› | exact om6 ‹_› | exact om7 ‹_› | exact om9 ‹_› ‹_› | exact om11 ‹_› rfl | exact om24 ‹_› ‹_› | exact rm2 ‹_› rfl | exact rm1 ‹_› rfl | exact Nat.le_trans ‹_› ‹_› | exact Nat.lt_of_lt_of_le ‹_› ‹_› | exact Nat.lt_of_le_of_lt ‹_› ‹_› | omega), hen, ⟨key e, rfl, Rn.kp _ _ (by (first | assumption | exact omE ‹_› ‹_› | exact omN ‹_› ‹_› | exact om6 ‹_› | exact om7 ‹_› | exact om9 ‹_› ‹_› | exact om11 ‹_› rfl | exact om24 ‹_› ‹_› | exact rm2 ‹_› rfl | exact rm1 ‹_› rfl | exact Nat.le_trans ‹_› ‹_› | exact Nat.lt_of_lt_of_le ‹_› ‹_› | exact Nat.lt_of_le_of_lt ‹_› ‹_› | omega)) hen, h4 hen⟩, rfl⟩)⟩ G₁ T₁ F₁ N₁ l1 l2 l3 ht
  · exact hQ S h₁ h' tk' c' _ _ ⟨cg, tcg, ck, cv, false, ser, ts, _, .inr (.inr ⟨by (first | assumption | exact omE ‹_› ‹_› | exact omN ‹_› ‹_› | exact om6 ‹_› | exact om7 ‹_› | exact om9 ‹_› ‹_› | exact om11 ‹_› rfl | exact om24 ‹_› ‹_› | exact rm2 ‹_› rfl | exact rm1 ‹_› rfl | exact Nat.le_trans ‹_› ‹_› | exact Nat.lt_of_lt_of_le ‹_› ‹_› | exact Nat.lt_of_le_of_lt ‹_› ‹_› | omega), hen, rfl, rfl⟩)⟩ G₁ T₁ F₁ N₁ l1 l2 l3 ht
theorem fi_gb_next (p : _) : findIn (Mine.hd.heap_1 p) (.ref 124) "__next__" = some (some (.ref 120)) := by kernel_rfl
theorem isFn_120 (p : _) : isFn (Mine.hd.heap_1 p) (.ref 120) = true := by kernel_rfl
inductive ForBack (w : World) (mean : ExcName → Option Value) (mg mb : Str → Option Value) (A₀ : Around) (base : Heap) (outer : List Env) (L : Addr) (key : Nat → Key × Tok) (T : Nat → Addr) (n : Nat) (gb dgb LI KF V RES : Addr) (rest : List (Addr × Obj))
    (P : Nat → (Str → Option Value) → List Value → Prop) (e' : Nat) (h₁ : Heap) (s₁ s₃ : Shared) : Prop
  | mk (h₂) (h') (tk') (m') (vs') (c') (o) (oLI) (p1 : s₃ = { s₁ with heap := h', toks := tk' }) (p2 : P e' m' vs') (p3 : GbAt key T n dgb LI KF V e' o oLI) (p4 : Gd w mean mg mb A₀ base outer h₂) (p5 : KtsTurn (Fs outer) h₁ h₂) (p6 : Fr h₂ L h' m') (p7 : News h₂ L h' ((gb, o) :: (LI, oLI) :: (RES, listOf vs'.toArray c') :: rest)) (p8 : s₁.toks ≤ tk') : ForBack w mean mg mb A₀ base outer L key T n gb dgb LI KF V RES rest P e' h₁ s₁ s₃
inductive GbJ (w : World) (mean : ExcName → Option Value) (mg mb : Str → Option Value) (A₀ : Around) (base : Heap) (outer : List Env) (L : Addr) (key : Nat → Key × Tok) (T : Nat → Addr) (n : Nat) (gb dgb LI KF V RES : Addr) (rest : List (Addr × Obj))
    (P : Nat → (Str → Option Value) → List Value → Prop) (h₀ : Heap) (s : Shared) : Nat → Shared → Prop
  | mk (e : Nat) (h₁ h : Heap) (tk : Nat) (m' : Str → Option Value) (vs : List Value) (c : Nat) (o oLI : Obj) (p1 : e ≤ n) (p2 : P e m' vs) (p3 : GbAt key T n dgb LI KF V e o oLI) (p4 : Gd w mean mg mb A₀ base outer h₁) (p5 : KtsTurn (Fs outer) h₀ h₁) (p6 : Fr h₁ L h m') (p7 : News h₁ L h ((gb, o) :: (LI, oLI) :: (RES, listOf vs.toArray c) :: rest)) (p8 : s.toks ≤ tk) : GbJ w mean mg mb A₀ base outer L key T n gb dgb LI KF V RES rest P h₀ s (n - e) { s with heap := h, toks := tk }
theorem forK_gb {RES : Addr} {c0 : Nat} {vs0 : List Value} {elts : List Expr} {x1 : _} {pos : Pos} {body : List Stmt} {Q : Flow → Shared → Prop} {o0 oLI0 : Obj} (P : Nat → (Str → Option Value) → List Value → Prop)
   (Rn : RunAt key T idx ti n gb dgb LI V KF dKF IT t0 k rest) (hn : n < 64) (h1n : 0 < n) (hR1 : RES ≠ gb) (hR2 : RES ≠ LI) (hR3 : ∀ q ∈ rest, q.1 ≠ RES)
   (hd : dp + 20 < recursionLimit) (hu : un + 200 < cLine)
   (G : Gd w mean mg mb A₀ base outer h₀) (F : Fr h₀ L s.heap m) (h00 : GbAt key T n dgb LI KF V 0 o0 oLI0) (P0 : P 0 m vs0)
   (N : News h₀ L s.heap ((gb, o0) :: (LI, oLI0) :: (RES, listOf vs0.toArray c0) :: rest))
   (turn : ∀ e e' h₁ h tk m' vs c RT GR dgr cg t1 t2 t3 ser, IsGrp key n e e' → P e m' vs → Gd w mean mg mb A₀ base outer h₁ → KtsTurn (Fs outer) h₀ h₁ → Fr h₁ L h m' →
      News h₁ L h ((gb, gbObj dgb cg t2 ((key e).1.val (key e).2) (.ref (T e)) true true true LI KF ser t3 ((key e).1.val (key e).2)) :: (LI, liObj V (e + 1)) :: (RT, tupO [(key e).1.val (key e).2, .ref GR]) :: (GR, grObj dgr gb cg t1 ((key e).1.val (key e).2)) :: (dgr, dictOf [] 0) :: (RES, listOf vs.toArray c) :: rest) →
      RunAt key T idx ti n gb dgb LI V KF dKF IT t0 k ((RT, tupO [(key e).1.val (key e).2, .ref GR]) :: (GR, grObj dgr gb cg t1 ((key e).1.val (key e).2)) :: (dgr, dictOf [] 0) :: (RES, listOf vs.toArray c) :: rest) →
      @LT.lt Nat _ RES dgr → @LT.lt Nat _ dgr GR → @LT.lt Nat _ GR RT → s.toks ≤ tk →
      wpAny (model Challenge.rw_ij0174_01.row.prog w) (AT dp un gd cn nm ig ic mo L a ccd outer) (assign (.Tuple elts x1 pos) (envOf cn ⟨.function, nm, ig, ic, mo⟩ L a ccd) (.ref RT)) (fun _ s₂ => wpAny (model Challenge.rw_ij0174_01.row.prog w) (AT dp un gd cn nm ig ic mo L a ccd outer) (execs body (envOf cn ⟨.function, nm, ig, ic, mo⟩ L a ccd))
        (OwitFlow Q (ForBack w mean mg mb A₀ base outer L key T n gb dgb LI KF V RES rest P e' h₁ { s with heap := h, toks := tk })) E s₂) E { s with heap := h, toks := tk })
   (done : ∀ h₁ h tk m' vs c, P n m' vs → Gd w mean mg mb A₀ base outer h₁ → KtsTurn (Fs outer) h₀ h₁ → Fr h₁ L h m' → News h₁ L h ((RES, listOf vs.toArray c) :: rest) → s.toks ≤ tk → Q .next { s with heap := h, toks := tk }) :
   ForK Challenge.rw_ij0174_01.row.prog w (AT dp un gd cn nm ig ic mo L a ccd outer) E (envOf cn ⟨.function, nm, ig, ic, mo⟩ L a ccd) (.Tuple elts x1 pos) body Q (.ref gb) s := by
  refine ⟨GbJ w mean mg mb A₀ base outer L key T n gb dgb LI KF V RES rest P h₀ s,
    n, (GbJ.mk 0 h₀ s.heap s.toks m vs0 c0 o0 oLI0 (Nat.zero_le _) P0 h00 G .refl F N (Nat.le_refl _)), ?_⟩
  rintro r s' ⟨e, h₁, h, tk, m', vs, c, o, oLI, hen, hP, hg, G₁, T₁, F₁, N₁, htk⟩
  have Rn' := Rn.cons (RES, listOf vs.toArray c) hR1 hR2
  obtain ⟨cg, tcg, ck, cv, hv, ser, ts, tgt, hg⟩ := hg
  -- an item: go on with the user's walk
  have go : e < n → ∀ (h₂ : Heap) (tk₂ : Nat) (RT GR dgr : Addr) (t1 t2 t3 : Tok), Fr h₁ L h₂ m' →
      News h₁ L h₂ ((RT, tupO [(key e).1.val (key e).2, .ref GR]) :: (GR, grObj dgr gb (ser + 1) t1 ((key e).1.val (key e).2)) :: (dgr, dictOf [] 0) :: (gb, gbObj dgb (ser + 1) t2 ((key e).1.val (key e).2) (.ref (T e)) true true true LI KF (ser + 1) t3 ((key e).1.val (key e).2)) :: (LI, liObj V (e + 1)) :: (RES, listOf vs.toArray c) :: rest) →
      @LT.lt Nat _ gb dgr → @LT.lt Nat _ LI dgr → (∀ q ∈ (RES, listOf vs.toArray c) :: rest, @LT.lt Nat _ q.1 dgr) → @LT.lt Nat _ dgr GR → @LT.lt Nat _ GR RT → tk ≤ tk₂ →
      ForTurn Challenge.rw_ij0174_01.row.prog w (AT dp un gd cn nm ig ic mo L a ccd outer) E (envOf cn ⟨.function, nm, ig, ic, mo⟩ L a ccd) (.Tuple elts x1 pos) (.ref gb) body Q (fun s₃ => ∃ k', k' < n - e ∧ GbJ w mean mg mb A₀ base outer L key T n gb dgb LI KF V RES rest P h₀ s k' s₃)
        (some (.ref RT)) { s with heap := h₂, toks := tk₂ } := by
    intro he h₂ tk₂ RT GR dgr t1 t2 t3 F₂ N₂ l1 l2 l3 l4 l5 ht₂
    obtain ⟨e', hgr⟩ := grp_end key n he
    show wpAny _ _ (letOwnedTupleGo _ _ _) _ _ _
    refine letGo_inst (N₂ _ (.tail _ (.tail _ (.tail _ (.head _))))).1 ?_
    have lR := l3 _ (.head _)
    have x1 := Nat.ne_of_gt l1
    have x2 := Nat.ne_of_gt l2
    have x3 := Nat.ne_of_gt (Nat.lt_trans l1 l4)
    have x4 := Nat.ne_of_gt (Nat.lt_trans l2 l4)
    have x5 := Nat.ne_of_gt (Nat.lt_trans (Nat.lt_trans l1 l4) l5)
    have x6 := Nat.ne_of_gt (Nat.lt_trans (Nat.lt_trans l2 l4) l5)
    refine wpAny_mono (turn e e' h₁ h₂ tk₂ m' vs c RT GR dgr (ser + 1) t1 t2 t3 (ser + 1) hgr hP G₁ T₁ F₂ ?_ (((Rn'.cons (dgr, _) x1 x2).cons (GR, _) x3 x4).cons (RT, _) x5 x6) lR l4 l5 (Nat.le_trans htk ht₂)) (fun _ s₂ hs₂ => wpAny_mono hs₂ (fun f s₃ hf => ?_) fun _ _ z => z) fun _ _ z => z
    · exact news_drop N₂ fun q hq => mem_rot [_, _, _] [_, _] hq
    · have back : ForBack w mean mg mb A₀ base outer L key T n gb dgb LI KF V RES rest P e' h₁ { s with heap := h₂, toks := tk₂ } s₃ → ∃ k', k' < n - e ∧ GbJ w mean mg mb A₀ base outer L key T n gb dgb LI KF V RES rest P h₀ s k' s₃ := by
        rintro ⟨h₃, h', tk', m'', vs', c', o, oLI, rfl, hP', hg', G₃, T₃, F₃, N₃, ht₃⟩
        have hgr' := hgr
        obtain ⟨q1, q2, _⟩ := hgr'
        exact ⟨n - e', Nat.sub_lt_sub_left he q1, GbJ.mk e' h₃ h' tk' m'' vs' c' o oLI q2 hP' hg' G₃ (T₁.trans T₃) F₃ N₃ (Nat.le_trans (Nat.le_trans htk ht₂) ht₃)⟩
      cases f with
      | next => exact back hf
      | cont => exact back hf
      | brk => exact hf
      | ret v => exact hf
  rcases hg with ⟨rfl, rfl, rfl⟩ | ⟨h1, h2, ⟨q, rfl, hq, hne⟩, rfl⟩ | ⟨h1, rfl, rfl, rfl⟩
  · refine owit_next F₁ G₁.X (InstAt.of_news N₁ (.head _) (.tail _ (.tail _ Rn'.mdg))) (fi_gb_next _) (isFn_120 _) ?_
    exact gb_first (key 0) G₁.B F₁ G₁.X G₁.T N₁ Rn'.n1 Rn'.n2 Rn'.n3 Rn'.mV Rn'.mdg Rn'.mKF Rn'.mdKF Rn'.mIT (Rn'.mT 0 h1n) (vs_at h1n) (by (first | assumption | exact omE ‹_› ‹_› | exact omN ‹_› ‹_› | exact om6 ‹_› | exact om7 ‹_› | exact om9 ‹_› ‹_› | exact om11 ‹_› rfl | exact om24 ‹_› ‹_› | exact rm2 ‹_› rfl | exact rm1 ‹_› rfl | exact Nat.le_trans ‹_› ‹_› | exact Nat.lt_of_lt_of_le ‹_› ‹_› | exact Nat.lt_of_le_of_lt ‹_› ‹_› | omega)) (by (first | assumption | exact omE ‹_› ‹_› | exact omN ‹_› ‹_› | exact om6 ‹_› | exact om7 ‹_› | exact om9 ‹_› ‹_› | exact om11 ‹_› rfl | exact om24 ‹_› ‹_› | exact rm2 ‹_› rfl | exact rm1 ‹_› rfl | exact Nat.le_trans ‹_› ‹_› | exact Nat.lt_of_lt_of_le ‹_› ‹_› | exact Nat.lt_of_le_of_lt ‹_› ‹_› | omega)) fun h₂ tk₂ RT GR dgr t1 t2 t3 F₂ N₂ l1 l2 l3 l4 l5 ht => go h1n h₂ tk₂ RT GR dgr t1 t2 t3 F₂ N₂ l1 l2 l3 l4 l5 ht
  · refine owit_next F₁ G₁.X (InstAt.of_news N₁ (.head _) (.tail _ (.tail _ Rn'.mdg))) (fi_gb_next _) (isFn_120 _) ?_
    exact gb_next (key e) q G₁.B F₁ G₁.X G₁.T N₁ Rn'.n1 Rn'.n2 Rn'.n3 Rn'.mdg hq hne (by (first | assumption | exact omE ‹_› ‹_› | exact omN ‹_› ‹_› | exact om6 ‹_› | exact om7 ‹_› | exact om9 ‹_› ‹_› | exact om11 ‹_› rfl | exact om24 ‹_› ‹_› | exact rm2 ‹_› rfl | exact rm1 ‹_› rfl | exact Nat.le_trans ‹_› ‹_› | exact Nat.lt_of_lt_of_le ‹_› ‹_› | exact Nat.lt_of_le_of_lt ‹_› ‹_› | omega)) (by (first | assumption | exact omE ‹_› ‹_› | exact omN ‹_› ‹_› | exact om6 ‹_› | exact om7 ‹_› | exact om9 ‹_› ‹_› | exact om11 ‹_› rfl | exact om24 ‹_› ‹_› | exact rm2 ‹_› rfl | exact rm1 ‹_› rfl | exact Nat.le_trans ‹_› ‹_› | exact Nat.lt_of_lt_of_le ‹_› ‹_› | exact Nat.lt_of_le_of_lt ‹_› ‹_› | omega)) fun h₂ tk₂ RT GR dgr t1 t2 t3 F₂ N₂ l1 l2 l3 l4 l5 ht => go h2 h₂ tk₂ RT GR dgr t1 t2 t3 F₂ N₂ l1 l2 l3 l4 l5 ht
  · refine owit_next F₁ G₁.X (InstAt.of_news N₁ (.head _) (.tail _ (.tail _ Rn'.mdg))) (fi_gb_next _) (isFn_120 _) ?_
    refine gb_dead G₁ F₁ N₁ Rn'.n1 Rn'.n2 Rn'.mdg (by (first | assumption | exact omE ‹_› ‹_› | exact omN ‹_› ‹_› | exact om6 ‹_› | exact om7 ‹_› | exact om9 ‹_› ‹_› | exact om11 ‹_› rfl | exact om24 ‹_› ‹_› | exact rm2 ‹_› rfl | exact rm1 ‹_› rfl | exact Nat.le_trans ‹_› ‹_› | exact Nat.lt_of_lt_of_le ‹_› ‹_› | exact Nat.lt_of_le_of_lt ‹_› ‹_› | omega)) (by (first | assumption | exact omE ‹_› ‹_› | exact omN ‹_› ‹_› | exact om6 ‹_› | exact om7 ‹_› | exact om9 ‹_› ‹_› | exact om11 ‹_› rfl | exact om24 ‹_› ‹_› | exact rm2 ‹_› rfl | exact rm1 ‹_› rfl | exact Nat.le_trans ‹_› ‹_› | exact Nat.lt_of_lt_of_le ‹_› ‹_› | exact Nat.lt_of_le_of_lt ‹_› ‹_› | omega)) fun h₂ g h' ex t tk' t2 G₂ T₂ F₂ R₂ U₂ ht => ?_
    refine stop_landed G₂ F₂ R₂ U₂ fun h₃ G₃ T₃ F₃ N₃ => ?_
    exact done h₃ h' tk' m' vs c hP G₃ ((T₁.trans T₂).trans T₃) F₃ (fun q hq => N₃ q (.tail _ (.tail _ hq))) (Nat.le_trans htk ht)
end
end
end Mine
end
-- WForL
section
namespace Mine
theorem rstWForL : True := by (w_top off); trivial
section
variable {w : World} {mean : ExcName → Option Value} {mg mb : Str → Option Value}
   {dp un : Nat} {gd : Option (List Code)} {cn : Str} {nm : List (Str × NameKind)} {ig ic : Bool} {mo : List (Str × Const)} {a : Addr} {ccd : Value} {outer : List Env} {A₀ : Around} {base h₀ : Heap} {L : Addr} {m : Str → Option Value} {s : Shared} {Q E : Value → Shared → Prop} {news : List (Addr × Obj)}
inductive BackL (h₀ : Heap) (L LI S : Addr) (P : Nat → (Str → Option Value) → List (Addr × Obj) → Prop) (j : Nat) (s₁ s₃ : Shared) : Prop
  | mk (h') (tk') (m') (nw) (p1 : s₃ = { s₁ with heap := h', toks := tk' }) (p2 : P j m' nw) (p3 : Fr h₀ L h' m') (p4 : News h₀ L h' ((LI, liObj S j) :: nw)) (p5 : s₁.toks ≤ tk') : BackL h₀ L LI S P j s₁ s₃
inductive ListJ (h₀ : Heap) (L LI S : Addr) (P : Nat → (Str → Option Value) → List (Addr × Obj) → Prop) (ws : List Value) (s : Shared) : Nat → Shared → Prop
  | mk (j : Nat) (h : Heap) (tk : Nat) (m' : Str → Option Value) (nw : List (Addr × Obj)) (p1 : j ≤ ws.length) (p2 : P j m' nw) (p3 : Fr h₀ L h m') (p4 : News h₀ L h ((LI, liObj S j) :: nw)) (p5 : s.toks ≤ tk) : ListJ h₀ L LI S P ws s (ws.length - j) { s with heap := h, toks := tk }
theorem forK_list {prog : Program} {A : Around} {env : Env} {LI S : Addr} {c : Nat} {ws : List Value} {tgt : Expr} {body : List Stmt} {Q : Flow → Shared → Prop} {nw0 : List (Addr × Obj)} (P : Nat → (Str → Option Value) → List (Addr × Obj) → Prop)
   (hh : A.handled = none) (hP : ∀ j m nw, P j m nw → (S, listOf ws.toArray c) ∈ nw ∧ ∀ q ∈ nw, q.1 ≠ LI)
   (F : Fr h₀ L s.heap m) (P0 : P 0 m nw0) (N : News h₀ L s.heap ((LI, liObj S 0) :: nw0))
   (hgo : ∀ v (s' : Shared) j (Q' : Unit → Shared → Prop), ws[j]? = some v → s'.heap.get? LI = some (liObj S (j + 1)) → Q' () s' → wpAny (model prog w) A (letOwnedTupleGo tgt (.ref LI) v) Q' E s')
   (turn : ∀ j v h tk m' nw, ws[j]? = some v → P j m' nw → Fr h₀ L h m' → News h₀ L h ((LI, liObj S (j + 1)) :: nw) → s.toks ≤ tk →
      wpAny (model prog w) A (assign tgt env v) (fun _ s₂ => wpAny (model prog w) A (execs body env) (OwitFlow Q (BackL h₀ L LI S P (j + 1) { s with heap := h, toks := tk })) E s₂) E { s with heap := h, toks := tk })
   (done : ∀ h tk m' nw, P ws.length m' nw → Fr h₀ L h m' → News h₀ L h nw → s.toks ≤ tk → Q .next { s with heap := h, toks := tk }) :
   ForK prog w A E env tgt body Q (.ref LI) s := by
  refine ⟨ListJ h₀ L LI S P ws s,
    ws.length, (ListJ.mk 0 s.heap s.toks m nw0 (Nat.zero_le _) P0 F N (Nat.le_refl _)), ?_⟩
  rintro r s' ⟨j, h, tk, m', nw, hj, hPj, F₁, N₁, htk⟩
  obtain ⟨mS, nL⟩ := hP _ _ _ hPj
  have hT : Shared.TypeIs ({ s with heap := h, toks := tk } : Shared) (.ref LI) "list_iterator" := ⟨_, (N₁ _ (.head _)).1, rfl⟩
  unfold pyNext
  cases hw : ws[j]? with
  | none =>
    have hje : j = ws.length := Nat.le_antisymm hj (by simpa using hw)
    refine wpAny_bind (wpAny_attempt (wpAny_callSpecial?_slot (name := Str.ofString "__next__") hT slot_listiter_next (listiter_end hh F₁ N₁ (.head nL) (.tail _ mS) hw fun h₁ h' e F₂ N₂ X₂ => ?_)))
    obtain ⟨ob, tp, he, hc, _⟩ := X₂.there
    refine wpAny_bind (wpAny_isInstance (T := "StopIteration") (b := true) ⟨ob, he, hc⟩ stop_sub ?_)
    subst hje
    exact wpAny_pure (done h' tk m' nw hPj (F₂.keeps X₂.keeps) (fun q hq => ⟨X₂.keeps _ _ (N₂ q (.tail _ hq)).1, (N₂ q (.tail _ hq)).2⟩) htk)
  | some v =>
    have hlt : j < ws.length := (List.getElem?_eq_some_iff.mp hw).1
    refine wpAny_bind (wpAny_attempt (wpAny_callSpecial?_slot (name := Str.ofString "__next__") hT slot_listiter_next (listiter_item F₁ N₁ (.head nL) (.tail _ mS) hw fun h' F₂ N₂ => wpAny_pure ?_)))
    refine hgo v _ j _ hw (N₂ _ (.head _)).1 ?_
    refine wpAny_mono (turn j v h' tk m' nw hw hPj F₂ N₂ htk) (fun _ s₂ hs₂ => wpAny_mono hs₂ (fun f s₃ hf => ?_) fun _ _ z => z) fun _ _ z => z
    have back : BackL h₀ L LI S P (j + 1) { s with heap := h', toks := tk } s₃ → ∃ k', k' < ws.length - j ∧ ListJ h₀ L LI S P ws s k' s₃ := by
      rintro ⟨h₃, tk₃, m₃, nw₃, rfl, hP₃, F₃, N₃, ht₃⟩
      exact ⟨ws.length - (j + 1), Nat.sub_lt_sub_left hlt (Nat.lt_succ_self j), ListJ.mk (j + 1) h₃ tk₃ m₃ nw₃ hlt hP₃ F₃ N₃ (Nat.le_trans htk ht₃)⟩
    cases f with
    | next => exact back hf
    | cont => exact back hf
    | brk => exact hf
    | ret v => exact hf
theorem letGo_li {M : Model} {elts : List Expr} {x1 : _} {pos : Pos} {LI S T : Addr} {j : Nat} {Q : Unit → Shared → Prop} (ho : s.heap.get? LI = some (liObj S j)) (h : Q () s) :
    wpAny M A₀ (letOwnedTupleGo (.Tuple elts x1 pos) (.ref LI) (.ref T)) Q E s := by
  unfold letOwnedTupleGo
  exact wpAny_bind (wpAny_load ho (wpAny_pure h))
theorem pyIter_N {prog : Program} {A : Around} {V : Addr} {its : Array Value} {c : Nat} (F : Fr h₀ L s.heap m) (N : News h₀ L s.heap news) (hm : (V, listOf its c) ∈ news)
   (h : ∀ LI h', Fr h₀ L h' m → News h₀ L h' ((LI, liObj V 0) :: news) → (∀ p ∈ news, p.1 < LI) → Q (.ref LI) { s with heap := h' }) :
    wpAny (model prog w) A (pyIter (.ref V)) Q E s :=
  wpAny_pyIter_list (show s.heap.IsList V its from ⟨_, (N _ hm).1, rfl, c, rfl⟩) (h _ _ (F.push _) (N.push F _) fun p hp => Heap.lt_size (N p hp).1)
end
end Mine
end
-- WRankB
section
namespace Mine
theorem rstWRankB : True := by (w_top off); trivial
section
variable {w : World} {mean : ExcName → Option Value} {mg mb : Str → Option Value}
   {dp un : Nat} {gd : Option (List Code)} {cn : Str} {nm : List (Str × NameKind)} {ig ic : Bool} {mo : List (Str × Const)} {a : Addr} {ccd : Value} {outer : List Env} {A₀ : Around} {base h₀ : Heap} {L : Addr} {m : Str → Option Value} {s : Shared} {Q E : Value → Shared → Prop} {news : List (Addr × Obj)}
noncomputable def StartOk (key : Nat → Key × Tok) (n a : Nat) : Prop := a = 0 ∨ a = n ∨ decide ((key (a - 1)).1 = (key a).1) = false
inductive RkP (key : Nat → Key × Tok) (n : Nat) (p : Array Nat) (RES : Addr) (ib : Nat → UInt64) (rk : Nat → Nat → UInt64) (e : Nat) (m : Str → Option Value) (vs : List Value) : Prop
  | mk (p1 : (∃ t, m "i" = some (.float (ib e) t))) (p2 : m "result" = some (.ref RES)) (p3 : vs.length = n) (p4 : StartOk (fun j => key (at' p j)) n e) (p5 : ∀ x, x < e → ∃ a b t, a ≤ x ∧ x < b ∧ StartOk (fun j => key (at' p j)) n a ∧ IsGrp (fun j => key (at' p j)) n a b ∧ vs[at' p x]? = some (.float (rk a b) t)) : RkP key n p RES ib rk e m vs
theorem isGrp_start {key : Nat → Key × Tok} {n e e' : Nat} (h : IsGrp key n e e') : StartOk key n e' := by
  obtain ⟨h1, h2, h3, h4⟩ := h
  by_cases hn : e' = n
  · exact .inr (.inl hn)
  · refine .inr (.inr ?_)
    have e1 := of_decide_eq_true (h3 (e' - 1) (by (first | assumption | exact omE ‹_› ‹_› | exact omN ‹_› ‹_› | exact om6 ‹_› | exact om7 ‹_› | exact om9 ‹_› ‹_› | exact om11 ‹_› rfl | exact om24 ‹_› ‹_› | exact rm2 ‹_› rfl | exact rm1 ‹_› rfl | exact Nat.le_trans ‹_› ‹_› | exact Nat.lt_of_lt_of_le ‹_› ‹_› | exact Nat.lt_of_le_of_lt ‹_› ‹_› | omega)) (by (first | assumption | exact omE ‹_› ‹_› | exact omN ‹_› ‹_› | exact om6 ‹_› | exact om7 ‹_› | exact om9 ‹_› ‹_› | exact om11 ‹_› rfl | exact om24 ‹_› ‹_› | exact rm2 ‹_› rfl | exact rm1 ‹_› rfl | exact Nat.le_trans ‹_› ‹_› | exact Nat.lt_of_lt_of_le ‹_› ‹_› | exact Nat.lt_of_le_of_lt ‹_› ‹_› | omega)))
    have e2 := h4 (by (first | assumption | exact omE ‹_› ‹_› | exact omN ‹_› ‹_› | exact om6 ‹_› | exact om7 ‹_› | exact om9 ‹_› ‹_› | exact om11 ‹_› rfl | exact om24 ‹_› ‹_› | exact rm2 ‹_› rfl | exact rm1 ‹_› rfl | exact Nat.le_trans ‹_› ‹_› | exact Nat.lt_of_lt_of_le ‹_› ‹_› | exact Nat.lt_of_le_of_lt ‹_› ‹_› | omega))
    rw [← e1]; exact e2
inductive RkQ (key : Nat → Key × Tok) (n : Nat) (p : Array Nat) (RES : Addr) (ib : Nat → UInt64) (rk : Nat → Nat → UInt64) (e e' : Nat) (A1 A2 A3 A4 A5 A6 : Addr × Obj) (rest : List (Addr × Obj)) (j : Nat) (m : Str → Option Value) (nw : List (Addr × Obj)) : Prop
  | mk (p1 : (∃ t, m "i" = some (.float (ib e) t))) (p2 : m "result" = some (.ref RES)) (p3 : (∃ t, m "size" = some (.int ((e' - e : Nat) : Int) t))) (tr) (p4 : m "rank" = some (.float (rk e e') tr)) (vs : List Value) (c : Nat) (p5 : nw = A1 :: A2 :: A3 :: A4 :: A5 :: A6 :: (RES, listOf vs.toArray c) :: rest) (p6 : vs.length = n) (p7 : (∀ x, x < e → ∃ a b t, a ≤ x ∧ x < b ∧ StartOk (fun j => key (at' p j)) n a ∧ IsGrp (fun j => key (at' p j)) n a b ∧ vs[at' p x]? = some (.float (rk a b) t))) (p8 : ∀ i, i < j → vs[at' p (e + i)]? = some (.float (rk e e') tr)) : RkQ key n p RES ib rk e e' A1 A2 A3 A4 A5 A6 rest j m nw
theorem rkQ_step {key : Nat → Key × Tok} {n : Nat} {p : Array Nat} {rk : Nat → Nat → UInt64} {e e' j : Nat} {tr : Tok} {vs : List Value} (hp : Ok n p) (hl : vs.length = n) (he : e' ≤ n) (hj : j < e' - e)
    (h1 : ∀ x, x < e → ∃ a b t, a ≤ x ∧ x < b ∧ StartOk (fun j => key (at' p j)) n a ∧ IsGrp (fun j => key (at' p j)) n a b ∧ vs[at' p x]? = some (.float (rk a b) t)) (h2 : ∀ i, i < j → vs[at' p (e + i)]? = some (.float (rk e e') tr)) :
    (∀ x, x < e → ∃ a b t, a ≤ x ∧ x < b ∧ StartOk (fun j => key (at' p j)) n a ∧ IsGrp (fun j => key (at' p j)) n a b ∧ (vs.set (at' p (e + j)) (.float (rk e e') tr))[at' p x]? = some (.float (rk a b) t)) ∧
      ∀ i, i < j + 1 → (vs.set (at' p (e + j)) (.float (rk e e') tr))[at' p (e + i)]? = some (.float (rk e e') tr) := by
  have hb : at' p (e + j) < vs.length := by rw [hl]; exact hp.bnd (by (first | assumption | exact omE ‹_› ‹_› | exact omN ‹_› ‹_› | exact om6 ‹_› | exact om7 ‹_› | exact om9 ‹_› ‹_› | exact om11 ‹_› rfl | exact om24 ‹_› ‹_› | exact rm2 ‹_› rfl | exact rm1 ‹_› rfl | exact Nat.le_trans ‹_› ‹_› | exact Nat.lt_of_lt_of_le ‹_› ‹_› | exact Nat.lt_of_le_of_lt ‹_› ‹_› | omega))
  refine ⟨fun x hx => ?_, fun i hi => ?_⟩
  · obtain ⟨a, b, t, q1, q2, q3, q4, q5⟩ := h1 x hx
    refine ⟨a, b, t, q1, q2, q3, q4, ?_⟩
    rw [List.getElem?_set_ne (hp.inj (by (first | assumption | exact omE ‹_› ‹_› | exact omN ‹_› ‹_› | exact om6 ‹_› | exact om7 ‹_› | exact om9 ‹_› ‹_› | exact om11 ‹_› rfl | exact om24 ‹_› ‹_› | exact rm2 ‹_› rfl | exact rm1 ‹_› rfl | exact Nat.le_trans ‹_› ‹_› | exact Nat.lt_of_lt_of_le ‹_› ‹_› | exact Nat.lt_of_le_of_lt ‹_› ‹_› | omega)) (by (first | assumption | exact omE ‹_› ‹_› | exact omN ‹_› ‹_› | exact om6 ‹_› | exact om7 ‹_› | exact om9 ‹_› ‹_› | exact om11 ‹_› rfl | exact om24 ‹_› ‹_› | exact rm2 ‹_› rfl | exact rm1 ‹_› rfl | exact Nat.le_trans ‹_› ‹_› | exact Nat.lt_of_lt_of_le ‹_› ‹_› | exact Nat.lt_of_le_of_lt ‹_› ‹_› | omega)) (by (first | assumption | exact omE ‹_› ‹_› | exact omN ‹_› ‹_› | exact om6 ‹_› | exact om7 ‹_› | exact om9 ‹_› ‹_› | exact om11 ‹_› rfl | exact om24 ‹_› ‹_› | exact rm2 ‹_› rfl | exact rm1 ‹_› rfl | exact Nat.le_trans ‹_› ‹_› | exact Nat.lt_of_lt_of_le ‹_› ‹_› | exact Nat.lt_of_le_of_lt ‹_› ‹_› | omega)))]
    exact q5
  · by_cases hij : i = j
    · subst hij
      rw [List.getElem?_set_self hb]
    · rw [List.getElem?_set_ne (hp.inj (by (first | assumption | exact omE ‹_› ‹_› | exact omN ‹_› ‹_› | exact om6 ‹_› | exact om7 ‹_› | exact om9 ‹_› ‹_› | exact om11 ‹_› rfl | exact om24 ‹_› ‹_› | exact rm2 ‹_› rfl | exact rm1 ‹_› rfl | exact Nat.le_trans ‹_› ‹_› | exact Nat.lt_of_lt_of_le ‹_› ‹_› | exact Nat.lt_of_le_of_lt ‹_› ‹_› | omega)) (by (first | assumption | exact omE ‹_› ‹_› | exact omN ‹_› ‹_› | exact om6 ‹_› | exact om7 ‹_› | exact om9 ‹_› ‹_› | exact om11 ‹_› rfl | exact om24 ‹_› ‹_› | exact rm2 ‹_› rfl | exact rm1 ‹_› rfl | exact Nat.le_trans ‹_› ‹_› | exact Nat.lt_of_lt_of_le ‹_› ‹_› | exact Nat.lt_of_le_of_lt ‹_› ‹_› | omega)) (by (first | assumption | exact omE ‹_› ‹_› | exact omN ‹_› ‹_› | exact om6 ‹_› | exact om7 ‹_› | exact om9 ‹_› ‹_› | exact om11 ‹_› rfl | exact om24 ‹_› ‹_› | exact rm2 ‹_› rfl | exact rm1 ‹_› rfl | exact Nat.le_trans ‹_› ‹_› | exact Nat.lt_of_lt_of_le ‹_› ‹_› | exact Nat.lt_of_le_of_lt ‹_› ‹_› | omega)))]
      exact h2 i (by (first | assumption | exact omE ‹_› ‹_› | exact omN ‹_› ‹_› | exact om6 ‹_› | exact om7 ‹_› | exact om9 ‹_› ‹_› | exact om11 ‹_› rfl | exact om24 ‹_› ‹_› | exact rm2 ‹_› rfl | exact rm1 ‹_› rfl | exact Nat.le_trans ‹_› ‹_› | exact Nat.lt_of_lt_of_le ‹_› ‹_› | exact Nat.lt_of_le_of_lt ‹_› ‹_› | omega))
theorem rkP_next {key : Nat → Key × Tok} {n : Nat} {p : Array Nat} {RES : Addr} {ib : Nat → UInt64} {rk : Nat → Nat → UInt64} {e e' : Nat} {tr t : Tok} {vs : List Value} {m : Str → Option Value} (hl : vs.length = n) (hs : StartOk (fun j => key (at' p j)) n e) (hg : IsGrp (fun j => key (at' p j)) n e e')
    (hi : m "i" = some (.float (ib e') t)) (hr : m "result" = some (.ref RES))
    (h1 : ∀ x, x < e → ∃ a b t, a ≤ x ∧ x < b ∧ StartOk (fun j => key (at' p j)) n a ∧ IsGrp (fun j => key (at' p j)) n a b ∧ vs[at' p x]? = some (.float (rk a b) t)) (h2 : ∀ i, i < e' - e → vs[at' p (e + i)]? = some (.float (rk e e') tr)) : RkP key n p RES ib rk e' m vs := by
  refine ⟨⟨t, hi⟩, hr, hl, isGrp_start hg, fun x hx => ?_⟩
  by_cases hxe : x < e
  · exact h1 x hxe
  · refine ⟨e, e', tr, by (first | assumption | exact omE ‹_› ‹_› | exact omN ‹_› ‹_› | exact om6 ‹_› | exact om7 ‹_› | exact om9 ‹_› ‹_› | exact om11 ‹_› rfl | exact om24 ‹_› ‹_› | exact rm2 ‹_› rfl | exact rm1 ‹_› rfl | exact Nat.le_trans ‹_› ‹_› | exact Nat.lt_of_lt_of_le ‹_› ‹_› | exact Nat.lt_of_le_of_lt ‹_› ‹_› | omega), hx, hs, hg, ?_⟩
    have := h2 (x - e) (by (first | assumption | exact omE ‹_› ‹_› | exact omN ‹_› ‹_› | exact om6 ‹_› | exact om7 ‹_› | exact om9 ‹_› ‹_› | exact om11 ‹_› rfl | exact om24 ‹_› ‹_› | exact rm2 ‹_› rfl | exact rm1 ‹_› rfl | exact Nat.le_trans ‹_› ‹_› | exact Nat.lt_of_lt_of_le ‹_› ‹_› | exact Nat.lt_of_le_of_lt ‹_› ‹_› | omega))
    rwa [show e + (x - e) = x by (first | assumption | exact omE ‹_› ‹_› | exact omN ‹_› ‹_› | exact om6 ‹_› | exact om7 ‹_› | exact om9 ‹_› ‹_› | exact om11 ‹_› rfl | exact om24 ‹_› ‹_› | exact rm2 ‹_› rfl | exact rm1 ‹_› rfl | exact Nat.le_trans ‹_› ‹_› | exact Nat.lt_of_lt_of_le ‹_› ‹_› | exact Nat.lt_of_le_of_lt ‹_› ‹_› | omega)] at this
theorem reord {h : Heap} {b a' c1 c2 c3 c4 c5 d : Addr × Obj} {r : List (Addr × Obj)} (N : News h₀ L h (b :: a' :: c1 :: c2 :: c3 :: c4 :: c5 :: d :: r)) : News h₀ L h (a' :: b :: d :: c1 :: c2 :: c3 :: c4 :: c5 :: r) :=
  news_drop N fun q hq => by
    exact mem_sk (mem_sk (mem_rot [_, _, _, _, _] [_])) (mem_rot [_] [_] hq)
end
end Mine
end
section
local macro_rules | `(tactic| walk_at "pzip") => `(tactic| ((try dsimp only at l2 l3 l4); (try k_lt l1); walk_at "post"))
local macro_rules | `(tactic| walk_at "argn") => `(tactic| ((any_goals exact ‹News _ _ _ _›); walk_at "args"))
local macro_rules | `(tactic| walk_at "call type:zip") => callM `call_zip 10 0 "args" [`h9, `tk9, `I9, `TI9, `TO9, `Z9, `F9, `N9, `l1, `l2, `l3, `l4, `ht9] "pzip"
local macro_rules | `(tactic| walk_at "call builtin:sorted") => callM `sorted_zip' 17 0 "argn" [`V9, `T9, `ti9, `c9, `p9, `tl9, `h9, `tk9, `ok9, `sr9, `mT9, `F9, `N9, `ll9, `ht9] "post"
local macro_rules | `(tactic| walk_at "call builtin:len") => callM `len_tab 3 0 "argi" [] ""
local macro_rules | `(tactic| walk_at "binaryOp Mult ref int") => callM `zeros 4 0 "args" [`D9, `h9, `F9, `N9, `l9] "post"
local macro_rules | `(tactic| walk_at "call builtin:iter") => callM `iter_list 3 0 "args" [`LI9, `h9, `F9, `N9, `l9] "post"
local macro_rules | `(tactic| walk_at "exec For") => `(tactic| (k_here; k_dflt (refine for_own ?_ (hE := by first | assumption | passes_own))))
local macro_rules | `(tactic| walk_at "pyIter ref") => callM `pyIter_N 3 0 "args" [`LI9, `h9, `F9, `N9, `l9] "post"
local macro_rules | `(tactic| walk_at "pyIter ref") => dfltM `owit_iter 5
local macro_rules | `(tactic| walk_at "pgrp") => `(tactic| ((have B9 := G9.B); (have X9 := G9.X); (have P9 := G9.T); (try k_lt l93); walk_at "post"))
local macro_rules | `(tactic| walk_at "call type:list") => callM `list_group' 10 0 "args" [`S9, `g9, `h9, `tk9, `c9, `o9, `oL9, `hg9, `G9, `T9, `F9, `N9, `l91, `l92, `l93, `ht9] "pgrp"
local macro_rules | `(tactic| walk_at "setItem ref int") => callM `set_tab 5 0 "args" [`h9, `F9, `N9] "post"
local macro_rules | `(tactic| walk_at "eval Name") => `(tactic| (k_here; k_dflt (refine' nameX_L ?F ?v ?_ ?a ?b; (case F => k_asm); (case a => rfl); (case b => rfl); (case v => first | rfl | assumption); k_whole)))
local macro_rules | `(tactic| walk_at "loadName") => `(tactic| (k_here; k_dflt (refine ldn (by k_asm) (by first | rfl | assumption) ?_)))
section
set_option hygiene true in
local macro_rules | `(tactic| walk_at "execs cons") => `(tactic| ((with_reducible refine execs_cons_tok ?_); try dsimp only))
-- WTurn
section
namespace Mine
theorem rstWTurn : True := by (w_top off); trivial
section
variable {w : World} {mean : ExcName → Option Value} {mg mb : Str → Option Value}
   {dp un : Nat} {gd : Option (List Code)} {cn : Str} {nm : List (Str × NameKind)} {ig ic : Bool} {mo : List (Str × Const)} {a : Addr} {ccd : Value} {outer : List Env} {A₀ : Around} {base h₀ : Heap} {L : Addr} {m : Str → Option Value} {s : Shared} {Q E : Value → Shared → Prop} {news : List (Addr × Obj)}
theorem lk_elim {K : Frag} {a : Addr} {o o' : Obj} {P : Prop} (hf : K.lookup a = some o) (hk : K.lookup a = some o') (h : o' = o → P) : P := h (Option.some.inj (hk.symm.trans hf))
theorem BackL.intro {LI S : Addr} {P : Nat → (Str → Option Value) → List (Addr × Obj) → Prop} {j tk' : Nat} {s₁ : Shared} {h' : Heap} {m' : Str → Option Value} {nw : List (Addr × Obj)} (hF : Fr h₀ L h' m') (hN : News h₀ L h' ((LI, liObj S j) :: nw)) (ht : s₁.toks ≤ tk') (hP : P j m' nw) :
    BackL h₀ L LI S P j s₁ { s₁ with heap := h', toks := tk' } := ⟨h', tk', m', nw, rfl, hP, hF, hN, ht⟩
theorem ForBack.intro {key : Nat → Key × Tok} {T : Nat → Addr} {n : Nat} {gb dgb LI KF V RES : Addr} {rest : List (Addr × Obj)} {P : Nat → (Str → Option Value) → List Value → Prop} {e' tk' c' : Nat} {h₁ h₂ h' : Heap} {s₁ : Shared} {m' : Str → Option Value} {vs' : List Value} {o oLI : Obj}
    (hg : GbAt key T n dgb LI KF V e' o oLI) (hG : Gd w mean mg mb A₀ base outer h₂) (hT : KtsTurn (Fs outer) h₁ h₂) (hF : Fr h₂ L h' m') (hN : News h₂ L h' ((gb, o) :: (LI, oLI) :: (RES, listOf vs'.toArray c') :: rest)) (ht : s₁.toks ≤ tk') (hP : P e' m' vs') :
    ForBack w mean mg mb A₀ base outer L key T n gb dgb LI KF V RES rest P e' h₁ s₁ { s₁ with heap := h', toks := tk' } := ⟨h₂, h', tk', m', vs', c', o, oLI, rfl, hP, hg, hG, hT, hF, hN, ht⟩
theorem drop6 {h : Heap} {x a1 a2 a3 a4 a5 a6 : Addr × Obj} {r : List (Addr × Obj)} (N : News h₀ L h (a1 :: a2 :: a3 :: a4 :: a5 :: a6 :: x :: r)) : News h₀ L h (a1 :: a2 :: x :: r) := news_drop N fun q hq => mem_sk (fun h => mem_sk (fun h => .tail _ (.tail _ (.tail _ (.tail _ h)))) h) hq
theorem for_inj {oc oc' : Value} {od od' : Option Addr} {osl osl' : Array (Option Value)} {fnm fq fnm' fq' : Str} {prm prm' : Arguments} {b1 b2 b3 b4 b5 b7 b1' b2' b3' b4' b5' b7' : Stmt} {elts elts' : List Expr} {x1 x1' : _} {tpos fpos tpos' fpos' : Pos} {it it' : Expr} {body body' : List Stmt} {sc sc' : Scope} {dV kV doc pm cdv ct dV' kV' doc' pm' cdv' ct' : Value} {an an' : Option Addr}
    (h : (⟨oc', od', .func (fnOf fnm' fq' prm' [b1', b2', b3', b4', b5', .For (.Tuple elts' x1' tpos') it' body' [] fpos', b7'] sc' dV' kV' doc' pm' an' cdv' ct'), osl'⟩ : Obj) = ⟨oc, od, .func (fnOf fnm fq prm [b1, b2, b3, b4, b5, .For (.Tuple elts x1 tpos) it body [] fpos, b7] sc dV kV doc pm an cdv ct), osl⟩) :
    elts' = elts ∧ x1' = x1 ∧ tpos' = tpos ∧ body' = body ∧ sc' = sc :=
  have f := FuncData.mk.inj (Data.func.inj (Obj.mk.inj h).2.2.1)
  have l := (List.cons.inj (List.cons.inj (List.cons.inj (List.cons.inj (List.cons.inj (FuncBody.stmts.inj f.2.2.2.1)).2).2).2).2).2
  have s := Stmt.For.inj (List.cons.inj l).1
  have t := Expr.Tuple.inj s.1
  ⟨t.1, t.2.1, t.2.2, s.2.2.1, f.2.2.2.2.1⟩
theorem rank_turn {key : Nat → Key × Tok} {T : Nat → Addr} {ti : Nat → Tok} {n : Nat} {gb dgb LI V KF dKF IT RES RT GR dgr : Addr} {t0 : Tok} {k c : Nat} {rest : List (Addr × Obj)} {p : Array Nat} {ib : Nat → UInt64} {rk : Nat → Nat → UInt64} {e e' : Nat} {vs : List Value} {cg ser : Int} {t1 t2 t3 : Tok}
   {oc : Value} {od : Option Addr} {osl : Array (Option Value)} {fnm fq : Str} {prm : Arguments} {b1 b2 b3 b4 b5 b7 : Stmt} {elts : List Expr} {x1 : _} {tpos fpos : Pos} {it : Expr} {body : List Stmt} {sc : Scope} {dV kV doc pm cdv ct : Value} {an : Option Addr} {Q : Flow → Shared → Prop}
   (hf : (Mine.hd.heap_1 w.params).lookup 278 = some ⟨oc, od, .func (fnOf fnm fq prm [b1, b2, b3, b4, b5, .For (.Tuple elts x1 tpos) it body [] fpos, b7] sc dV kV doc pm an cdv ct), osl⟩) (hsc : sc = ⟨.function, nm, ig, ic, mo⟩)
   (hE : PassesOwn (model Challenge.rw_ij0174_01.row.prog w) (AT dp un gd cn nm ig ic mo L a ccd outer) (envOf cn ⟨.function, nm, ig, ic, mo⟩ L a ccd) E) (hn : n < 64) (ok : Ok n p) (hRR : ∀ q ∈ rest, q.1 ≠ RES) (hrk : rk e e' = Float64.add (ib e) (Float64.ofFrac (decide (((e' - e : Nat) : Int) + 1 < 0) != decide ((2 : Int) < 0)) (((e' - e : Nat) : Int) + 1).natAbs (Int.natAbs 2))) (hib : ib e' = Float64.add (ib e) (Float64.ofInt ((e' - e : Nat) : Int)))
   (Rn0 : RunAt (fun j => key (at' p j)) T (fun j => ((at' p j : Nat) : Int)) ti n gb dgb LI V KF dKF IT t0 k rest)
   (hd : dp + 20 < recursionLimit) (hu : un + 200 < cLine)
   (hg : IsGrp (fun j => key (at' p j)) n e e') (hP : RkP key n p RES ib rk e m vs) (G₁ : Gd w mean mg mb A₀ base outer h₀) (F : Fr h₀ L s.heap m)
   (N : News h₀ L s.heap ((gb, gbObj dgb cg t2 ((key (at' p e)).1.val (key (at' p e)).2) (.ref (T e)) true true true LI KF ser t3 ((key (at' p e)).1.val (key (at' p e)).2)) :: (LI, liObj V (e + 1)) :: (RT, tupO [(key (at' p e)).1.val (key (at' p e)).2, .ref GR]) :: (GR, grObj dgr gb cg t1 ((key (at' p e)).1.val (key (at' p e)).2)) :: (dgr, dictOf [] 0) :: (RES, listOf vs.toArray c) :: rest))
   (Rn : RunAt (fun j => key (at' p j)) T (fun j => ((at' p j : Nat) : Int)) ti n gb dgb LI V KF dKF IT t0 k ((RT, tupO [(key (at' p e)).1.val (key (at' p e)).2, .ref GR]) :: (GR, grObj dgr gb cg t1 ((key (at' p e)).1.val (key (at' p e)).2)) :: (dgr, dictOf [] 0) :: (RES, listOf vs.toArray c) :: rest))
   (q1 : @LT.lt Nat _ RES dgr) (q2 : @LT.lt Nat _ dgr GR) (q3 : @LT.lt Nat _ GR RT) :
   wpAny (model Challenge.rw_ij0174_01.row.prog w) (AT dp un gd cn nm ig ic mo L a ccd outer) (assign (.Tuple elts x1 tpos) (envOf cn ⟨.function, nm, ig, ic, mo⟩ L a ccd) (.ref RT)) (fun _ s₂ => wpAny (model Challenge.rw_ij0174_01.row.prog w) (AT dp un gd cn nm ig ic mo L a ccd outer) (execs body (envOf cn ⟨.function, nm, ig, ic, mo⟩ L a ccd))
        (OwitFlow Q (ForBack w mean mg mb A₀ base outer L (fun j => key (at' p j)) T n gb dgb LI KF V RES rest (RkP key n p RES ib rk) e' h₀ s)) E s₂) E s := by
  have X := G₁.X
  revert X
  k_fill
  intro X
  refine' lk_elim hf ?hk ?_
  case hk => k_is
  intro eo
  have ei := for_inj eo
  clear eo hf
  subst hsc
  have e1 := ei.1
  have e2 := ei.2.1
  have e3 := ei.2.2.1
  have e4 := ei.2.2.2.1
  have e5 := ei.2.2.2.2
  clear ei
  subst e1
  subst e2
  subst e3
  subst e4
  cases e5
  obtain ⟨⟨tI, hi⟩, hr, hlen, hst, hdn⟩ := hP
  have hgl := hg.1
  have r1 : @Ne Nat RES gb := Rn.n2 (RES, listOf vs.toArray c) (.tail _ (.tail _ (.tail _ (.head _))))
  have r2 : @Ne Nat RES LI := Rn.n3 (RES, listOf vs.toArray c) (.tail _ (.tail _ (.tail _ (.head _))))
  have hge := hg.2.1
  have B₁ := G₁.B
  have P₁ := G₁.T
  k_steps
  with_unfolding_all refine' forK_list (RkQ key n p RES ib rk e e' (gb, o9) (LI, oL9) (S9, listOf ((List.range (e' - e)).map fun i => Value.ref (T (e + i))).toArray c9) (RT, tupO [(key (at' p e)).1.val (key (at' p e)).2, .ref GR]) (GR, grObj dgr gb cg t1 ((key (at' p e)).1.val (key (at' p e)).2)) (dgr, dictOf [] 0) rest) (c := c9) (ws := (List.range (e' - e)).map fun i => .ref (T (e + i))) rfl ?hP ?F ?P0 ?N ?hgo ?turn ?done
  case F => assumption
  case N => assumption
  case hP =>
    rintro j m nw ⟨_, _, _, _, _, vs', c', rfl, _⟩
    refine ⟨by k_mem, ?_⟩
    k_all
  case hgo =>
    intro v s' j Q' hv ho hQ'
    obtain ⟨x, hx, rfl⟩ := List.mem_map.mp (List.mem_of_getElem? hv)
    exact letGo_li (A₀ := _) ho hQ'
  case P0 => exact ⟨⟨_, by with_unfolding_all exact hi⟩, (by with_unfolding_all exact hr), ⟨_, by with_unfolding_all rfl⟩, _, (Eq.trans (by with_unfolding_all rfl) (congrArg (fun z => some (Value.float z _)) hrk.symm)), vs, c, rfl, hlen, hdn, fun i hi => by (first | assumption | exact omE ‹_› ‹_› | exact omN ‹_› ‹_› | exact om6 ‹_› | exact om7 ‹_› | exact om9 ‹_› ‹_› | exact om11 ‹_› rfl | exact om24 ‹_› ‹_› | exact rm2 ‹_› rfl | exact rm1 ‹_› rfl | exact Nat.le_trans ‹_› ‹_› | exact Nat.lt_of_lt_of_le ‹_› ‹_› | exact Nat.lt_of_le_of_lt ‹_› ‹_› | omega)⟩
  case turn =>
    intro j v h tk m'' nw hv hQ F₂ N₂ htk
    dsimp only at htk
    obtain ⟨⟨ti2, hi2⟩, hr2, hs2, tr2, hk2, vs2, c2, e9, hl2, hd1, hd2⟩ := hQ
    replace N₂ := e9 ▸ N₂
    have hj : j < e' - e := by
      have := (List.getElem?_eq_some_iff.mp hv).1
      simpa using this
    have hv' : v = .ref (T (e + j)) := by
      rw [List.getElem?_map] at hv
      simp [hj] at hv
      exact hv.symm
    subst hv'
    have mT := Rn0.mT (e + j) (by (first | assumption | exact omE ‹_› ‹_› | exact omN ‹_› ‹_› | exact om6 ‹_› | exact om7 ‹_› | exact om9 ‹_› ‹_› | exact om11 ‹_› rfl | exact om24 ‹_› ‹_› | exact rm2 ‹_› rfl | exact rm1 ‹_› rfl | exact Nat.le_trans ‹_› ‹_› | exact Nat.lt_of_lt_of_le ‹_› ‹_› | exact Nat.lt_of_le_of_lt ‹_› ‹_› | omega))
    have hb : at' p (e + j) < vs2.length := by rw [hl2]; exact ok.bnd (by (first | assumption | exact omE ‹_› ‹_› | exact omN ‹_› ‹_› | exact om6 ‹_› | exact om7 ‹_› | exact om9 ‹_› ‹_› | exact om11 ‹_› rfl | exact om24 ‹_› ‹_› | exact rm2 ‹_› rfl | exact rm1 ‹_› rfl | exact Nat.le_trans ‹_› ‹_› | exact Nat.lt_of_lt_of_le ‹_› ‹_› | exact Nat.lt_of_le_of_lt ‹_› ‹_› | omega))
    have X9 := G9.X
    have B9 := G9.B
    have P9 := G9.T
    k_steps
    have st := rkQ_step (rk := rk) ok hl2 hge hj hd1 hd2
    refine' BackL.intro (by assumption) (by assumption) (by first | assumption | omega | (dsimp only; omega) | (simp only [List.length_cons, List.length_nil]; omega)) ?_
    exact ⟨⟨ti2, by with_unfolding_all exact hi2⟩, (by with_unfolding_all exact hr2), (by obtain ⟨ts2, hs2⟩ := hs2; exact ⟨ts2, by with_unfolding_all exact hs2⟩), tr2, (by with_unfolding_all exact hk2), _, c2, rfl, (by rw [List.length_set]; exact hl2), st.1, st.2⟩
  case done =>
    intro h tk m'' nw hQ F₂ N₂ htk
    dsimp only at htk
    obtain ⟨⟨ti2, hi2⟩, hr2, ⟨ts2, hs2⟩, tr2, hk2, vs2, c2, e9, hl2, hd1, hd2⟩ := hQ
    replace N₂ := e9 ▸ N₂
    have hd2' : ∀ i, i < e' - e → vs2[at' p (e + i)]? = some (.float (rk e e') tr2) := fun i hi => hd2 i (by simpa using hi)
    k_steps
    refine' ForBack.intro hg9 G9 T9 (by assumption) (drop6 (by assumption)) (by first | assumption | omega | (dsimp only; omega) | (simp only [List.length_cons, List.length_nil]; omega)) ?_
    exact rkP_next hl2 hst hg (t := _) (Eq.trans (by with_unfolding_all rfl) (congrArg (fun z => some (Value.float z _)) hib.symm)) (by with_unfolding_all exact hr2) hd1 hd2'
end
end Mine
end
end
-- WRank
section
namespace Mine
theorem rstWRank : True := by (w_top off); trivial
section
variable {w : World} {mean : ExcName → Option Value} {mg mb : Str → Option Value}
   {dp un : Nat} {gd : Option (List Code)} {cn : Str} {nm : List (Str × NameKind)} {ig ic : Bool} {mo : List (Str × Const)} {a : Addr} {ccd : Value} {outer : List Env} {A₀ : Around} {base h₀ : Heap} {L : Addr} {m : Str → Option Value} {s : Shared} {Q E : Value → Shared → Prop} {news : List (Addr × Obj)}
theorem rank_call {cls : List (Str × Addr)} {D : Addr} {key : Nat → Key × Tok} {n k : Nat} {b : UInt64} {tb : Tok} (h2 : 2 ≤ n) (hn : n < 64) (hk : ∀ i j, i < n → j < n → (key i).1.ty = (key j).1.ty) (mD : (D, listOf ((List.range n).map fun j => (key j).1.val (key j).2).toArray k) ∈ news)
   (hkp : ∀ i j, i < n → j < n → KeyPair (key i) (key j)) (ib : Nat → UInt64) (rk : Nat → Nat → UInt64) (hib0 : ib 0 = Float64.sub b (Float64.ofInt 1)) (hib : ∀ e e', e < e' → e' ≤ n → ib e' = Float64.add (ib e) (Float64.ofInt ((e' - e : Nat) : Int))) (hrk : ∀ e e', e < e' → e' ≤ n → rk e e' = Float64.add (ib e) (Float64.ofFrac (decide (((e' - e : Nat) : Int) + 1 < 0) != decide ((2 : Int) < 0)) (((e' - e : Nat) : Int) + 1).natAbs (Int.natAbs 2)))
   (G : Gd w mean mg mb A₀ base outer h₀) (F : Fr h₀ L s.heap m) (N : News h₀ L s.heap news)
   (hd : dp + 40 < recursionLimit) (hu : un + 400 < cLine)
   (hQ : ∀ h₁ h' tk' RES (vs : List Value) c (p : Array Nat), Gd w mean mg mb A₀ base outer h₁ → KtsTurn (Fs outer) h₀ h₁ → Fr h₁ L h' m → News h₁ L h' ((RES, listOf vs.toArray c) :: news) → (∀ q ∈ news, @LT.lt Nat _ q.1 RES) → Ok n p → Srt (pLt key) p n → vs.length = n →
      (∀ x, x < n → ∃ a b t, a ≤ x ∧ x < b ∧ StartOk (fun j => key (at' p j)) n a ∧ IsGrp (fun j => key (at' p j)) n a b ∧ vs[at' p x]? = some (.float (rk a b) t)) → s.toks ≤ tk' → Q (.ref RES) { s with heap := h', toks := tk' }) :
   wpAny (model Challenge.rw_ij0174_01.row.prog w) (ATC dp un gd cn nm ig ic mo L a ccd cls outer) (call (.ref 278) [.ref D] [("start", .float b tb)]) Q E s := by
  have G₀ := G
  have B := G.B; have X := G.X; have T' := G.T; have XB := G.XB; have TB := G.TB; have D' := G.D
  revert X
  k_fill
  intro X
  refine wpAny_toks (wpAny_call ?_)
  (k_dflt (refine' enterX ?G ?k2 ?k4 ?T0 ?kA ?kf ?kk ?k6 ?k7 ?k8 ?k9 ?kB ?_ ?c2 ?c3 ?c4 ?c5; (case kA => exact rfl); (case kf => exact rfl); (case kk => exact rfl); (case k2 => k_asm); (case G => exact ⟨by assumption, by assumption, by assumption, by assumption, by assumption, by assumption⟩); (case T0 => first | assumption | exact KtsTurn.refl); (case k4 => k_asm); (case k6 => k_is); (case k7 => k_is); (case k8 => k_room); (case k9 => (refine' kp_binds ?kx ?ke; (case kx => k_in); (case ke => exact fun _ => rfl))); (case kB => exact locs rfl); (case c2 => exact rfl); (case c3 => exact rfl); (case c4 => exact rfl); (case c5 => decide); k_whole; intro g' L' h' FG' F' N' B' X' T' D'; (try dsimp only); (try k_lift B'); (try k_fold)); refine let_ar ?_; intro ar9)
  k_steps
  with_unfolding_all refine' forK_gb (key := fun j => key (at' p9 j)) (T := T9) (idx := fun j => ((at' p9 j : Nat) : Int)) (ti := ti9) (vs0 := List.replicate n (.int 0 _)) (RkP key n p9 D9 ib rk) ?Rn ?hn ?h1n ?hR1 ?hR2 ?hR3 ?hd ?hu ?G ?F ?h00 ?P0 ?N ?turn ?done
  case hn => exact hn
  case h1n => omega
  case F => assumption
  case G => exact ⟨by assumption, by assumption, by assumption, by assumption, by assumption, by assumption⟩
  case N => exact reord (by assumption)
  case Rn =>
    refine ⟨by k_ne, by k_all, by k_all, by k_mem, by k_mem, by k_mem, by k_mem, by k_mem, ?_, fun i j hi hj => hkp _ _ (ok9.bnd hi) (ok9.bnd hj)⟩
    intro j hj
    repeat (refine List.mem_cons_of_mem _ ?_)
    exact mT9 j hj
  case hR1 => k_ne
  case hR2 => k_ne
  case hR3 => k_all
  case hd => k_room
  case hu => k_units
  case h00 => exact ⟨_, _, _, _, _, _, _, _, .inl ⟨rfl, rfl, rfl⟩⟩
  case P0 => exact ⟨⟨_, by rw [hib0]; with_unfolding_all rfl⟩, (by with_unfolding_all rfl), by simp, .inl rfl, fun x hx => by omega⟩
  case turn =>
    intro e e' h₁ h tk m' vs c RT GR dgr cg t1 t2 t3 ser hg hP G₁ T₁ F₁ N₁ Rn₁ q1 q2 q3 htk
    with_unfolding_all refine rank_turn (by k_is) rfl (by passes_own) hn ok9 ?hRR (hrk e e' hg.1 hg.2.1) (hib e e' hg.1 hg.2.1) ?Rn0 ?hd ?hu hg hP G₁ F₁ N₁ Rn₁ q1 q2 q3
    case hd => k_room
    case hu => k_units
    case hRR => k_all
    case Rn0 =>
      refine ⟨by k_ne, by k_all, by k_all, by k_mem, by k_mem, by k_mem, by k_mem, by k_mem, ?_, fun i j hi hj => hkp _ _ (ok9.bnd hi) (ok9.bnd hj)⟩
      intro j hj
      repeat (refine List.mem_cons_of_mem _ ?_)
      exact mT9 j hj
  case done =>
    intro h₁ h tk m' vs c hP G₁ T₁ F₁ N₁ htk
    obtain ⟨_, hr, hlen, _, hdn⟩ := hP
    have B₁ := G₁.B
    have X₁ := G₁.X
    have P₁ := G₁.T
    have D₁ := G₁.D
    dsimp only at htk
    dsimp only
    k_steps
    refine' hQ _ _ _ D9 vs c p9 ⟨by assumption, by assumption, by assumption, by assumption, by assumption, by assumption⟩ (by assumption) (by assumption) (news_drop (by assumption) ?sub) ?lt ok9 sr9 hlen hdn (by first | assumption | omega | (dsimp only; omega) | (simp only [List.length_cons, List.length_nil]; omega))
    case sub =>
      intro q hq
      rcases List.mem_cons.mp hq with rfl | hq
      · exact .head _
      repeat (first | exact hq | refine List.mem_cons_of_mem _ ?_ | refine List.mem_append_right _ ?_)
    case lt => exact fun q hq => lt_of_allLt (And.right (And.right ‹_ ∧ _ ∧ AllLt D9 _›)) (Nat.le_refl _) q (List.mem_append_right _ (.tail _ hq))
end
end Mine
end
end
end
end
-- WWhile
section
namespace Mine
theorem rstWWhile : True := by (w_top off); trivial
section
variable {w : World} {mean : ExcName → Option Value} {mg mb : Str → Option Value}
   {dp un : Nat} {gd : Option (List Code)} {cn : Str} {nm : List (Str × NameKind)} {ig ic : Bool} {mo : List (Str × Const)} {a : Addr} {ccd : Value} {outer : List Env} {A₀ : Around} {base h₀ : Heap} {L : Addr} {m : Str → Option Value} {s : Shared} {Q E : Value → Shared → Prop} {news : List (Addr × Obj)}
end
section
variable {prog : Program} {w : World} {A : Around} {E : Value → Shared → Prop} {s : Shared} {env : Env}
noncomputable def WBack (J : Nat → Shared → Prop) (k : Nat) (s₃ : Shared) : Prop := ∃ k', k' < k ∧ J k' s₃
theorem while_own {test : Expr} {body : List Stmt} {pos : Pos} {Q : Flow → Shared → Prop} (J : Nat → Shared → Prop) {n : Nat} (h0 : J n s)
    (turn : ∀ k s', J k s' → wpAny (model prog w) A (isTrue test env (eval test env)) (fun b s₂ => if b = true then wpAny (model prog w) A (execs body env) (OwitFlow Q (WBack J k)) E s₂ else Q .next s₂) E s')
    (hE : PassesOwn (model prog w) A env E := by passes_own) :
    wpAny (model prog w) A (exec (.While test body [] pos) env) Q E s := by
  refine wpAny_While (codeAny_whileLoop J ?_ n h0)
  intro k s' hk
  refine wpAny_mono (turn k s' hk) (fun b s₂ h₂ => ?_) hE
  cases b with
  | false =>
    simp only [Bool.false_eq_true, if_false] at h₂ ⊢
    exact wpAny_execs_nil h₂
  | true =>
    simp only [if_true] at h₂ ⊢
    refine wpAny_mono h₂ (fun f s₃ h₃ => ?_) hE
    cases f with
    | next => exact h₃
    | cont => exact h₃
    | brk => exact h₃
    | ret v => exact h₃
end
end Mine
end
-- WOps
section
namespace Mine
theorem rstWOps : True := by (w_top off); trivial
section
variable {w : World} {mean : ExcName → Option Value} {mg mb : Str → Option Value}
   {dp un : Nat} {gd : Option (List Code)} {cn : Str} {nm : List (Str × NameKind)} {ig ic : Bool} {mo : List (Str × Const)} {a : Addr} {ccd : Value} {outer : List Env} {A₀ : Around} {base h₀ : Heap} {L : Addr} {m : Str → Option Value} {s : Shared} {Q E : Value → Shared → Prop} {news : List (Addr × Obj)}
end
section
variable {prog : Program} {w : World} {A : Around} {E : Value → Shared → Prop} {s : Shared} {Q : Value → Shared → Prop} {h₀ : Heap} {L : Addr} {m : Str → Option Value} {news : List (Addr × Obj)}
noncomputable def Stop (p : Prop) : Prop := p
theorem stop_here {p : Prop} (h : Stop p) : p := h
theorem call_absT {a : Int} {t : Tok} (h : ∀ (u tk : Nat), s.toks ≤ tk → ((0 ≤ a ∧ u = t) ∨ (s.toks ≤ u ∧ u < tk)) → Q (.int ((a.natAbs : Nat) : Int) u) { s with toks := tk }) :
    wpAny (model prog w) A (call (.builtin "abs") [.int a t]) Q E s := by
  refine call_function_entry kind_abs plain_abs entry_abs (args_abs _) ?_
  unfold Builtin.«abs»
  refine wpAny_bind (wpAny_pure ?_)
  refine wpAny_bind (m := callSpecial? (.int a t) (Str.ofString "__abs__")) (wpAny_callSpecial?_slot (name := Str.ofString "__abs__") (typeIs_int s a t) slot_int_abs
    (wpAny_call_entry slot_int_abs (typeIs_int s a t) entry_int_abs ?_ (args_int_abs _)))
  show wpAny _ _ (if a < 0 then _ else _) _ _ s
  by_cases hneg : a < 0
  · rw [if_pos hneg]
    have h' := h s.toks (s.toks + 1) (Nat.le_succ _) (.inr ⟨Nat.le_refl _, Nat.lt_succ_self _⟩)
    rw [show ((a.natAbs : Nat) : Int) = -a by (first | assumption | exact omE ‹_› ‹_› | exact omN ‹_› ‹_› | exact om6 ‹_› | exact om7 ‹_› | exact om9 ‹_› ‹_› | exact om11 ‹_› rfl | exact om24 ‹_› ‹_› | exact rm2 ‹_› rfl | exact rm1 ‹_› rfl | exact Nat.le_trans ‹_› ‹_› | exact Nat.lt_of_lt_of_le ‹_› ‹_› | exact Nat.lt_of_le_of_lt ‹_› ‹_› | omega)] at h'
    exact wpAny_ret_mkInt (wpAny_pure ⟨_, rfl, h'⟩)
  · rw [if_neg hneg]
    have h' := h t s.toks (Nat.le_refl _) (.inl ⟨by (first | assumption | exact omE ‹_› ‹_› | exact omN ‹_› ‹_› | exact om6 ‹_› | exact om7 ‹_› | exact om9 ‹_› ‹_› | exact om11 ‹_› rfl | exact om24 ‹_› ‹_› | exact rm2 ‹_› rfl | exact rm1 ‹_› rfl | exact Nat.le_trans ‹_› ‹_› | exact Nat.lt_of_lt_of_le ‹_› ‹_› | exact Nat.lt_of_le_of_lt ‹_› ‹_› | omega), rfl⟩)
    rw [show ((a.natAbs : Nat) : Int) = a by (first | assumption | exact omE ‹_› ‹_› | exact omN ‹_› ‹_› | exact om6 ‹_› | exact om7 ‹_› | exact om9 ‹_› ‹_› | exact om11 ‹_› rfl | exact om24 ‹_› ‹_› | exact rm2 ‹_› rfl | exact rm1 ‹_› rfl | exact Nat.le_trans ‹_› ‹_› | exact Nat.lt_of_lt_of_le ‹_› ‹_› | exact Nat.lt_of_le_of_lt ‹_› ‹_› | omega)] at h'
    exact wpAny_pure ⟨_, rfl, wpAny_pure ⟨_, rfl, h'⟩⟩
theorem add_bytesT {b c : Array UInt8} {t u : Tok} (hsz : b.size + c.size ≤ 16777216) (h : ∀ (t' k : Nat), s.toks ≤ k → ((b = #[] ∧ t' = u) ∨ (c = #[] ∧ t' = t) ∨ (s.toks ≤ t' ∧ t' < k)) → Q (.bytes (b ++ c) t') { s with toks := k }) :
    wpAny (model prog w) A (binaryOp .Add (.bytes b t) (.bytes c u)) Q E s := by
  refine concat_gives (typeIs_bytes s b t) (typeIs_bytes s c u) KBy.noFill_bytes_add KBy.seq_bytes_add FB.slot_bytes_add FB.entry_bytes_add (FB.args_bytes_add_2 _ _) (KBy.gives_bytes_add (KBy.tooLong_not hsz)) ?_
  by_cases hb : b.isEmpty = true
  · rw [if_pos hb]
    have e : b = #[] := Array.isEmpty_iff.1 hb
    subst e
    have h' := h u s.toks (Nat.le_refl _) (.inl ⟨rfl, rfl⟩)
    rwa [Array.empty_append] at h'
  · rw [if_neg hb]
    by_cases hc : c.isEmpty = true
    · rw [if_pos hc]
      have e : c = #[] := Array.isEmpty_iff.1 hc
      subst e
      have h' := h t s.toks (Nat.le_refl _) (.inr (.inl ⟨rfl, rfl⟩))
      rwa [Array.append_empty] at h'
    · rw [if_neg hc]
      exact ⟨by rw [Array.size_append, sizeLine_eq]; exact hsz, h s.toks (s.toks + 1) (Nat.le_succ _) (.inr (.inr ⟨Nat.le_refl _, Nat.lt_succ_self _⟩))⟩
theorem slice_T {value slice : PySem.Expr} {b : Array UInt8} {t : Tok} {l u : Value} {lo hi : Option Int} (hF : Fr h₀ L s.heap m) (hN : News h₀ L s.heap news) (hl : IsPart l lo) (hu : IsPart u hi) (hne : KBy.whole b lo hi = false) (hz : (KBy.picked b lo hi).size ≤ 16777216)
    (h : ∀ h', Fr h₀ L h' m → News h₀ L h' news → Q (.bytes (KBy.picked b lo hi) s.toks) { s with heap := h', toks := s.toks + 1 })
    (hs : subscripted slice false (.bytes b t) (.ref s.heap.objs.size) = operate [.ref s.heap.objs.size, .bytes b t] (getItem (.bytes b t) (.ref s.heap.objs.size)) := by with_unfolding_all rfl)
    (ht : ∀ r, letTemporaryGo value (.bytes b t) r = pure () := by intro _; with_unfolding_all rfl) :
    wpAny (model prog w) A (subscriptTail value slice (.bytes b t) (.ref s.heap.objs.size)) Q E { s with heap := s.heap.push { cls := .type "slice", data := .fields #[l, u, .none] } } :=
  tail_of_ItemOn ⟨"bytes", _, FB.slot_bytes_getitem.lookup, typeIs_bytes _ _ _, getItem_meets (typeIs_bytes _ _ _) (by decide) FB.slot_bytes_getitem FB.entry_bytes_getitem (FB.args_bytes_getitem_2 _ _) (KBy.meets_slice b t _ hl hu hne)
    ⟨Heap.IsSliceOf.new _ _ _ _, by rw [sizeLine_eq]; exact hz, h _ (hF.push _) (News.pushKeep hN _)⟩⟩ hs ht
theorem mul_bytesG {n : Nat} {i : Int} {b : Array UInt8} {t u : Tok} (hi : i = (n : Nat)) (hb : b.size = 1) (hn : n ≤ 3) (h : ∀ (t' k : Nat), s.toks ≤ k → (t' = t ∧ n = 1 ∨ (s.toks ≤ t' ∧ t' < k)) → Q (.bytes (Builtin.Bytes.repeated b n) t') { s with toks := k }) (h1b : Builtin.Bytes.repeated b 1 = b) (hr : (Builtin.Bytes.repeated b n).size ≤ sizeLine) :
    wpAny (model prog w) A (binaryOp .Mult (.bytes b t) (.int i u)) Q E s := by
  by_cases h1 : n = 1
  · subst h1
    have hi : i = 1 := hi
    subst hi
    refine wpAny_binaryOp_repeat (T := "bytes") (U := "int") (by decide) (fun s' => typeIs_bytes s' _ t) (fun s' => typeIs_int s' 1 u) BMul.noFill F.fills_int_mul F.slot_int_rmul BMul.repeats F.slot_int_index.lookup
      (call_gives F.slot_int_rmul (typeIs_int s 1 u) F.entry_int_rmul (F.args_int_rmul_2 _ _) (BMul.int_declines 1 u _ t)
        ⟨rfl, call_gives BMul.slot_mul (typeIs_bytes s _ t) BMul.entry_mul (BMul.args_mul _ _) (BMul.gives_mul1 (by (first | assumption | exact omE ‹_› ‹_› | exact omN ‹_› ‹_› | exact om6 ‹_› | exact om7 ‹_› | exact om9 ‹_› ‹_› | exact om11 ‹_› rfl | exact om24 ‹_› ‹_› | exact rm2 ‹_› rfl | exact rm1 ‹_› rfl | exact Nat.le_trans ‹_› ‹_› | exact Nat.lt_of_lt_of_le ‹_› ‹_› | exact Nat.lt_of_le_of_lt ‹_› ‹_› | omega))) ?_⟩)
    have h' := h t s.toks (Nat.le_refl _) (.inl ⟨rfl, rfl⟩)
    rwa [h1b] at h'
  · have hf : Builtin.Bytes.fitsIndex i = true := by
      simp only [Builtin.Bytes.fitsIndex, Bool.and_eq_true, decide_eq_true_eq]
      (first | assumption | exact omE ‹_› ‹_› | exact omN ‹_› ‹_› | exact om6 ‹_› | exact om7 ‹_› | exact om9 ‹_› ‹_› | exact om11 ‹_› rfl | exact om24 ‹_› ‹_› | exact rm2 ‹_› rfl | exact rm1 ‹_› rfl | exact Nat.le_trans ‹_› ‹_› | exact Nat.lt_of_lt_of_le ‹_› ‹_› | exact Nat.lt_of_le_of_lt ‹_› ‹_› | omega)
    have e4 : i.toNat = n := by (first | assumption | exact omE ‹_› ‹_› | exact omN ‹_› ‹_› | exact om6 ‹_› | exact om7 ‹_› | exact om9 ‹_› ‹_› | exact om11 ‹_› rfl | exact om24 ‹_› ‹_› | exact rm2 ‹_› rfl | exact rm1 ‹_› rfl | exact Nat.le_trans ‹_› ‹_› | exact Nat.lt_of_lt_of_le ‹_› ‹_› | exact Nat.lt_of_le_of_lt ‹_› ‹_› | omega)
    have h63 : ¬ b.size * i.toNat ≥ 2 ^ 63 := by rw [hb, e4]; (first | assumption | exact omE ‹_› ‹_› | exact omN ‹_› ‹_› | exact om6 ‹_› | exact om7 ‹_› | exact om9 ‹_› ‹_› | exact om11 ‹_› rfl | exact om24 ‹_› ‹_› | exact rm2 ‹_› rfl | exact rm1 ‹_› rfl | exact Nat.le_trans ‹_› ‹_› | exact Nat.lt_of_lt_of_le ‹_› ‹_› | exact Nat.lt_of_le_of_lt ‹_› ‹_› | omega)
    have hne : (b.size * i.toNat == b.size) = false := by
      rw [hb, e4]
      exact beq_false_of_ne (by (first | assumption | exact omE ‹_› ‹_› | exact omN ‹_› ‹_› | exact om6 ‹_› | exact om7 ‹_› | exact om9 ‹_› ‹_› | exact om11 ‹_› rfl | exact om24 ‹_› ‹_› | exact rm2 ‹_› rfl | exact rm1 ‹_› rfl | exact Nat.le_trans ‹_› ‹_› | exact Nat.lt_of_lt_of_le ‹_› ‹_› | exact Nat.lt_of_le_of_lt ‹_› ‹_› | omega))
    have hl : Builtin.Bytes.tooLong (b.size * i.toNat) = false := by
      rw [hb, e4]
      exact KBy.tooLong_not (by (first | assumption | exact omE ‹_› ‹_› | exact omN ‹_› ‹_› | exact om6 ‹_› | exact om7 ‹_› | exact om9 ‹_› ‹_› | exact om11 ‹_› rfl | exact om24 ‹_› ‹_› | exact rm2 ‹_› rfl | exact rm1 ‹_› rfl | exact Nat.le_trans ‹_› ‹_› | exact Nat.lt_of_lt_of_le ‹_› ‹_› | exact Nat.lt_of_le_of_lt ‹_› ‹_› | omega))
    refine wpAny_binaryOp_repeat (T := "bytes") (U := "int") (by decide) (fun s' => typeIs_bytes s' _ t) (fun s' => typeIs_int s' i u) BMul.noFill F.fills_int_mul F.slot_int_rmul BMul.repeats F.slot_int_index.lookup
      (call_gives F.slot_int_rmul (typeIs_int s i u) F.entry_int_rmul (F.args_int_rmul_2 _ _) (BMul.int_declines i u _ t)
        ⟨rfl, call_gives BMul.slot_mul (typeIs_bytes s _ t) BMul.entry_mul (BMul.args_mul _ _) (BMul.gives_mul hf h63 hne hl) ?_⟩)
    rw [e4]
    exact ⟨hr, h _ _ (Nat.le_succ _) (.inr ⟨Nat.le_refl _, Nat.lt_succ_self _⟩)⟩
end
end Mine
end
-- WSum
section
namespace Mine
theorem rstWSum : True := by (w_top off); trivial
section
variable {w : World} {mean : ExcName → Option Value} {mg mb : Str → Option Value}
   {dp un : Nat} {gd : Option (List Code)} {cn : Str} {nm : List (Str × NameKind)} {ig ic : Bool} {mo : List (Str × Const)} {a : Addr} {ccd : Value} {outer : List Env} {A₀ : Around} {base h₀ : Heap} {L : Addr} {m : Str → Option Value} {s : Shared} {Q E : Value → Shared → Prop} {news : List (Addr × Obj)}
theorem kind_sp : builtinKind "math.sumprod" = none := by decide +kernel
theorem plain_sp : plainId "math.sumprod" = true := by decide +kernel
theorem plain_spl : plainId "math.sumprod.loop" = true := by decide +kernel
theorem entry_sp : entryFor table "math.sumprod" = some Builtin.«math.sumprod» := entryFor_of_fast (by kernel_rfl)
theorem entry_spl : entryFor table "math.sumprod.loop" = some Builtin.«math.sumprod.loop» := entryFor_of_fast (by kernel_rfl)
theorem args_sp (a b : Value) : argsOk "math.sumprod" ⟨[a, b], []⟩ := by unfold argsOk; kernel_rfl
noncomputable abbrev triO (a b c : UInt64) : Obj := tupO [rawInt a.toNat, rawInt b.toNat, rawInt c.toNat]
noncomputable abbrev tiObj (V : Addr) (i : Nat) : Obj := ⟨.type "tuple_iterator", none, .fields #[.ref V, .int i 0], #[]⟩
noncomputable abbrev tiDead (i : Nat) : Obj := ⟨.type "tuple_iterator", none, .fields #[.none, .int i 0], #[]⟩
noncomputable abbrev lsO (vs : List Value) (k : Nat) : Obj := listOf vs.toArray k
noncomputable abbrev tpO (vs : List Value) (_ : Nat) : Obj := tupO vs
theorem F_out {x : UInt64} {a : Bool} {u : Int} (h : F x a u) : Float64.isFinite x = true := by
  obtain ⟨⟨m, e, hd⟩, _⟩ := h
  unfold Float64.isFinite; rw [hd]
theorem u64_back (x : UInt64) : ((x.toNat : Nat) : Int).toNat.toUInt64 = x := by simp
theorem ofInt0 : Float64.ofInt 0 = Float64.zero false := by decide +kernel
theorem ofInt0_inf : ¬ Float64.isInf (Float64.ofInt 0) = true := by decide +kernel
section
variable {prog : Program} {A : Around}
theorem call_function_run {id : String} {b : Builtin} {args : List Value} {Q E : Value → Shared → Prop} {s : Shared} (hk : builtinKind id = none) (hp : plainId id = true)
    (hb : entryFor table id = some b) (ha : argsOk id ⟨args, []⟩)
    (hc : wpAny (model prog w) A.in1 (b ⟨args, []⟩) (fun fin s' => match fin with
      | .done f => (fun (r : Result) s' => match r with | .ok (.ret v) => Q v s' | .ok _ => False | .error e => E e s') (.ok f) s'
      | .again c' => c'.quiet = true ∧ codeAny (model prog w) A c' (fun r s' => match r with | .ok (.ret v) => Q v s' | .ok _ => False | .error e => E e s') s') E s) : wpAny (model prog w) A (call (.builtin id) args) Q E s := by
  refine wpAny_call (codeAny_call_builtin hp hb ?_)
  simp only [checkBuiltinCall, hk]
  cases hsig : Manifest.signature? id with
  | none => exact wpAny_pure hc
  | some sig =>
    simp only [argsOk, hsig] at ha
    have h2 : Bind.checkArgs id sig ⟨args, []⟩ = pure () := ha
    show wpAny _ A.in1 (Bind.checkArgs id sig ⟨args, []⟩) _ _ s
    rw [h2]
    exact wpAny_pure hc
theorem sp_fin {t0 : Tok} {hi : UInt64} {S : Int} {T : List Value} {R : Result → Shared → Prop} {E : Value → Shared → Prop} {G : Code → Shared → Prop} {s : Shared} (hS : S.natAbs < 2 ^ 51) (e : hi = Builtin.Math.tlToFloat (cx S, Float64.zero false, Float64.zero false)) (hQ : ∀ t (tk' : Nat), s.toks ≤ tk' → R (.ok (.ret (.float (cx S) t))) { s with toks := tk' }) :
    wpAny (model prog w) A (do rule "math.sumprod.leaves-floats"; let x ← mkFloat hi; let total ← holding T (binaryOp .Add (.int 0 t0) x); ret total)
      (fun fin s' => match fin with | .done f => R (.ok f) s' | .again c' => G c' s') E s := by
  refine wpAny_bind (wpAny_rule ?_)
  refine wpAny_bind (wpAny_mkFloat ?_)
  refine wpAny_bind (wpAny_holding (AutoFloatOps.add_if_1 ofInt0_inf ?_))
  rw [e, tlTo_F hS, ofInt0, zero_add_cx hS]
  exact wpAny_pure (hQ _ _ (by show s.toks ≤ s.toks + 1 + 1; exact Nat.le_add_right _ 2))
theorem li_item {LI V : Addr} {i : Nat} {vs : List Value} {v : Value} {g : Obj → List (Addr × Obj)} {Q : Option Value → Shared → Prop} {k : Nat} (F : Fr h₀ L s.heap m) (N : News h₀ L s.heap news) (U : UpdF LI (liObj V i) news g)
    (hV : (V, (lsO vs k)) ∈ news) (hi : vs[i]? = some v) (h : ∀ h', Fr h₀ L h' m → News h₀ L h' (g (liObj V (i + 1))) → Q (some v) { s with heap := h' }) :
    wpAny (model prog w) A (pyNext (.ref LI)) Q E s := by
  obtain ⟨pre, post, hl, hg, _, _⟩ := U.split
  have hm := N (LI, liObj V i) (by rw [hl]; exact List.mem_append_right _ (.head _))
  have hv := N _ hV
  have hT : Shared.TypeIs s (.ref LI) "list_iterator" := ⟨_, hm.1, rfl⟩
  unfold pyNext
  refine wpAny_bind (wpAny_attempt (wpAny_callSpecial?_slot (name := Str.ofString "__next__") hT slot_listiter_next (wpAny_call_entry slot_listiter_next ⟨_, hm.1, rfl⟩ entry_listiter_next ?_ (args_listiter_next _))))
  show wpAny _ _ (field (.ref LI) 0 >>= _) _ _ s
  refine wpAny_bind (wpAny_field hm.1 rfl (x := .ref V) rfl ?_)
  show wpAny _ _ (if (Value.ref V == Value.none) = true then _ else _) _ _ s
  rw [if_neg (show ¬ ((Value.ref V == Value.none) = true) from Bool.false_ne_true)]
  show wpAny _ _ (field (.ref LI) 1 >>= _) _ _ s
  refine wpAny_bind (wpAny_field hm.1 rfl (x := .int i 0) rfl ?_)
  show wpAny _ _ (seqItems? (.ref V) >>= _) _ _ s
  refine wpAny_bind (wpAny_seqItems hv.1 rfl ?_)
  have hx : (vs.toArray)[(Int.ofNat i).toNat]? = some v := by simpa using hi
  have hx' : (vs.toArray)[((i : Nat) : Int).toNat]? = some v := hx
  simp only [hx']
  have hu := upd_split (f := Obj.mapFields (·.setIfInBounds 1 (rawInt ((i : Int) + 1)))) F N U (o' := liObj V (i + 1)) (by simp [Obj.mapFields, rawInt]) rfl
  refine wpAny_bind (wpAny_setField hm.1 rfl (by simp) ?_)
  exact wpAny_pure ⟨v, rfl, wpAny_pure (h _ hu.1 hu.2)⟩
theorem li_end {LI V : Addr} {i : Nat} {vs : List Value} {g : Obj → List (Addr × Obj)} {Q : Option Value → Shared → Prop} {k : Nat} (hh : A.handled = none) (F : Fr h₀ L s.heap m) (N : News h₀ L s.heap news) (U : UpdF LI (liObj V i) news g)
    (hV : (V, (lsO vs k)) ∈ news) (hi : vs[i]? = none) (h : ∀ h', Fr h₀ L h' m → News h₀ L h' (g (liDead i)) → Q none { s with heap := h' }) :
    wpAny (model prog w) A (pyNext (.ref LI)) Q E s := by
  obtain ⟨pre, post, hl, hg, _, _⟩ := U.split
  have hm := N (LI, liObj V i) (by rw [hl]; exact List.mem_append_right _ (.head _))
  have hv := N _ hV
  have hT : Shared.TypeIs s (.ref LI) "list_iterator" := ⟨_, hm.1, rfl⟩
  have fin : ∀ h₁ h' e, Fr h₀ L h₁ m → News h₀ L h₁ (g (liDead i)) → Heap.NewExc h₁ h' e "StopIteration" → wpAny (model prog w) A (do (if ← isInstance (.ref e) (.type "StopIteration") then pure none else throw (.ref e))) Q E { s with heap := h' } := fun h₁ h' e F₂ N₂ X₂ => by
    obtain ⟨ob, tp, he, hc, _⟩ := X₂.there
    refine wpAny_bind (wpAny_isInstance (T := "StopIteration") (b := true) ⟨ob, he, hc⟩ stop_sub ?_)
    exact wpAny_pure (h h' (F₂.keeps X₂.keeps) (fun q hq => ⟨X₂.keeps _ _ (N₂ q hq).1, (N₂ q hq).2⟩))
  unfold pyNext
  refine wpAny_bind (wpAny_attempt (wpAny_callSpecial?_slot (name := Str.ofString "__next__") hT slot_listiter_next (wpAny_call_entry slot_listiter_next ⟨_, hm.1, rfl⟩ entry_listiter_next ?_ (args_listiter_next _))))
  show wpAny _ _ (field (.ref LI) 0 >>= _) _ _ s
  refine wpAny_bind (wpAny_field hm.1 rfl (x := .ref V) rfl ?_)
  show wpAny _ _ (if (Value.ref V == Value.none) = true then _ else _) _ _ s
  rw [if_neg (show ¬ ((Value.ref V == Value.none) = true) from Bool.false_ne_true)]
  show wpAny _ _ (field (.ref LI) 1 >>= _) _ _ s
  refine wpAny_bind (wpAny_field hm.1 rfl (x := .int i 0) rfl ?_)
  show wpAny _ _ (seqItems? (.ref V) >>= _) _ _ s
  refine wpAny_bind (wpAny_seqItems hv.1 rfl ?_)
  have hx' : (vs.toArray)[((i : Nat) : Int).toNat]? = none := by simpa using hi
  simp only [hx']
  have hu := upd_split (f := Obj.mapFields (·.setIfInBounds 0 Value.none)) F N U (o' := liDead i) (by simp [Obj.mapFields]) rfl
  refine wpAny_bind (wpAny_rule (wpAny_bind (wpAny_setField hm.1 rfl (by simp) ?_)))
  show wpAny _ _ (newExc (.type "StopIteration") [] >>= _) _ _ _
  refine wpAny_bind ?_
  simp only [newExc, newTuple]
  refine wpAny_bind (wpAny_newObj_type ?_ (by size_fits))
  refine wpAny_bind (m := firstArgMember _ _) (wpAny_of_eq (a := Value.none) (by first | rfl | (simp only [firstArgMember]; rfl)) ?_)
  refine wpAny_newObj_type ?_ (by size_fits)
  simp only [raiseNew]
  refine wpAny_bind (wpAny_handled ?_)
  rw [show A.in1.handled = none from hh]
  refine wpAny_bind (wpAny_pure (wpAny_throw ?_))
  refine fin _ _ _ hu.1 hu.2 ⟨fun b o q => Heap.get?_push_of_some _ (Heap.get?_push_of_some _ q), ?_, ?_⟩
  · exact Heap.get?_none_of_le (by rw [Heap.size_push]; exact Nat.le_succ _)
  · exact ⟨_, _, Heap.get?_push_size _ rfl, rfl, rfl⟩
theorem sp_loop_l {I1 I2 D1 D2 : Addr} {k1 k2 n : Nat} {vs1 vs2 : List Value} {rest : List (Addr × Obj)} {R : Result → Shared → Prop} {u v wt S : Nat → Int} {t0 : Tok}
   (hh : A.handled = none) (l1 : vs1.length = n) (l2 : vs2.length = n) (hn : 0 < n)
   (h1 : ∀ i, i < n → ∃ x t b, vs1[i]? = some (.float x t) ∧ F x b (u i)) (h2 : ∀ i, i < n → ∃ x t b, vs2[i]? = some (.float x t) ∧ F x b (v i))
   (hw : ∀ i, i < n → u i * v i = 16 * wt i ∧ (wt i).natAbs < 2 ^ 51) (hS0 : S 0 = 0) (hS : ∀ i, i < n → S (i + 1) = S i + wt i) (hSb : ∀ i, i ≤ n → (S i).natAbs < 2 ^ 51)
   (m1 : (D1, lsO vs1 k1) ∈ rest) (m2 : (D2, lsO vs2 k2) ∈ rest) (n12 : I1 ≠ I2) (nr1 : ∀ q ∈ rest, q.1 ≠ I1) (nr2 : ∀ q ∈ rest, q.1 ≠ I2) :
   ∀ (r i : Nat) (T3 : Addr) (io fu : Bool) (s : Shared), n - i = r → i ≤ n → (0 < i → fu = true) → T3 ≠ I1 → T3 ≠ I2 → Fr h₀ L s.heap m → News h₀ L s.heap ((I1, liObj D1 i) :: (I2, liObj D2 i) :: (T3, triO (cx (S i)) (Float64.zero false) (Float64.zero false)) :: rest) →
    (∀ h' (tk' : Nat) t, Fr h₀ L h' m → News h₀ L h' rest → s.toks ≤ tk' → R (.ok (.ret (.float (cx (S n)) t))) { s with heap := h', toks := tk' }) →
    codeAny (model prog w) A (.builtin "math.sumprod.loop" ⟨[.ref I1, .ref I2, .int 0 t0, .bool io, rawInt 0, .bool false, .bool true, .ref T3, .bool fu], []⟩) R s := by
  intro r
  induction r with
  | zero =>
    intro i T3 io fu s hr hle hf n31 n32 F₀ N hQ
    have hi : i = n := by (first | assumption | exact omE ‹_› ‹_› | exact omN ‹_› ‹_› | exact om6 ‹_› | exact om7 ‹_› | exact om9 ‹_› ‹_› | exact om11 ‹_› rfl | exact om24 ‹_› ‹_› | exact rm2 ‹_› rfl | exact rm1 ‹_› rfl | exact Nat.le_trans ‹_› ‹_› | exact Nat.lt_of_lt_of_le ‹_› ‹_› | exact Nat.lt_of_le_of_lt ‹_› ‹_› | omega)
    subst hi
    obtain rfl := hf hn
    refine codeAny_builtin entry_spl ?_
    rw [Around.under_plainId plain_spl _]
    show wpAny _ _ (seqItems? (.ref T3) >>= _) _ _ s
    refine wpAny_bind (wpAny_seqItems (N _ (.tail _ (.tail _ (.head _)))).1 rfl ?_)
    show wpAny _ _ (pyNext (.ref I1) >>= _) _ _ s
    refine wpAny_bind (li_end (A := A.in1) hh F₀ N (.head (by simp only [List.forall_mem_cons]; exact ⟨Ne.symm n12, n31, nr1⟩)) (.tail _ (.tail _ (.tail _ m1))) (by simp [l1]) fun h₁ F₁ N₁ => ?_)
    refine wpAny_bind (wpAny_holding (li_end (A := A.in1) hh F₁ N₁ (.tail n12 (.head (by simp only [List.forall_mem_cons]; exact ⟨n32, nr2⟩))) (.tail _ (.tail _ (.tail _ m2))) (by simp [l2]) fun h₂ F₂ N₂ => ?_))
    have e64 : ∀ x : UInt64, ((x.toNat : Nat) : Int).toNat.toUInt64 = x := u64_back
    have done : ∀ (T : List Value), wpAny (model prog w) A.in1 (do rule "math.sumprod.leaves-floats"; let x ← mkFloat (Builtin.Math.tlToFloat ((((cx (S i)).toNat : Nat) : Int).toNat.toUInt64, (((Float64.zero false).toNat : Nat) : Int).toNat.toUInt64, (((Float64.zero false).toNat : Nat) : Int).toNat.toUInt64)); let total ← holding T (binaryOp .Add (.int 0 t0) x); ret total)
        (fun fin s' => match fin with | .done f => R (.ok f) s' | .again c' => c'.quiet = true ∧ codeAny (model prog w) A c' R s') (fun e s' => R (.error e) s') { s with heap := h₂ } := fun T =>
      sp_fin (hSb i (Nat.le_refl _)) (by rw [e64, e64]) fun t tk' ht => hQ h₂ tk' t F₂ (fun q hq => N₂ q (.tail _ (.tail _ (.tail _ hq)))) ht
    cases io
    · exact done _
    · show wpAny _ _ (rule "math.sumprod.leaves-ints" >>= _) _ _ _
      exact wpAny_bind (wpAny_rule (done _))
  | succ r ih =>
    intro i T3 io fu s hr hle hf n31 n32 F₀ N hQ
    have hlt : i < n := by (first | assumption | exact omE ‹_› ‹_› | exact omN ‹_› ‹_› | exact om6 ‹_› | exact om7 ‹_› | exact om9 ‹_› ‹_› | exact om11 ‹_› rfl | exact om24 ‹_› ‹_› | exact rm2 ‹_› rfl | exact rm1 ‹_› rfl | exact Nat.le_trans ‹_› ‹_› | exact Nat.lt_of_lt_of_le ‹_› ‹_› | exact Nat.lt_of_le_of_lt ‹_› ‹_› | omega)
    obtain ⟨x, t, b, e1, fx⟩ := h1 i hlt
    obtain ⟨y, t', b', e2, fy⟩ := h2 i hlt
    refine codeAny_builtin entry_spl ?_
    rw [Around.under_plainId plain_spl _]
    show wpAny _ _ (seqItems? (.ref T3) >>= _) _ _ s
    refine wpAny_bind (wpAny_seqItems (N _ (.tail _ (.tail _ (.head _)))).1 rfl ?_)
    show wpAny _ _ (pyNext (.ref I1) >>= _) _ _ s
    refine wpAny_bind (li_item F₀ N (.head (by simp only [List.forall_mem_cons]; exact ⟨Ne.symm n12, n31, nr1⟩)) (.tail _ (.tail _ (.tail _ m1))) e1 fun h₁ F₁ N₁ => ?_)
    refine wpAny_bind (wpAny_holding (li_item F₁ N₁ (.tail n12 (.head (by simp only [List.forall_mem_cons]; exact ⟨n32, nr2⟩))) (.tail _ (.tail _ (.tail _ m2))) e2 fun h₂ F₂ N₂ => ?_))
    have e64 : ∀ x : UInt64, ((x.toNat : Nat) : Int).toNat.toUInt64 = x := u64_back
    have hnx : Builtin.Math.tlFma x y ((((cx (S i)).toNat : Nat) : Int).toNat.toUInt64, (((Float64.zero false).toNat : Nat) : Int).toNat.toUInt64, (((Float64.zero false).toNat : Nat) : Int).toNat.toUInt64) = (cx (S (i + 1)), Float64.zero false, Float64.zero false) := by
      rw [e64, e64, tlFma_F fx fy (hw i hlt).1 (hSb i hle) (hw i hlt).2, hS i hlt]
    have hfin : Float64.isFinite (cx (S (i + 1))) = true := cx_fin (by have := hSb (i + 1) hlt; (first | assumption | exact omE ‹_› ‹_› | exact omN ‹_› ‹_› | exact om6 ‹_› | exact om7 ‹_› | exact om9 ‹_› ‹_› | exact om11 ‹_› rfl | exact om24 ‹_› ‹_› | exact rm2 ‹_› rfl | exact rm1 ‹_› rfl | exact Nat.le_trans ‹_› ‹_› | exact Nat.lt_of_lt_of_le ‹_› ‹_› | exact Nat.lt_of_le_of_lt ‹_› ‹_› | omega))
    have go : wpAny (model prog w) A.in1 (do
          let t ← newTuple [rawInt (cx (S (i + 1))).toNat, rawInt (Float64.zero false).toNat, rawInt (Float64.zero false).toNat]
          again (.builtin "math.sumprod.loop" ⟨[.ref I1, .ref I2, .int 0 t0, .bool false, rawInt 0, .bool false, .bool true, t, .bool true], []⟩))
        (fun fin s' => match fin with | .done f => R (.ok f) s' | .again c' => c'.quiet = true ∧ codeAny (model prog w) A c' R s') (fun e s' => R (.error e) s') { s with heap := h₂ } := by
      have F₃ := F₂.push (triO (cx (S (i + 1))) (Float64.zero false) (Float64.zero false))
      have N₃ := N₂.push F₂ (triO (cx (S (i + 1))) (Float64.zero false) (Float64.zero false))
      have q1 := Heap.lt_size (N₂ _ (.head _)).1
      have q2 := Heap.lt_size (N₂ _ (.tail _ (.head _))).1
      refine wpAny_bind (wpAny_newTuple ?_ (by size_fits))
      refine wpAny_pure ⟨plainId_quiet plain_spl _, ih (i + 1) h₂.objs.size false true _ (by (first | assumption | exact omE ‹_› ‹_› | exact omN ‹_› ‹_› | exact om6 ‹_› | exact om7 ‹_› | exact om9 ‹_› ‹_› | exact om11 ‹_› rfl | exact om24 ‹_› ‹_› | exact rm2 ‹_› rfl | exact rm1 ‹_› rfl | exact Nat.le_trans ‹_› ‹_› | exact Nat.lt_of_lt_of_le ‹_› ‹_› | exact Nat.lt_of_le_of_lt ‹_› ‹_› | omega)) hlt (fun _ => rfl) (Nat.ne_of_gt q1) (Nat.ne_of_gt q2) F₃ ?_ fun h' tk' t F' N' ht => hQ h' tk' t F' N' ht⟩
      exact news_drop N₃ fun q hq => mem_ins [_, _, _] (mem_rot [_] [_, _] hq)
    have step : ∀ ELSE, wpAny (model prog w) A.in1 (do
          let next := Builtin.Math.tlFma x y ((((cx (S i)).toNat : Nat) : Int).toNat.toUInt64, (((Float64.zero false).toNat : Nat) : Int).toNat.toUInt64, (((Float64.zero false).toNat : Nat) : Int).toNat.toUInt64)
          if Float64.isFinite next.1 = true then
            let t ← newTuple [rawInt next.1.toNat, rawInt next.2.1.toNat, rawInt next.2.2.toNat]
            again (.builtin "math.sumprod.loop" ⟨[.ref I1, .ref I2, .int 0 t0, .bool false, rawInt 0, .bool false, .bool true, t, .bool true], []⟩)
          else ELSE)
        (fun fin s' => match fin with | .done f => R (.ok f) s' | .again c' => c'.quiet = true ∧ codeAny (model prog w) A c' R s') (fun e s' => R (.error e) s') { s with heap := h₂ } := by
      intro ELSE
      simp only [hnx]
      rw [if_pos hfin]
      exact go
    cases io
    · exact step _
    · show wpAny _ _ (rule "math.sumprod.leaves-ints" >>= _) _ _ _
      exact wpAny_bind (wpAny_rule (step _))
theorem sp_call_l {D1 D2 : Addr} {k1 k2 n : Nat} {vs1 vs2 : List Value} {u v wt S : Nat → Int}
   (hh : A.handled = none) (l1 : vs1.length = n) (l2 : vs2.length = n) (hn : 0 < n)
   (h1 : ∀ i, i < n → ∃ x t b, vs1[i]? = some (.float x t) ∧ F x b (u i)) (h2 : ∀ i, i < n → ∃ x t b, vs2[i]? = some (.float x t) ∧ F x b (v i))
   (hw : ∀ i, i < n → u i * v i = 16 * wt i ∧ (wt i).natAbs < 2 ^ 51) (hS0 : S 0 = 0) (hS : ∀ i, i < n → S (i + 1) = S i + wt i) (hSb : ∀ i, i ≤ n → (S i).natAbs < 2 ^ 51)
   (m1 : (D1, lsO vs1 k1) ∈ news) (m2 : (D2, lsO vs2 k2) ∈ news) (F₀ : Fr h₀ L s.heap m) (N : News h₀ L s.heap news)
   (hQ : ∀ h' (tk' : Nat) t, Fr h₀ L h' m → News h₀ L h' news → s.toks ≤ tk' → Q (.float (cx (S n)) t) { s with heap := h', toks := tk' }) :
   wpAny (model prog w) A (call (.builtin "math.sumprod") [.ref D1, .ref D2]) Q E s := by
  refine call_function_run kind_sp plain_sp entry_sp (args_sp _ _) ?_
  show wpAny _ _ (pyIter (.ref D1) >>= _) _ _ s
  refine wpAny_bind (pyIter_N F₀ N m1 fun I1 h₁ F₁ N₁ q₁ => ?_)
  refine wpAny_bind (wpAny_holding (pyIter_N F₁ N₁ (.tail _ m2) fun I2 h₂ F₂ N₂ q₂ => ?_))
  refine wpAny_bind (wpAny_mkInt ?_)
  have F₃ := F₂.push (triO (cx (S 0)) (Float64.zero false) (Float64.zero false))
  have N₃ := N₂.push F₂ (triO (cx (S 0)) (Float64.zero false) (Float64.zero false))
  have z1 := Heap.lt_size (N₂ _ (.tail _ (.head _))).1
  have z2 := Heap.lt_size (N₂ _ (.head _)).1
  have z3 : @LT.lt Nat _ I1 I2 := q₂ _ (.head _)
  refine wpAny_bind (wpAny_newTuple ?_ (by size_fits))
  rw [hS0, cx0] at F₃ N₃
  refine wpAny_pure ⟨plainId_quiet plain_spl _, sp_loop_l hh l1 l2 hn h1 h2 hw hS0 hS hSb m1 m2 (Nat.ne_of_lt z3) (fun q hq => Nat.ne_of_lt (q₁ q hq)) (fun q hq => Nat.ne_of_lt (q₂ q (.tail _ hq))) n 0 h₂.objs.size true false _ rfl (Nat.zero_le _) (fun h => absurd h (by decide)) (Nat.ne_of_gt z1) (Nat.ne_of_gt z2) F₃ (by
      rw [hS0, cx0]
      exact news_drop N₃ fun q hq => mem_p3 hq) fun h' tk' t F' N' ht => hQ h' tk' t F' N' (Nat.le_trans (Nat.le_succ _) ht)⟩
theorem pyIter_T {V : Addr} {vs : List Value} {k : Nat} (F₀ : Fr h₀ L s.heap m) (N : News h₀ L s.heap news) (hm : (V, tpO vs k) ∈ news)
   (h : ∀ LI h', Fr h₀ L h' m → News h₀ L h' ((LI, tiObj V 0) :: news) → (∀ p ∈ news, p.1 < LI) → Q (.ref LI) { s with heap := h' }) :
    wpAny (model prog w) A (pyIter (.ref V)) Q E s :=
  wpAny_pyIter_tuple (show s.heap.IsTuple V vs.toArray from ⟨_, (N _ hm).1, rfl, _, rfl⟩) (h _ _ (F₀.push _) (N.push F₀ _) fun p hp => Heap.lt_size (N p hp).1)
theorem ti_item {LI V : Addr} {i : Nat} {vs : List Value} {v : Value} {g : Obj → List (Addr × Obj)} {Q : Option Value → Shared → Prop} {k : Nat} (F : Fr h₀ L s.heap m) (N : News h₀ L s.heap news) (U : UpdF LI (tiObj V i) news g)
    (hV : (V, (tpO vs k)) ∈ news) (hi : vs[i]? = some v) (h : ∀ h', Fr h₀ L h' m → News h₀ L h' (g (tiObj V (i + 1))) → Q (some v) { s with heap := h' }) :
    wpAny (model prog w) A (pyNext (.ref LI)) Q E s := by
  obtain ⟨pre, post, hl, hg, _, _⟩ := U.split
  have hm := N (LI, tiObj V i) (by rw [hl]; exact List.mem_append_right _ (.head _))
  have hv := N _ hV
  have hT : Shared.TypeIs s (.ref LI) "tuple_iterator" := ⟨_, hm.1, rfl⟩
  unfold pyNext
  refine wpAny_bind (wpAny_attempt (wpAny_callSpecial?_slot (name := Str.ofString "__next__") hT PySem.F.slot_tuple_iterator_next (wpAny_call_entry PySem.F.slot_tuple_iterator_next ⟨_, hm.1, rfl⟩ PySem.F.entry_tuple_iterator_next ?_ (PySem.F.args_tuple_iterator_next_1 _))))
  show wpAny _ _ (field (.ref LI) 0 >>= _) _ _ s
  refine wpAny_bind (wpAny_field hm.1 rfl (x := .ref V) rfl ?_)
  show wpAny _ _ (if (Value.ref V == Value.none) = true then _ else _) _ _ s
  rw [if_neg (show ¬ ((Value.ref V == Value.none) = true) from Bool.false_ne_true)]
  show wpAny _ _ (field (.ref LI) 1 >>= _) _ _ s
  refine wpAny_bind (wpAny_field hm.1 rfl (x := .int i 0) rfl ?_)
  show wpAny _ _ (seqItems? (.ref V) >>= _) _ _ s
  refine wpAny_bind (wpAny_seqItems hv.1 rfl ?_)
  have hx : (vs.toArray)[(Int.ofNat i).toNat]? = some v := by simpa using hi
  have hx' : (vs.toArray)[((i : Nat) : Int).toNat]? = some v := hx
  simp only [hx']
  have hu := upd_split (f := Obj.mapFields (·.setIfInBounds 1 (rawInt ((i : Int) + 1)))) F N U (o' := tiObj V (i + 1)) (by simp [Obj.mapFields, rawInt]) rfl
  refine wpAny_bind (wpAny_setField hm.1 rfl (by simp) ?_)
  exact wpAny_pure ⟨v, rfl, wpAny_pure (h _ hu.1 hu.2)⟩
theorem ti_end {LI V : Addr} {i : Nat} {vs : List Value} {g : Obj → List (Addr × Obj)} {Q : Option Value → Shared → Prop} {k : Nat} (hh : A.handled = none) (F : Fr h₀ L s.heap m) (N : News h₀ L s.heap news) (U : UpdF LI (tiObj V i) news g)
    (hV : (V, (tpO vs k)) ∈ news) (hi : vs[i]? = none) (h : ∀ h', Fr h₀ L h' m → News h₀ L h' (g (tiDead i)) → Q none { s with heap := h' }) :
    wpAny (model prog w) A (pyNext (.ref LI)) Q E s := by
  obtain ⟨pre, post, hl, hg, _, _⟩ := U.split
  have hm := N (LI, tiObj V i) (by rw [hl]; exact List.mem_append_right _ (.head _))
  have hv := N _ hV
  have hT : Shared.TypeIs s (.ref LI) "tuple_iterator" := ⟨_, hm.1, rfl⟩
  have fin : ∀ h₁ h' e, Fr h₀ L h₁ m → News h₀ L h₁ (g (tiDead i)) → Heap.NewExc h₁ h' e "StopIteration" → wpAny (model prog w) A (do (if ← isInstance (.ref e) (.type "StopIteration") then pure none else throw (.ref e))) Q E { s with heap := h' } := fun h₁ h' e F₂ N₂ X₂ => by
    obtain ⟨ob, tp, he, hc, _⟩ := X₂.there
    refine wpAny_bind (wpAny_isInstance (T := "StopIteration") (b := true) ⟨ob, he, hc⟩ stop_sub ?_)
    exact wpAny_pure (h h' (F₂.keeps X₂.keeps) (fun q hq => ⟨X₂.keeps _ _ (N₂ q hq).1, (N₂ q hq).2⟩))
  unfold pyNext
  refine wpAny_bind (wpAny_attempt (wpAny_callSpecial?_slot (name := Str.ofString "__next__") hT PySem.F.slot_tuple_iterator_next (wpAny_call_entry PySem.F.slot_tuple_iterator_next ⟨_, hm.1, rfl⟩ PySem.F.entry_tuple_iterator_next ?_ (PySem.F.args_tuple_iterator_next_1 _))))
  show wpAny _ _ (field (.ref LI) 0 >>= _) _ _ s
  refine wpAny_bind (wpAny_field hm.1 rfl (x := .ref V) rfl ?_)
  show wpAny _ _ (if (Value.ref V == Value.none) = true then _ else _) _ _ s
  rw [if_neg (show ¬ ((Value.ref V == Value.none) = true) from Bool.false_ne_true)]
  show wpAny _ _ (field (.ref LI) 1 >>= _) _ _ s
  refine wpAny_bind (wpAny_field hm.1 rfl (x := .int i 0) rfl ?_)
  show wpAny _ _ (seqItems? (.ref V) >>= _) _ _ s
  refine wpAny_bind (wpAny_seqItems hv.1 rfl ?_)
  have hx' : (vs.toArray)[((i : Nat) : Int).toNat]? = none := by simpa using hi
  simp only [hx']
  have hu := upd_split (f := Obj.mapFields (·.setIfInBounds 0 Value.none)) F N U (o' := tiDead i) (by simp [Obj.mapFields]) rfl
  refine wpAny_bind (wpAny_rule (wpAny_bind (wpAny_setField hm.1 rfl (by simp) ?_)))
  show wpAny _ _ (newExc (.type "StopIteration") [] >>= _) _ _ _
  refine wpAny_bind ?_
  simp only [newExc, newTuple]
  refine wpAny_bind (wpAny_newObj_type ?_ (by size_fits))
  refine wpAny_bind (m := firstArgMember _ _) (wpAny_of_eq (a := Value.none) (by first | rfl | (simp only [firstArgMember]; rfl)) ?_)
  refine wpAny_newObj_type ?_ (by size_fits)
  simp only [raiseNew]
  refine wpAny_bind (wpAny_handled ?_)
  rw [show A.in1.handled = none from hh]
  refine wpAny_bind (wpAny_pure (wpAny_throw ?_))
  refine fin _ _ _ hu.1 hu.2 ⟨fun b o q => Heap.get?_push_of_some _ (Heap.get?_push_of_some _ q), ?_, ?_⟩
  · exact Heap.get?_none_of_le (by rw [Heap.size_push]; exact Nat.le_succ _)
  · exact ⟨_, _, Heap.get?_push_size _ rfl, rfl, rfl⟩
theorem sp_loop_t {I1 I2 D1 D2 : Addr} {k1 k2 n : Nat} {vs1 vs2 : List Value} {rest : List (Addr × Obj)} {R : Result → Shared → Prop} {u v wt S : Nat → Int} {t0 : Tok}
   (hh : A.handled = none) (l1 : vs1.length = n) (l2 : vs2.length = n) (hn : 0 < n)
   (h1 : ∀ i, i < n → ∃ x t b, vs1[i]? = some (.float x t) ∧ F x b (u i)) (h2 : ∀ i, i < n → ∃ x t b, vs2[i]? = some (.float x t) ∧ F x b (v i))
   (hw : ∀ i, i < n → u i * v i = 16 * wt i ∧ (wt i).natAbs < 2 ^ 51) (hS0 : S 0 = 0) (hS : ∀ i, i < n → S (i + 1) = S i + wt i) (hSb : ∀ i, i ≤ n → (S i).natAbs < 2 ^ 51)
   (m1 : (D1, tpO vs1 k1) ∈ rest) (m2 : (D2, tpO vs2 k2) ∈ rest) (n12 : I1 ≠ I2) (nr1 : ∀ q ∈ rest, q.1 ≠ I1) (nr2 : ∀ q ∈ rest, q.1 ≠ I2) :
   ∀ (r i : Nat) (T3 : Addr) (io fu : Bool) (s : Shared), n - i = r → i ≤ n → (0 < i → fu = true) → T3 ≠ I1 → T3 ≠ I2 → Fr h₀ L s.heap m → News h₀ L s.heap ((I1, tiObj D1 i) :: (I2, tiObj D2 i) :: (T3, triO (cx (S i)) (Float64.zero false) (Float64.zero false)) :: rest) →
    (∀ h' (tk' : Nat) t, Fr h₀ L h' m → News h₀ L h' rest → s.toks ≤ tk' → R (.ok (.ret (.float (cx (S n)) t))) { s with heap := h', toks := tk' }) →
    codeAny (model prog w) A (.builtin "math.sumprod.loop" ⟨[.ref I1, .ref I2, .int 0 t0, .bool io, rawInt 0, .bool false, .bool true, .ref T3, .bool fu], []⟩) R s := by
  intro r
  induction r with
  | zero =>
    intro i T3 io fu s hr hle hf n31 n32 F₀ N hQ
    have hi : i = n := by (first | assumption | exact omE ‹_› ‹_› | exact omN ‹_› ‹_› | exact om6 ‹_› | exact om7 ‹_› | exact om9 ‹_› ‹_› | exact om11 ‹_› rfl | exact om24 ‹_› ‹_› | exact rm2 ‹_› rfl | exact rm1 ‹_› rfl | exact Nat.le_trans ‹_› ‹_› | exact Nat.lt_of_lt_of_le ‹_› ‹_› | exact Nat.lt_of_le_of_lt ‹_› ‹_› | omega)
    subst hi
    obtain rfl := hf hn
    refine codeAny_builtin entry_spl ?_
    rw [Around.under_plainId plain_spl _]
    show wpAny _ _ (seqItems? (.ref T3) >>= _) _ _ s
    refine wpAny_bind (wpAny_seqItems (N _ (.tail _ (.tail _ (.head _)))).1 rfl ?_)
    show wpAny _ _ (pyNext (.ref I1) >>= _) _ _ s
    refine wpAny_bind (ti_end (A := A.in1) hh F₀ N (.head (by simp only [List.forall_mem_cons]; exact ⟨Ne.symm n12, n31, nr1⟩)) (.tail _ (.tail _ (.tail _ m1))) (by simp [l1]) fun h₁ F₁ N₁ => ?_)
    refine wpAny_bind (wpAny_holding (ti_end (A := A.in1) hh F₁ N₁ (.tail n12 (.head (by simp only [List.forall_mem_cons]; exact ⟨n32, nr2⟩))) (.tail _ (.tail _ (.tail _ m2))) (by simp [l2]) fun h₂ F₂ N₂ => ?_))
    have e64 : ∀ x : UInt64, ((x.toNat : Nat) : Int).toNat.toUInt64 = x := u64_back
    have done : ∀ (T : List Value), wpAny (model prog w) A.in1 (do rule "math.sumprod.leaves-floats"; let x ← mkFloat (Builtin.Math.tlToFloat ((((cx (S i)).toNat : Nat) : Int).toNat.toUInt64, (((Float64.zero false).toNat : Nat) : Int).toNat.toUInt64, (((Float64.zero false).toNat : Nat) : Int).toNat.toUInt64)); let total ← holding T (binaryOp .Add (.int 0 t0) x); ret total)
        (fun fin s' => match fin with | .done f => R (.ok f) s' | .again c' => c'.quiet = true ∧ codeAny (model prog w) A c' R s') (fun e s' => R (.error e) s') { s with heap := h₂ } := fun T =>
      sp_fin (hSb i (Nat.le_refl _)) (by rw [e64, e64]) fun t tk' ht => hQ h₂ tk' t F₂ (fun q hq => N₂ q (.tail _ (.tail _ (.tail _ hq)))) ht
    cases io
    · exact done _
    · show wpAny _ _ (rule "math.sumprod.leaves-ints" >>= _) _ _ _
      exact wpAny_bind (wpAny_rule (done _))
  | succ r ih =>
    intro i T3 io fu s hr hle hf n31 n32 F₀ N hQ
    have hlt : i < n := by (first | assumption | exact omE ‹_› ‹_› | exact omN ‹_› ‹_› | exact om6 ‹_› | exact om7 ‹_› | exact om9 ‹_› ‹_› | exact om11 ‹_› rfl | exact om24 ‹_› ‹_› | exact rm2 ‹_› rfl | exact rm1 ‹_› rfl | exact Nat.le_trans ‹_› ‹_› | exact Nat.lt_of_lt_of_le ‹_› ‹_› | exact Nat.lt_of_le_of_lt ‹_› ‹_› | omega)
    obtain ⟨x, t, b, e1, fx⟩ := h1 i hlt
    obtain ⟨y, t', b', e2, fy⟩ := h2 i hlt
    refine codeAny_builtin entry_spl ?_
    rw [Around.under_plainId plain_spl _]
    show wpAny _ _ (seqItems? (.ref T3) >>= _) _ _ s
    refine wpAny_bind (wpAny_seqItems (N _ (.tail _ (.tail _ (.head _)))).1 rfl ?_)
    show wpAny _ _ (pyNext (.ref I1) >>= _) _ _ s
    refine wpAny_bind (ti_item F₀ N (.head (by simp only [List.forall_mem_cons]; exact ⟨Ne.symm n12, n31, nr1⟩)) (.tail _ (.tail _ (.tail _ m1))) e1 fun h₁ F₁ N₁ => ?_)
    refine wpAny_bind (wpAny_holding (ti_item F₁ N₁ (.tail n12 (.head (by simp only [List.forall_mem_cons]; exact ⟨n32, nr2⟩))) (.tail _ (.tail _ (.tail _ m2))) e2 fun h₂ F₂ N₂ => ?_))
    have e64 : ∀ x : UInt64, ((x.toNat : Nat) : Int).toNat.toUInt64 = x := u64_back
    have hnx : Builtin.Math.tlFma x y ((((cx (S i)).toNat : Nat) : Int).toNat.toUInt64, (((Float64.zero false).toNat : Nat) : Int).toNat.toUInt64, (((Float64.zero false).toNat : Nat) : Int).toNat.toUInt64) = (cx (S (i + 1)), Float64.zero false, Float64.zero false) := by
      rw [e64, e64, tlFma_F fx fy (hw i hlt).1 (hSb i hle) (hw i hlt).2, hS i hlt]
    have hfin : Float64.isFinite (cx (S (i + 1))) = true := cx_fin (by have := hSb (i + 1) hlt; (first | assumption | exact omE ‹_› ‹_› | exact omN ‹_› ‹_› | exact om6 ‹_› | exact om7 ‹_› | exact om9 ‹_› ‹_› | exact om11 ‹_› rfl | exact om24 ‹_› ‹_› | exact rm2 ‹_› rfl | exact rm1 ‹_› rfl | exact Nat.le_trans ‹_› ‹_› | exact Nat.lt_of_lt_of_le ‹_› ‹_› | exact Nat.lt_of_le_of_lt ‹_› ‹_› | omega))
    have go : wpAny (model prog w) A.in1 (do
          let t ← newTuple [rawInt (cx (S (i + 1))).toNat, rawInt (Float64.zero false).toNat, rawInt (Float64.zero false).toNat]
          again (.builtin "math.sumprod.loop" ⟨[.ref I1, .ref I2, .int 0 t0, .bool false, rawInt 0, .bool false, .bool true, t, .bool true], []⟩))
        (fun fin s' => match fin with | .done f => R (.ok f) s' | .again c' => c'.quiet = true ∧ codeAny (model prog w) A c' R s') (fun e s' => R (.error e) s') { s with heap := h₂ } := by
      have F₃ := F₂.push (triO (cx (S (i + 1))) (Float64.zero false) (Float64.zero false))
      have N₃ := N₂.push F₂ (triO (cx (S (i + 1))) (Float64.zero false) (Float64.zero false))
      have q1 := Heap.lt_size (N₂ _ (.head _)).1
      have q2 := Heap.lt_size (N₂ _ (.tail _ (.head _))).1
      refine wpAny_bind (wpAny_newTuple ?_ (by size_fits))
      refine wpAny_pure ⟨plainId_quiet plain_spl _, ih (i + 1) h₂.objs.size false true _ (by (first | assumption | exact omE ‹_› ‹_› | exact omN ‹_› ‹_› | exact om6 ‹_› | exact om7 ‹_› | exact om9 ‹_› ‹_› | exact om11 ‹_› rfl | exact om24 ‹_› ‹_› | exact rm2 ‹_› rfl | exact rm1 ‹_› rfl | exact Nat.le_trans ‹_› ‹_› | exact Nat.lt_of_lt_of_le ‹_› ‹_› | exact Nat.lt_of_le_of_lt ‹_› ‹_› | omega)) hlt (fun _ => rfl) (Nat.ne_of_gt q1) (Nat.ne_of_gt q2) F₃ ?_ fun h' tk' t F' N' ht => hQ h' tk' t F' N' ht⟩
      exact news_drop N₃ fun q hq => mem_ins [_, _, _] (mem_rot [_] [_, _] hq)
    have step : ∀ ELSE, wpAny (model prog w) A.in1 (do
          let next := Builtin.Math.tlFma x y ((((cx (S i)).toNat : Nat) : Int).toNat.toUInt64, (((Float64.zero false).toNat : Nat) : Int).toNat.toUInt64, (((Float64.zero false).toNat : Nat) : Int).toNat.toUInt64)
          if Float64.isFinite next.1 = true then
            let t ← newTuple [rawInt next.1.toNat, rawInt next.2.1.toNat, rawInt next.2.2.toNat]
            again (.builtin "math.sumprod.loop" ⟨[.ref I1, .ref I2, .int 0 t0, .bool false, rawInt 0, .bool false, .bool true, t, .bool true], []⟩)
          else ELSE)
        (fun fin s' => match fin with | .done f => R (.ok f) s' | .again c' => c'.quiet = true ∧ codeAny (model prog w) A c' R s') (fun e s' => R (.error e) s') { s with heap := h₂ } := by
      intro ELSE
      simp only [hnx]
      rw [if_pos hfin]
      exact go
    cases io
    · exact step _
    · show wpAny _ _ (rule "math.sumprod.leaves-ints" >>= _) _ _ _
      exact wpAny_bind (wpAny_rule (step _))
theorem sp_call_t {D1 D2 : Addr} {k1 k2 n : Nat} {vs1 vs2 : List Value} {u v wt S : Nat → Int}
   (hh : A.handled = none) (l1 : vs1.length = n) (l2 : vs2.length = n) (hn : 0 < n)
   (h1 : ∀ i, i < n → ∃ x t b, vs1[i]? = some (.float x t) ∧ F x b (u i)) (h2 : ∀ i, i < n → ∃ x t b, vs2[i]? = some (.float x t) ∧ F x b (v i))
   (hw : ∀ i, i < n → u i * v i = 16 * wt i ∧ (wt i).natAbs < 2 ^ 51) (hS0 : S 0 = 0) (hS : ∀ i, i < n → S (i + 1) = S i + wt i) (hSb : ∀ i, i ≤ n → (S i).natAbs < 2 ^ 51)
   (m1 : (D1, tpO vs1 k1) ∈ news) (m2 : (D2, tpO vs2 k2) ∈ news) (F₀ : Fr h₀ L s.heap m) (N : News h₀ L s.heap news)
   (hQ : ∀ h' (tk' : Nat) t, Fr h₀ L h' m → News h₀ L h' news → s.toks ≤ tk' → Q (.float (cx (S n)) t) { s with heap := h', toks := tk' }) :
   wpAny (model prog w) A (call (.builtin "math.sumprod") [.ref D1, .ref D2]) Q E s := by
  refine call_function_run kind_sp plain_sp entry_sp (args_sp _ _) ?_
  show wpAny _ _ (pyIter (.ref D1) >>= _) _ _ s
  refine wpAny_bind (pyIter_T F₀ N m1 fun I1 h₁ F₁ N₁ q₁ => ?_)
  refine wpAny_bind (wpAny_holding (pyIter_T F₁ N₁ (.tail _ m2) fun I2 h₂ F₂ N₂ q₂ => ?_))
  refine wpAny_bind (wpAny_mkInt ?_)
  have F₃ := F₂.push (triO (cx (S 0)) (Float64.zero false) (Float64.zero false))
  have N₃ := N₂.push F₂ (triO (cx (S 0)) (Float64.zero false) (Float64.zero false))
  have z1 := Heap.lt_size (N₂ _ (.tail _ (.head _))).1
  have z2 := Heap.lt_size (N₂ _ (.head _)).1
  have z3 : @LT.lt Nat _ I1 I2 := q₂ _ (.head _)
  refine wpAny_bind (wpAny_newTuple ?_ (by size_fits))
  rw [hS0, cx0] at F₃ N₃
  refine wpAny_pure ⟨plainId_quiet plain_spl _, sp_loop_t hh l1 l2 hn h1 h2 hw hS0 hS hSb m1 m2 (Nat.ne_of_lt z3) (fun q hq => Nat.ne_of_lt (q₁ q hq)) (fun q hq => Nat.ne_of_lt (q₂ q (.tail _ hq))) n 0 h₂.objs.size true false _ rfl (Nat.zero_le _) (fun h => absurd h (by decide)) (Nat.ne_of_gt z1) (Nat.ne_of_gt z2) F₃ (by
      rw [hS0, cx0]
      exact news_drop N₃ fun q hq => mem_p3 hq) fun h' tk' t F' N' ht => hQ h' tk' t F' N' (Nat.le_trans (Nat.le_succ _) ht)⟩
end
end
end Mine
end
section
local macro_rules | `(tactic| walk_at "exec While") => `(tactic| (k_here; refine stop_here ?_))
set_option hygiene true in
local macro_rules | `(tactic| walk_at "call builtin:abs") => `(tactic| (k_here; (refine call_absT ?_); intro u9 tk9 htk9 hu9; (try dsimp only at htk9 hu9)))
set_option hygiene true in
local macro_rules | `(tactic| walk_at "binaryOp Add bytes bytes") => `(tactic| (k_here; (refine add_bytesT (by first | assumption | (simp; omega) | omega) ?_); intro u9 tk9 htk9 hu9; (try dsimp only at htk9 hu9)))
local macro_rules | `(tactic| walk_at "eval Name") => `(tactic| (k_here; k_dflt (refine' nameX_L ?F ?v ?_ ?a ?b; (case F => k_asm); (case a => rfl); (case b => rfl); (case v => first | rfl | assumption); k_whole)))
local macro_rules | `(tactic| walk_at "loadName") => `(tactic| (k_here; k_dflt (refine ldn (by k_asm) (by first | rfl | assumption) ?_)))
section
set_option hygiene true in
local macro_rules | `(tactic| walk_at "execs cons") => `(tactic| ((with_reducible refine execs_cons_tok ?_); try dsimp only))
-- WInt
section
namespace Mine
theorem rstWInt : True := by (w_top off); trivial
section
variable {w : World} {mean : ExcName → Option Value} {mg mb : Str → Option Value}
   {dp un : Nat} {gd : Option (List Code)} {cn : Str} {nm : List (Str × NameKind)} {ig ic : Bool} {mo : List (Str × Const)} {a : Addr} {ccd : Value} {outer : List Env} {A₀ : Around} {base h₀ : Heap} {L : Addr} {m : Str → Option Value} {s : Shared} {Q E : Value → Shared → Prop} {news : List (Addr × Obj)}
noncomputable def lets (k n : Nat) : List UInt8 := (List.range k).reverse.map fun j => UInt8.ofNat (65 + n / 16 ^ j % 16)
noncomputable def plc (n : Nat) : Nat := if n = 0 then 0 else if n < 16 then 1 else if n < 256 then 2 else 3
noncomputable def wordOf (n : Nat) : List UInt8 := lets (plc n) n
theorem lets_succ (k n : Nat) : lets (k + 1) n = UInt8.ofNat (65 + n / 16 ^ k % 16) :: lets k n := by simp [lets, List.range_succ]
theorem lets_len (k n : Nat) : (lets k n).length = k := by simp [lets]
theorem plc_le (n : Nat) : plc n ≤ 3 := by
  unfold plc
  split
  · decide
  · split
    · decide
    · split <;> decide
theorem plc_at {n a k : Nat} (h1 : 16 ^ a ≤ n) (h2 : n < 16 ^ (a + 1)) : n / 16 ^ k = 0 ↔ a + 1 ≤ k :=
  (Nat.div_eq_zero_iff_lt (Nat.pow_pos (by decide))).trans ⟨fun q => Nat.lt_of_not_le fun z => Nat.lt_irrefl _ (Nat.lt_of_lt_of_le q (Nat.le_trans (Nat.pow_le_pow_right (by decide) z) h1)), fun q => Nat.lt_of_lt_of_le h2 (Nat.pow_le_pow_right (by decide) q)⟩
theorem plc_lt {n k : Nat} (h : n < 4096) : n / 16 ^ k = 0 ↔ plc n ≤ k := by
  unfold plc
  split
  · rename_i h0
    subst h0
    exact iff_of_true (Nat.zero_div _) (Nat.zero_le _)
  · split
    · exact plc_at (a := 0) (Nat.pos_of_ne_zero (by assumption)) (by assumption)
    · split
      · exact plc_at (a := 1) (Nat.le_of_not_lt (by assumption)) (by assumption)
      · exact plc_at (a := 2) (Nat.le_of_not_lt (by assumption)) h
theorem om33 {j p : Nat} (h : j ≤ p) (k : p ≤ 3) : 1 + j ≤ 16777216 := by omega
theorem om34 {a b : Prop} {t tv x y l u : Nat} (h : a ∧ t = tv ∨ b ∧ t = x ∨ y ≤ t ∧ t < u) (h1 : l ≤ tv) (h2 : l ≤ x) (h3 : l ≤ y) : l ≤ t := by omega
theorem om35 {a b : Prop} {t tv x y u : Nat} (h : a ∧ t = tv ∨ b ∧ t = x ∨ y ≤ t ∧ t < u) (h1 : tv < x) (h2 : x + 1 ≤ u) : t < u + 1 := by omega
inductive I2 (h₀ : Heap) (L : Addr) (news : List (Addr × Obj)) (s : Shared) (n : Nat) (k : Nat) (s' : Shared) : Prop
  | mk (h : Heap) (tk : Nat) (mm : Str → Option Value) (j tn tv ta : Nat) (p1 : s' = { s with heap := h, toks := tk }) (p2 : s.toks ≤ tk) (p3 : Fr h₀ L h mm) (p4 : News h₀ L h news) (p5 : j ≤ plc n) (p6 : k = 3 - j) (p7 : mm (Str.ofString "num") = some (.int ((n / 16 ^ j : Nat) : Int) tn)) (p8 : mm (Str.ofString "val") = some (.bytes (lets j n).toArray tv)) (p9 : s.toks ≤ tv) (p10 : tv < tk) (p11 : mm (Str.ofString "AP") = some (.bytes #[65, 66, 67, 68, 69, 70, 71, 72, 73, 74, 75, 76, 77, 78, 79, 80] ta)) : I2 h₀ L news s n k s'
theorem I2.intro {h₀ h : Heap} {L : Addr} {news : List (Addr × Obj)} {s : Shared} {n j tk tn tv ta : Nat} {mm : Str → Option Value} {z : Int} {b : Array UInt8} (htk : s.toks ≤ tk) (F : Fr h₀ L h mm) (N : News h₀ L h news) (hj : j ≤ plc n) (hn : mm (Str.ofString "num") = some (.int z tn)) (hv : mm (Str.ofString "val") = some (.bytes b tv))
    (hAP : mm (Str.ofString "AP") = some (.bytes #[65, 66, 67, 68, 69, 70, 71, 72, 73, 74, 75, 76, 77, 78, 79, 80] ta)) (t1 : s.toks ≤ tv) (t2 : tv < tk) (hz : z = ((n / 16 ^ j : Nat) : Int)) (hb : b = (lets j n).toArray) : I2 h₀ L news s n (3 - j) { s with heap := h, toks := tk } :=
  ⟨h, tk, mm, j, tn, tv, ta, rfl, htk, F, N, hj, rfl, by rw [hn, hz], by rw [hv, hb], t1, t2, hAP⟩
theorem ap_picked : ∀ k : Fin 16, KBy.whole #[65, 66, 67, 68, 69, 70, 71, 72, 73, 74, 75, 76, 77, 78, 79, 80] (some ((k.val : Nat) : Int)) (some (((k.val : Nat) : Int) + 1)) = false ∧ KBy.picked #[65, 66, 67, 68, 69, 70, 71, 72, 73, 74, 75, 76, 77, 78, 79, 80] (some ((k.val : Nat) : Int)) (some (((k.val : Nat) : Int) + 1)) = #[UInt8.ofNat (65 + k.val)] := by decide +kernel
theorem ap_slice {prog : Program} {w : World} {A : Around} {E : Value → Shared → Prop} {s : Shared} {Q : Value → Shared → Prop} {h₀ H : Heap} {L : Addr} {m : Str → Option Value} {news : List (Addr × Obj)} {value slice : PySem.Expr} {t t1 t2 : Tok} {a k : Nat} {l : Int} (hl : l = ((a : Nat) : Int).fmod 16) (hF : Fr h₀ L H m) (hN : News h₀ L H news)
    (h : ∀ h', Fr h₀ L h' m → News h₀ L h' news → Q (.bytes #[UInt8.ofNat (65 + a % 16)] k) { s with heap := h', toks := k + 1 })
    (hs : subscripted slice false (.bytes #[65, 66, 67, 68, 69, 70, 71, 72, 73, 74, 75, 76, 77, 78, 79, 80] t) (.ref H.objs.size) = operate [.ref H.objs.size, .bytes #[65, 66, 67, 68, 69, 70, 71, 72, 73, 74, 75, 76, 77, 78, 79, 80] t] (getItem (.bytes #[65, 66, 67, 68, 69, 70, 71, 72, 73, 74, 75, 76, 77, 78, 79, 80] t) (.ref H.objs.size)))
    (ht : ∀ r, letTemporaryGo value (.bytes #[65, 66, 67, 68, 69, 70, 71, 72, 73, 74, 75, 76, 77, 78, 79, 80] t) r = pure ()) :
    wpAny (model prog w) A (subscriptTail value slice (.bytes #[65, 66, 67, 68, 69, 70, 71, 72, 73, 74, 75, 76, 77, 78, 79, 80] t) (.ref H.objs.size)) Q E { s with heap := H.push { cls := .type "slice", data := .fields #[.int l t1, .int (l + 1) t2, .none] }, toks := k } := by
  have e : l = ((a % 16 : Nat) : Int) := by rw [hl, Int.fmod_eq_emod_of_nonneg _ (by decide)]; (first | assumption | exact omE ‹_› ‹_› | exact omN ‹_› ‹_› | exact om6 ‹_› | exact om7 ‹_› | exact om9 ‹_› ‹_› | exact om11 ‹_› rfl | exact om24 ‹_› ‹_› | exact rm2 ‹_› rfl | exact rm1 ‹_› rfl | exact Nat.le_trans ‹_› ‹_› | exact Nat.lt_of_lt_of_le ‹_› ‹_› | exact Nat.lt_of_le_of_lt ‹_› ‹_› | omega)
  subst e
  have z := ap_picked ⟨a % 16, Nat.mod_lt _ (by decide)⟩
  dsimp only at z
  refine slice_T (s := { s with heap := H, toks := k }) hF hN (.int _ _) (.int _ _) z.1 (by rw [z.2]; exact (show (1:Nat) ≤ 16777216 by decide)) (fun h' a1 a2 => ?_) hs ht
  rw [z.2]
  exact h h' a1 a2
local macro_rules | `(tactic| walk_at "binaryOp Add bytes bytes") => `(tactic| (k_here; (try dsimp only); (refine add_bytesT (by simp only [List.size_toArray, lets_len]; (try simp); first | exact om33 (by assumption) (by assumption) | (first | assumption | exact omE ‹_› ‹_› | exact omN ‹_› ‹_› | exact om6 ‹_› | exact om7 ‹_› | exact om9 ‹_› ‹_› | exact om11 ‹_› rfl | exact om24 ‹_› ‹_› | exact rm2 ‹_› rfl | exact rm1 ‹_› rfl | exact Nat.le_trans ‹_› ‹_› | exact Nat.lt_of_lt_of_le ‹_› ‹_› | exact Nat.lt_of_le_of_lt ‹_› ‹_› | omega)) ?_); intro t9 tk9 htk9 hu9; (try dsimp only at htk9 hu9)))
local macro_rules | `(tactic| walk_at "subscriptTail Name Slice bytes ref") => `(tactic| (k_here; (try dsimp only); (with_unfolding_all refine' ap_slice ?l ?F ?N ?_ ?hs ?ht; (case l => rfl); (case F => k_asm); (case N => k_asm); (case hs => with_unfolding_all rfl); (case ht => intro _; with_unfolding_all rfl)); (intro h9 F9 N9); (try dsimp only at N9)))
local macro_rules | `(tactic| walk_at "up") => `(tactic| (repeat (first | assumption | refine Nat.le_succ_of_le ?_ | refine Nat.le_add_right_of_le ?_)))
theorem int2ap_call {i : Int} {t : Tok} (hi : i.natAbs < 4096) (B : Below A₀ base outer h₀) (F : Fr h₀ L s.heap m) (X : (Mine.hd.heap_1 w.params).In h₀) (N : News h₀ L s.heap news) (T : Top PV LO mean mg mb h₀)
   (hd : dp + 3 < recursionLimit) (hu : un + 24 < cLine)
   (hQ : ∀ h' (tk' tv : Nat), Fr h₀ L h' m → News h₀ L h' news → s.toks ≤ tv → tv < tk' → Q (.bytes (wordOf i.natAbs).toArray tv) { s with heap := h', toks := tk' }) :
   wpAny (model Challenge.rw_ij0174_01.row.prog w) (AT dp un gd cn nm ig ic mo L a ccd outer) (call (.ref 319) [.int i t]) Q E s := by
  revert X
  k_fill
  intro X
  refine wpAny_toks (wpAny_call ?_)
  k_dflt k_enter
  refine let_ar ?_; intro ar9
  refine tok_gen (n := s.toks) True.intro (by first | assumption | omega | (dsimp only; omega) | (simp only [List.length_cons, List.length_nil]; omega)) ?_
  intro tk0 htk0
  k_steps
  show wpAny _ _ _ _ _ _
  refine while_own (I2 _ _ news s i.natAbs) (n := 3) ⟨_, _, _, 0, _, _, _, rfl, ?o1, (by assumption), (by assumption), Nat.zero_le _, rfl, (by simp only [Nat.pow_zero, Nat.div_one]; with_unfolding_all rfl), (by with_unfolding_all rfl), ?o2, ?o3, (by with_unfolding_all rfl)⟩ ?turn
  case o1 => dsimp only at *; ((try dsimp only); first | assumption | exact om1 ‹_› ‹_› rfl | exact om1 rfl ‹_› rfl | exact om3 ‹_› ‹_› rfl | exact om3 rfl ‹_› rfl | exact om2 ‹_› ‹_› rfl | exact om2 rfl ‹_› rfl | exact om14 ‹_› rfl | exact om15 ‹_› | exact om16 ‹_› ‹_› | exact om17 ‹_› ‹_› rfl | exact om9 ‹_› ‹_› | exact om24 ‹_› ‹_› | ((try refine And.intro ?_ ?_); (all_goals ((try show _ + 1 ≤ _); (iterate 20 (try first | exact Nat.le_refl _ | exact Nat.zero_le _ | assumption | refine om20 (by k_asm) ?_ | refine om21 (by k_asm) ?_ | (with_reducible show _ + 1 ≤ _ + 1; refine Nat.succ_le_succ ?_) | (with_reducible show _ ≤ _ + _; refine Nat.le_succ_of_le ?_) | refine om20 (om13 (by k_asm)) ?_ | refine om21 (om13 (by k_asm)) ?_ | refine om20 (A1 (by k_asm)) ?_ | refine om21 (A1 (by k_asm)) ?_)); done))) | omega)
  case o2 => dsimp only at *; ((try dsimp only); first | assumption | exact om1 ‹_› ‹_› rfl | exact om1 rfl ‹_› rfl | exact om3 ‹_› ‹_› rfl | exact om3 rfl ‹_› rfl | exact om2 ‹_› ‹_› rfl | exact om2 rfl ‹_› rfl | exact om14 ‹_› rfl | exact om15 ‹_› | exact om16 ‹_› ‹_› | exact om17 ‹_› ‹_› rfl | exact om9 ‹_› ‹_› | exact om24 ‹_› ‹_› | ((try refine And.intro ?_ ?_); (all_goals ((try show _ + 1 ≤ _); (iterate 20 (try first | exact Nat.le_refl _ | exact Nat.zero_le _ | assumption | refine om20 (by k_asm) ?_ | refine om21 (by k_asm) ?_ | (with_reducible show _ + 1 ≤ _ + 1; refine Nat.succ_le_succ ?_) | (with_reducible show _ ≤ _ + _; refine Nat.le_succ_of_le ?_) | refine om20 (om13 (by k_asm)) ?_ | refine om21 (om13 (by k_asm)) ?_ | refine om20 (A1 (by k_asm)) ?_ | refine om21 (A1 (by k_asm)) ?_)); done))) | omega)
  case o3 => dsimp only at *; ((try dsimp only); first | assumption | exact om1 ‹_› ‹_› rfl | exact om1 rfl ‹_› rfl | exact om3 ‹_› ‹_› rfl | exact om3 rfl ‹_› rfl | exact om2 ‹_› ‹_› rfl | exact om2 rfl ‹_› rfl | exact om14 ‹_› rfl | exact om15 ‹_› | exact om16 ‹_› ‹_› | exact om17 ‹_› ‹_› rfl | exact om9 ‹_› ‹_› | exact om24 ‹_› ‹_› | ((try refine And.intro ?_ ?_); (all_goals ((try show _ + 1 ≤ _); (iterate 20 (try first | exact Nat.le_refl _ | exact Nat.zero_le _ | assumption | refine om20 (by k_asm) ?_ | refine om21 (by k_asm) ?_ | (with_reducible show _ + 1 ≤ _ + 1; refine Nat.succ_le_succ ?_) | (with_reducible show _ ≤ _ + _; refine Nat.le_succ_of_le ?_) | refine om20 (om13 (by k_asm)) ?_ | refine om21 (om13 (by k_asm)) ?_ | refine om20 (A1 (by k_asm)) ?_ | refine om21 (A1 (by k_asm)) ?_)); done))) | omega)
  rintro k s' ⟨h, tk, mm, j, tn, tv, ta, rfl, htk, F2, N2, hj, rfl, hn, hv, t1, t2, hAP⟩
  have hp := plc_le i.natAbs
  k_steps
  · 
    have h1 : i.natAbs / 16 ^ j ≠ 0 := fun e => (show (((i.natAbs / 16 ^ j : Nat) : Int)) ≠ 0 by assumption) (congrArg Int.ofNat e)
    have h2 : j < plc i.natAbs := Nat.lt_of_not_le fun e => h1 ((plc_lt hi).mpr e)
    refine ⟨3 - (j + 1), om5 (Nat.lt_of_lt_of_le h2 hp), I2.intro ?o1 (by assumption) (news_drop (by assumption) fun _ hq => .tail _ hq) h2 (by with_unfolding_all rfl) (by with_unfolding_all rfl) (by with_unfolding_all exact hAP) ?o2 ?o3 ?o4 ?o5⟩
    case o1 => dsimp only at *; ((try dsimp only); first | assumption | exact om1 ‹_› ‹_› rfl | exact om1 rfl ‹_› rfl | exact om3 ‹_› ‹_› rfl | exact om3 rfl ‹_› rfl | exact om2 ‹_› ‹_› rfl | exact om2 rfl ‹_› rfl | exact om14 ‹_› rfl | exact om15 ‹_› | exact om16 ‹_› ‹_› | exact om17 ‹_› ‹_› rfl | exact om9 ‹_› ‹_› | exact om24 ‹_› ‹_› | ((try refine And.intro ?_ ?_); (all_goals ((try show _ + 1 ≤ _); (iterate 20 (try first | exact Nat.le_refl _ | exact Nat.zero_le _ | assumption | refine om20 (by k_asm) ?_ | refine om21 (by k_asm) ?_ | (with_reducible show _ + 1 ≤ _ + 1; refine Nat.succ_le_succ ?_) | (with_reducible show _ ≤ _ + _; refine Nat.le_succ_of_le ?_) | refine om20 (om13 (by k_asm)) ?_ | refine om21 (om13 (by k_asm)) ?_ | refine om20 (A1 (by k_asm)) ?_ | refine om21 (A1 (by k_asm)) ?_)); done))) | omega)
    case o2 => dsimp only at *; exact om34 (by assumption) (by assumption) (by walk_at "up") (by walk_at "up")
    case o3 => dsimp only at *; exact om35 (by assumption) (by walk_at "up") (by assumption)
    case o4 => rw [Nat.pow_succ, ← Nat.div_div_eq_div_mul, Int.fdiv_eq_ediv_of_nonneg _ (by decide)]; (first | assumption | exact omE ‹_› ‹_› | exact omN ‹_› ‹_› | exact om6 ‹_› | exact om7 ‹_› | exact om9 ‹_› ‹_› | exact om11 ‹_› rfl | exact om24 ‹_› ‹_› | exact rm2 ‹_› rfl | exact rm1 ‹_› rfl | exact Nat.le_trans ‹_› ‹_› | exact Nat.lt_of_lt_of_le ‹_› ‹_› | exact Nat.lt_of_le_of_lt ‹_› ‹_› | omega)
    case o5 => rw [lets_succ]; simp
  ·
    have h1 : i.natAbs / 16 ^ j = 0 := Int.ofNat.inj (show (((i.natAbs / 16 ^ j : Nat) : Int)) = 0 by assumption)
    have h2 : j = plc i.natAbs := Nat.le_antisymm hj ((plc_lt hi).mp h1)
    have := hQ h tk tv (by assumption) (by assumption) t1 t2
    unfold wordOf at this
    rw [← h2] at this
    exact this
end
end Mine
end
-- WPlc
section
namespace Mine
theorem rstWPlc : True := by (w_top off); trivial
section
variable {w : World} {mean : ExcName → Option Value} {mg mb : Str → Option Value}
   {dp un : Nat} {gd : Option (List Code)} {cn : Str} {nm : List (Str × NameKind)} {ig ic : Bool} {mo : List (Str × Const)} {a : Addr} {ccd : Value} {outer : List Env} {A₀ : Around} {base h₀ : Heap} {L : Addr} {m : Str → Option Value} {s : Shared} {Q E : Value → Shared → Prop} {news : List (Addr × Obj)}
noncomputable def I3 (h₀ : Heap) (L : Addr) (news : List (Addr × Obj)) (s : Shared) (n : Nat) (k : Nat) (s' : Shared) : Prop :=
  ∃ (h : Heap) (tk : Nat) (mm : Str → Option Value) (j tn ts : Nat), s' = { s with heap := h, toks := tk } ∧ s.toks ≤ tk ∧ Fr h₀ L h mm ∧ News h₀ L h news ∧ j ≤ plc n ∧ k = 3 - j ∧ mm (Str.ofString "places") = some (.int ((j : Nat) : Int) tn) ∧ mm (Str.ofString "size") = some (.int ((n : Nat) : Int) ts)
theorem I3.intro {h₀ h : Heap} {L : Addr} {news : List (Addr × Obj)} {s : Shared} {n j tk tn ts : Nat} {mm : Str → Option Value} {z : Int} (htk : s.toks ≤ tk) (F : Fr h₀ L h mm) (N : News h₀ L h news) (hj : j ≤ plc n) (hn : mm (Str.ofString "places") = some (.int z tn)) (hv : mm (Str.ofString "size") = some (.int ((n : Nat) : Int) ts))
    (hz : z = ((j : Nat) : Int)) : I3 h₀ L news s n (3 - j) { s with heap := h, toks := tk } :=
  ⟨h, tk, mm, j, tn, ts, rfl, htk, F, N, hj, rfl, by rw [hn, hz], hv⟩
theorem plc_pow {n j : Nat} (h : n < 4096) : 16 ^ j ≤ n ↔ j < plc n :=
  Nat.not_lt.symm.trans ((not_congr ((Nat.div_eq_zero_iff_lt (Nat.pow_pos (by decide))).symm.trans (plc_lt h))).trans Nat.not_le)
theorem pw_yes {n j : Nat} (hi : n < 4096) (_hj : j ≤ plc n) (q : (16 : Int) ^ (((j : Nat) : Int)).toNat ≤ ((n : Nat) : Int)) : j < plc n := by
  simp only [Int.toNat_natCast] at q
  exact (plc_pow hi).mp (by exact_mod_cast q)
theorem pw_no {n j : Nat} (hi : n < 4096) (hj : j ≤ plc n) (q : ¬ (16 : Int) ^ (((j : Nat) : Int)).toNat ≤ ((n : Nat) : Int)) : plc n = j := by
  simp only [Int.toNat_natCast] at q
  have := mt (plc_pow (j := j) hi).mpr (fun z => q (by exact_mod_cast z))
  exact Nat.le_antisymm (Nat.le_of_not_lt this) hj
theorem I3.next {h₀ : Heap} {L : Addr} {news : List (Addr × Obj)} {s s' : Shared} {n j : Nat} (hj : j < 3) (h : I3 h₀ L news s n (3 - (j + 1)) s') : WBack (I3 h₀ L news s n) (3 - j) s' := ⟨_, om5 hj, h⟩
theorem places_call {n : Nat} {t : Tok} (hi : n < 4096) (B : Below A₀ base outer h₀) (F : Fr h₀ L s.heap m) (X : (Mine.hd.heap_1 w.params).In h₀) (N : News h₀ L s.heap news) (T : Top PV LO mean mg mb h₀)
   (hd : dp + 3 < recursionLimit) (hu : un + 24 < cLine)
   (hQ : ∀ h' (tk' tv : Nat), Fr h₀ L h' m → News h₀ L h' news → s.toks ≤ tk' → Q (.int ((plc n : Nat) : Int) tv) { s with heap := h', toks := tk' }) :
   wpAny (model Challenge.rw_ij0174_01.row.prog w) (AT dp un gd cn nm ig ic mo L a ccd outer) (call (.ref 326) [.int ((n : Nat) : Int) t]) Q E s := by
  revert X
  k_fill
  intro X
  refine wpAny_toks (wpAny_call ?_)
  k_dflt k_enter
  refine let_ar ?_; intro ar9
  refine tok_gen (n := s.toks) True.intro (by first | assumption | omega | (dsimp only; omega) | (simp only [List.length_cons, List.length_nil]; omega)) ?_
  intro tk0 htk0
  k_steps
  show wpAny _ _ _ _ _ _
  refine while_own (I3 _ _ news s n) (n := 3) (I3.intro (j := 0) ?o1 (by assumption) (by assumption) (Nat.zero_le _) (by with_unfolding_all rfl) (by with_unfolding_all rfl) (by rfl)) ?turn
  case o1 => dsimp only at *; (first | assumption | exact omE ‹_› ‹_› | exact omN ‹_› ‹_› | exact om6 ‹_› | exact om7 ‹_› | exact om9 ‹_› ‹_› | exact om11 ‹_› rfl | exact om24 ‹_› ‹_› | exact rm2 ‹_› rfl | exact rm1 ‹_› rfl | exact Nat.le_trans ‹_› ‹_› | exact Nat.lt_of_lt_of_le ‹_› ‹_› | exact Nat.lt_of_le_of_lt ‹_› ‹_› | omega)
  rintro k s' ⟨h, tk, mm, j, tn, ts, rfl, htk, F2, N2, hj, rfl, hn, hv⟩
  have hp := plc_le n
  have hj3 : j ≤ 3 := Nat.le_trans hj hp
  have hk9 : ((j : Nat) : Int) ≤ 3 := Int.ofNat_le.mpr hj3
  k_steps
  · have h2 := pw_yes hi hj (by assumption)
    exact I3.next (Nat.lt_of_lt_of_le h2 hp) (I3.intro (by dsimp only at *; (first | assumption | exact omE ‹_› ‹_› | exact omN ‹_› ‹_› | exact om6 ‹_› | exact om7 ‹_› | exact om9 ‹_› ‹_› | exact om11 ‹_› rfl | exact om24 ‹_› ‹_› | exact rm2 ‹_› rfl | exact rm1 ‹_› rfl | exact Nat.le_trans ‹_› ‹_› | exact Nat.lt_of_lt_of_le ‹_› ‹_› | exact Nat.lt_of_le_of_lt ‹_› ‹_› | omega)) (by assumption) (by assumption) h2 (by with_unfolding_all rfl) (by with_unfolding_all exact hv) (by (first | assumption | exact omE ‹_› ‹_› | exact omN ‹_› ‹_› | exact om6 ‹_› | exact om7 ‹_› | exact om9 ‹_› ‹_› | exact om11 ‹_› rfl | exact om24 ‹_› ‹_› | exact rm2 ‹_› rfl | exact rm1 ‹_› rfl | exact Nat.le_trans ‹_› ‹_› | exact Nat.lt_of_lt_of_le ‹_› ‹_› | exact Nat.lt_of_le_of_lt ‹_› ‹_› | omega)))
  · have h3 := pw_no hi hj (by first | assumption | exact Int.not_le.mpr (by assumption))
    rw [h3] at hQ
    exact hQ _ _ _ (by assumption) (by assumption) (by first | assumption | omega | (dsimp only; omega) | (simp only [List.length_cons, List.length_nil]; omega))
end
end Mine
end
end
section
local macro_rules | `(tactic| walk_at "eval ListComp") => `(tactic| (k_here; k_dflt (refine listcomp_K (F₀ := by k_asm) (by first | rfl | with_unfolding_all rfl) (by decide) (by rfl) (by decide) ?_)))
local macro_rules | `(tactic| walk_at "exec Assign cons ListComp") => `(tactic| (k_here; k_dflt (refine assign_listcomp_K (F₀ := by k_asm) (by rfl) (by with_unfolding_all rfl) (by first | rfl | with_unfolding_all rfl) (by decide) (by rfl) (by decide) (by rfl) (by rfl) ?_)))
local macro_rules | `(tactic| walk_at "pyIter ref") => `(tactic| (k_here; refine stop_here ?_))
local macro_rules | `(tactic| walk_at "call ref") => `(tactic| (k_here; refine stop_here ?_))
-- WLet
section
namespace Mine
theorem rstWLet : True := by (w_top off); trivial
section
variable {w : World} {mean : ExcName → Option Value} {mg mb : Str → Option Value}
   {dp un : Nat} {gd : Option (List Code)} {cn : Str} {nm : List (Str × NameKind)} {ig ic : Bool} {mo : List (Str × Const)} {a : Addr} {ccd : Value} {outer : List Env} {A₀ : Around} {base h₀ : Heap} {L : Addr} {m : Str → Option Value} {s : Shared} {Q E : Value → Shared → Prop} {news : List (Addr × Obj)}
noncomputable def letNs (p n j : Nat) : List Int := (List.range j).map fun i => ((65 + n / 16 ^ (p - 1 - i) % 16 : Nat) : Int)
noncomputable def LetJ (NW : List (Addr × Obj)) (p n : Nat) (j : Nat) (ys : List Value) (nw : List (Addr × Obj)) (_tk : Nat) : Prop := nw = NW ∧ j ≤ p ∧ ys.length = j ∧ IntsAre ys (letNs p n j)
theorem letNs_snoc (p n j : Nat) {y : Int} {ys : List Value} {t : Tok} (h : IntsAre ys (letNs p n j)) (hy : y = ((65 + n / 16 ^ (p - 1 - j) % 16 : Nat) : Int)) : IntsAre (ys ++ [.int y t]) (letNs p n (j + 1)) := by
  have e : letNs p n (j + 1) = letNs p n j ++ [y] := by simp [letNs, List.range_succ, hy]
  rw [e]
  exact IntsAre.append h (.cons _ _ .nil)
theorem let_bytes {p : Nat} (n : Nat) (hp : p ≤ 3) : byteArr (letNs p n p) = (lets p n).toArray := by
  have g : ∀ e, (((65 + n / 16 ^ e % 16 : Nat) : Int).toNat.toUInt8) = UInt8.ofNat (65 + n / 16 ^ e % 16) := fun e => by rw [Int.toNat_natCast]
  have hc : p = 0 ∨ p = 1 ∨ p = 2 ∨ p = 3 := om8 (by assumption)
  unfold byteArr letNs lets
  rw [List.map_map]
  congr 1
  rcases hc with rfl | rfl | rfl | rfl
  all_goals simp only [List.range_succ, List.range_zero, List.nil_append, List.map_append, List.map_cons, List.map_nil, List.reverse_append, List.reverse_cons, List.reverse_nil, List.cons_append, Function.comp_apply, g, Nat.reduceSub]
theorem letter_val {n e : Nat} {k x : Int} (hk : k.toNat = e) (hx : x = 65 + (((n : Nat) : Int).fdiv ((16 : Int) ^ k.toNat)).fmod 16) : x = ((65 + n / 16 ^ e % 16 : Nat) : Int) := by
  subst hk
  rw [hx, Int.fdiv_eq_ediv_of_nonneg _ (Int.pow_nonneg (by decide)), Int.fmod_eq_emod_of_nonneg _ (by decide)]
  push_cast
  try rfl
theorem rgL_small {p : Nat} (hp : p ≤ 3) : Builtin.Range.small (((p : Nat) : Int) - 1) (-1) (-1) = true := by
  have hc : p = 0 ∨ p = 1 ∨ p = 2 ∨ p = 3 := om8 (by assumption)
  rcases hc with rfl | rfl | rfl | rfl <;> decide
theorem rgL_size {p : Nat} (hp : p ≤ 3) : Builtin.Range.rangeSize (((p : Nat) : Int) - 1) (-1) (-1) = ((p : Nat) : Int) := by
  have hc : p = 0 ∨ p = 1 ∨ p = 2 ∨ p = 3 := om8 (by assumption)
  rcases hc with rfl | rfl | rfl | rfl <;> decide
theorem p16_small {k : Int} (h : k ≤ 2) : ((16 : Int) ^ k.toNat).natAbs.log2 < 9000 := by
  exact (show ∀ j : Fin 3, ((16 : Int) ^ j.val).natAbs.log2 < 9000 by decide +kernel) ⟨k.toNat, Nat.lt_succ_of_le (Int.toNat_le.mpr h)⟩
theorem lt8s : ∀ p : Fin 4, ∀ j : Fin 4, j.val < p.val → (((p.val : Nat) : Int) - 1 + ((j.val : Nat) : Int) * -1).toNat = p.val - 1 - j.val := by decide +kernel
theorem lt8 {p j : Nat} (hp : p ≤ 3) (h : j < p) : (((p : Nat) : Int) - 1 + ((j : Nat) : Int) * -1).toNat = p - 1 - j := lt8s ⟨p, Nat.lt_succ_of_le hp⟩ ⟨j, Nat.lt_of_lt_of_le h (Nat.le_succ_of_le hp)⟩ h
theorem letters_call {n p : Nat} {t t2 : Tok} (hi : n < 4096) (hp : p ≤ 3) (B : Below A₀ base outer h₀) (F : Fr h₀ L s.heap m) (X : (Mine.hd.heap_1 w.params).In h₀) (N : News h₀ L s.heap news) (T : Top PV LO mean mg mb h₀)
   (hd : dp + 3 < recursionLimit) (hu : un + 24 < cLine)
   (hQ : ∀ h' (tk' tv : Nat), Fr h₀ L h' m → News h₀ L h' news → s.toks ≤ tk' → Q (.bytes (lets p n).toArray tv) { s with heap := h', toks := tk' }) :
   wpAny (model Challenge.rw_ij0174_01.row.prog w) (AT dp un gd cn nm ig ic mo L a ccd outer) (call (.ref 331) [.int ((n : Nat) : Int) t, .int ((p : Nat) : Int) t2]) Q E s := by
  revert X
  k_fill
  intro X
  refine wpAny_toks (wpAny_call ?_)
  k_dflt k_enter
  refine let_ar ?_; intro ar9
  k_steps
  show wpAny _ _ _ _ _ _
  refine pyIter_rg (by assumption) (by assumption) (by assumption) (rgL_small hp) ?_
  intro I h1 F1 N1 off1
  refine compIn_range (n := p) (LetJ _ p n) rfl (Nat.lt_of_le_of_lt hp (by decide)) (rgL_size hp) (fun j ys nw tk hj => ⟨Nat.le_of_eq hj.2.2.1, hj.2.1⟩) F1 N1 off1 ⟨rfl, Nat.zero_le _, rfl, .nil⟩ ?turn ?fin
  case turn =>
    rintro C D j ys nw h tk oC m₁ E' ⟨rfl, hj2, hyl, hIA⟩ hj F2 hoC N2 off2 offI hCD hCL hDL hCI hDI
    refine bind_name (by rfl) rfl hoC N2 (off_of hCD hCI off2) F2 ?_
    intro h3 oC3 m3 F3 hoC3 hm3 N3
    refine no_test rfl ?_
    have hk0 : (0 : Int) ≤ ((p : Nat) : Int) - 1 + ((j : Nat) : Int) * -1 := by (first | assumption | exact omE ‹_› ‹_› | exact omN ‹_› ‹_› | exact om6 ‹_› | exact om7 ‹_› | exact om9 ‹_› ‹_› | exact om11 ‹_› rfl | exact om24 ‹_› ‹_› | exact rm2 ‹_› rfl | exact rm1 ‹_› rfl | exact Nat.le_trans ‹_› ‹_› | exact Nat.lt_of_lt_of_le ‹_› ‹_› | exact Nat.lt_of_le_of_lt ‹_› ‹_› | omega)
    have hk9 : ((p : Nat) : Int) - 1 + ((j : Nat) : Int) * -1 ≤ 2 := by (first | assumption | exact omE ‹_› ‹_› | exact omN ‹_› ‹_› | exact om6 ‹_› | exact om7 ‹_› | exact om9 ‹_› ‹_› | exact om11 ‹_› rfl | exact om24 ‹_› ‹_› | exact rm2 ‹_› rfl | exact rm1 ‹_› rfl | exact Nat.le_trans ‹_› ‹_› | exact Nat.lt_of_lt_of_le ‹_› ‹_› | exact Nat.lt_of_le_of_lt ‹_› ‹_› | omega)
    have hk1 : (16 : Int) ^ (((p : Nat) : Int) - 1 + ((j : Nat) : Int) * -1).toNat ≠ 0 := Int.pow_ne_zero (by decide)
    k_steps
    show wpAny _ _ _ _ _ _
    refine floordiv_int hk1 ?_ (Or.inl (PyProof.noPylong_of_log2 (p16_small hk9)))
    k_steps
    exact CBack.fin F3 hoC3 N3 (fun q hq => hq) off2 hCI hDI ⟨_, rfl, offI, rfl, by (first | assumption | exact omE ‹_› ‹_› | exact omN ‹_› ‹_› | exact om6 ‹_› | exact om7 ‹_› | exact om9 ‹_› ‹_› | exact om11 ‹_› rfl | exact om24 ‹_› ‹_› | exact rm2 ‹_› rfl | exact rm1 ‹_› rfl | exact Nat.le_trans ‹_› ‹_› | exact Nat.lt_of_lt_of_le ‹_› ‹_› | exact Nat.lt_of_le_of_lt ‹_› ‹_› | omega), by simp [hyl], letNs_snoc _ _ _ hIA (letter_val (lt8 hp (by assumption)) rfl)⟩
  case fin =>
    rintro ys nw tk ⟨rfl, _, hyl, hIA⟩
    intro D h F3 N3 offD
    k_steps
    rw [let_bytes n hp]
    exact hQ _ _ _ (by assumption) (news_drop (by assumption) fun _ hq => .tail _ (.tail _ hq)) (by assumption)
end
end Mine
end
-- WBes
section
namespace Mine
theorem rstWBes : True := by (w_top off); trivial
section
variable {w : World} {mean : ExcName → Option Value} {mg mb : Str → Option Value}
   {dp un : Nat} {gd : Option (List Code)} {cn : Str} {nm : List (Str × NameKind)} {ig ic : Bool} {mo : List (Str × Const)} {a : Addr} {ccd : Value} {outer : List Env} {A₀ : Around} {base h₀ : Heap} {L : Addr} {m : Str → Option Value} {s : Shared} {Q E : Value → Shared → Prop} {news : List (Addr × Obj)}
noncomputable def Cmp (w : World) (news : List (Addr × Obj)) (op : CmpOp) (x v : Value) (b : Bool) : Prop := ∀ (A : Around) (s' : Shared) (Q' : Value → Shared → Prop) (E' : Value → Shared → Prop), A.units < cLine → (∀ q ∈ news, s'.heap.get? q.1 = some q.2) → Q' (.bool b) s' → wpAny (model Challenge.rw_ij0174_01.row.prog w) A (compareOp op x v) Q' E' s'
noncomputable def cnt (f : Nat → Bool) (n : Nat) : Nat := ((List.range n).filter f).length
theorem cnt_succ (f : Nat → Bool) (n : Nat) : cnt f (n + 1) = cnt f n + if f n then 1 else 0 := by
  unfold cnt
  rw [List.range_succ, List.filter_append, List.length_append]
  cases h : f n <;> simp [h]
theorem cnt_le (f : Nat → Bool) (n : Nat) : cnt f n ≤ n := by
  unfold cnt
  exact Nat.le_trans (List.length_filter_le _ _) (by simp)
noncomputable def BesJ (NW : List (Addr × Obj)) (n : Nat) (f : Nat → Bool) (j : Nat) (ys : List Value) (nw : List (Addr × Obj)) (_tk : Nat) : Prop := nw = NW ∧ j ≤ n ∧ ys.length = cnt f j
local macro_rules | `(tactic| walk_at "compareOp Lt") => `(tactic| (k_here; refine stop_here ?_))
local macro_rules | `(tactic| walk_at "compareOp Gt") => `(tactic| (k_here; refine stop_here ?_))
theorem len_lst {prog : Program} {A : Around} {D : Addr} {ys : List Value} {k : Nat} (N : News h₀ L s.heap news) (hm : (D, LCg.lst ys) ∈ news) (hk : ys.length = k) (h64 : k < 64) (h : Q (.int ((k : Nat) : Int) (s.toks + 1)) { s with toks := s.toks + 1 + 1 }) :
    wpAny (model prog w) A (call (.builtin "len") [.ref D]) Q E s := KM.len_K N hm (by simpa using hk) (by (first | assumption | exact omE ‹_› ‹_› | exact omN ‹_› ‹_› | exact om6 ‹_› | exact om7 ‹_› | exact om9 ‹_› ‹_› | exact om11 ‹_› rfl | exact om24 ‹_› ‹_› | exact rm2 ‹_› rfl | exact rm1 ‹_› rfl | exact Nat.le_trans ‹_› ‹_› | exact Nat.lt_of_lt_of_le ‹_› ‹_› | exact Nat.lt_of_le_of_lt ‹_› ‹_› | omega)) h
local macro_rules | `(tactic| walk_at "call builtin:len") => `(tactic| (k_here; (with_unfolding_all refine' len_lst ?N ?hm ?hk ?h6 ?_; (case N => k_asm); (case hm => k_mem); (case hk => assumption); (case h6 => exact Nat.lt_of_le_of_lt (cnt_le _ _) (by assumption)))))
theorem cmp_use {news' : List (Addr × Obj)} {op : CmpOp} {x v : Value} {b : Bool} {A : Around} {h₀' : Heap} {L' : Addr} {s' : Shared} (hc : Cmp w news op x v b) (hu : A.units < cLine) (N : News h₀' L' s'.heap news') (sub : ∀ q ∈ news, q ∈ news') (h : Q (.bool b) s') : wpAny (model Challenge.rw_ij0174_01.row.prog w) A (compareOp op x v) Q E s' :=
  hc A s' Q E hu (fun q hq => (N q (sub q hq)).1) h
theorem drop_h3 {h : Heap} {x a1 a2 a3 : Addr × Obj} {r : List (Addr × Obj)} (N : News h₀ L h (x :: a1 :: a2 :: a3 :: r)) : News h₀ L h (x :: r) := fun q hq => by
  rcases List.mem_cons.mp hq with rfl | hq
  · exact N _ (.head _)
  · exact N _ (.tail _ (.tail _ (.tail _ (.tail _ hq))))
theorem beside_call {cls : List (Str × Addr)} {D : Addr} {c : Nat} {ws : List Value} {v : Value} {lt gt : Nat → Bool} (hn : ws.length < 64) (mD : (D, listOf ws.toArray c) ∈ news)
   (hlt : ∀ j x, ws[j]? = some x → Cmp w news .Lt x v (lt j)) (hgt : ∀ j x, ws[j]? = some x → Cmp w news .Gt x v (gt j))
   (B : Below A₀ base outer h₀) (F : Fr h₀ L s.heap m) (X : (Mine.hd.heap_1 w.params).In h₀) (N : News h₀ L s.heap news) (T : Top PV LO mean mg mb h₀)
   (hd : dp + 3 < recursionLimit) (hu : un + 24 < cLine)
   (hQ : ∀ T h' (tk' t1 t2 : Nat), Fr h₀ L h' m → News h₀ L h' ((T, tupO [.int ((cnt lt ws.length : Nat) : Int) t1, .int ((cnt gt ws.length : Nat) : Int) t2]) :: news) → (∀ q ∈ news, @LT.lt Nat _ q.1 T) → s.toks ≤ tk' → Q (.ref T) { s with heap := h', toks := tk' }) :
   wpAny (model Challenge.rw_ij0174_01.row.prog w) (ATC dp un gd cn nm ig ic mo L a ccd cls outer) (call (.ref 336) [.ref D, v]) Q E s := by
  revert X
  k_fill
  intro X
  refine wpAny_toks (wpAny_call ?_)
  k_dflt k_enter
  refine let_ar ?_; intro ar9
  k_steps
  show wpAny _ _ _ _ _ _
  refine pyIter_N (by assumption) (by assumption) (by k_mem) ?_
  intro I h1 F1 N1 l1
  refine compIn_listF (BesJ _ ws.length lt) (fun _ _ _ _ h => h) rfl hn (fun j ys tk hj => ⟨hj.2 ▸ cnt_le _ _, hj.1⟩) (by k_mem) F1 N1 (fun q hq => Nat.ne_of_lt (l1 q hq)) ⟨rfl, Nat.zero_le _, rfl⟩ ?turn ?fin
  case turn =>
    intro C D' j ys h tk oC m₁ x E' hJ hx F2 hoC N2 off2 offI hCD hCL hDL hCI hDI
    have hjn := hJ.1; have hyl := hJ.2; clear hJ
    refine bind_name (by rfl) rfl hoC N2 (off_of hCD hCI off2) F2 ?_
    intro h3 oC3 m3 F3 hoC3 hm3 N3
    refine one_test ?_
    k_steps
    show wpAny _ _ _ _ _ _
    refine cmp_use (hlt j x hx) (by units_room) N3 (fun q hq => by repeat (first | exact hq | refine List.mem_cons_of_mem _ ?_)) ?_
    cases hb : lt j
    · k_steps
      exact CBack.fin F3 hoC3 N3 (fun q hq => hq) off2 hCI hDI ⟨_, rfl, offI, rfl, (by have := (List.getElem?_eq_some_iff.mp hx).1; (first | assumption | exact omE ‹_› ‹_› | exact omN ‹_› ‹_› | exact om6 ‹_› | exact om7 ‹_› | exact om9 ‹_› ‹_› | exact om11 ‹_› rfl | exact om24 ‹_› ‹_› | exact rm2 ‹_› rfl | exact rm1 ‹_› rfl | exact Nat.le_trans ‹_› ‹_› | exact Nat.lt_of_lt_of_le ‹_› ‹_› | exact Nat.lt_of_le_of_lt ‹_› ‹_› | omega)), by rw [cnt_succ, hb]; simpa using hyl⟩
    · k_steps
      exact CBack.fin F3 hoC3 N3 (fun q hq => hq) off2 hCI hDI ⟨_, rfl, offI, rfl, (by have := (List.getElem?_eq_some_iff.mp hx).1; (first | assumption | exact omE ‹_› ‹_› | exact omN ‹_› ‹_› | exact om6 ‹_› | exact om7 ‹_› | exact om9 ‹_› ‹_› | exact om11 ‹_› rfl | exact om24 ‹_› ‹_› | exact rm2 ‹_› rfl | exact rm1 ‹_› rfl | exact Nat.le_trans ‹_› ‹_› | exact Nat.lt_of_lt_of_le ‹_› ‹_› | exact Nat.lt_of_le_of_lt ‹_› ‹_› | omega)), by rw [cnt_succ, hb]; simpa using hyl⟩
  case fin =>
    intro ys tk hJ
    have hjn := hJ.1; have hyl := hJ.2; clear hJ
    intro D' h F3 N3 offD
    k_steps
    show wpAny _ _ _ _ _ _
    refine pyIter_N (by assumption) (by assumption) (by k_mem) ?_
    intro I h1 F1 N1 l1
    refine compIn_listF (BesJ _ ws.length gt) (fun _ _ _ _ h => h) rfl hn (fun j ys tk hj => ⟨hj.2 ▸ cnt_le _ _, hj.1⟩) (by k_mem) F1 N1 (fun q hq => Nat.ne_of_lt (l1 q hq)) ⟨rfl, Nat.zero_le _, rfl⟩ ?turn ?fin
    case turn =>
      intro C D' j ys h tk oC m₁ x E' hJ hx F2 hoC N2 off2 offI hCD hCL hDL hCI hDI
      have hjn := hJ.1; have hyl := hJ.2; clear hJ
      refine bind_name (by rfl) rfl hoC N2 (off_of hCD hCI off2) F2 ?_
      intro h3 oC3 m3 F3 hoC3 hm3 N3
      refine one_test ?_
      k_steps
      show wpAny _ _ _ _ _ _
      refine cmp_use (hgt j x hx) (by units_room) N3 (fun q hq => by repeat (first | exact hq | refine List.mem_cons_of_mem _ ?_)) ?_
      cases hb : gt j
      · k_steps
        exact CBack.fin F3 hoC3 N3 (fun q hq => hq) off2 hCI hDI ⟨_, rfl, offI, rfl, (by have := (List.getElem?_eq_some_iff.mp hx).1; (first | assumption | exact omE ‹_› ‹_› | exact omN ‹_› ‹_› | exact om6 ‹_› | exact om7 ‹_› | exact om9 ‹_› ‹_› | exact om11 ‹_› rfl | exact om24 ‹_› ‹_› | exact rm2 ‹_› rfl | exact rm1 ‹_› rfl | exact Nat.le_trans ‹_› ‹_› | exact Nat.lt_of_lt_of_le ‹_› ‹_› | exact Nat.lt_of_le_of_lt ‹_› ‹_› | omega)), by rw [cnt_succ, hb]; simpa using hyl⟩
      · k_steps
        exact CBack.fin F3 hoC3 N3 (fun q hq => hq) off2 hCI hDI ⟨_, rfl, offI, rfl, (by have := (List.getElem?_eq_some_iff.mp hx).1; (first | assumption | exact omE ‹_› ‹_› | exact omN ‹_› ‹_› | exact om6 ‹_› | exact om7 ‹_› | exact om9 ‹_› ‹_› | exact om11 ‹_› rfl | exact om24 ‹_› ‹_› | exact rm2 ‹_› rfl | exact rm1 ‹_› rfl | exact Nat.le_trans ‹_› ‹_› | exact Nat.lt_of_lt_of_le ‹_› ‹_› | exact Nat.lt_of_le_of_lt ‹_› ‹_› | omega)), by rw [cnt_succ, hb]; simpa using hyl⟩
    case fin =>
      intro ys tk hJ
      have hjn := hJ.1; have hyl := hJ.2; clear hJ
      intro D2 h F3 N3 offD
      k_steps
      exact hQ _ _ _ _ _ (by assumption) (drop_h3 (by assumption)) (fun q hq => lt_of_allLt (And.right (And.right (And.right ‹_ ∧ _ ∧ _ ∧ AllLt _ _›))) (Nat.le_refl _) q hq) (by assumption)
end
end Mine
end
-- WMar
section
namespace Mine
theorem rstWMar : True := by (w_top off); trivial
section
variable {w : World} {mean : ExcName → Option Value} {mg mb : Str → Option Value}
   {dp un : Nat} {gd : Option (List Code)} {cn : Str} {nm : List (Str × NameKind)} {ig ic : Bool} {mo : List (Str × Const)} {a : Addr} {ccd : Value} {outer : List Env} {A₀ : Around} {base h₀ : Heap} {L : Addr} {m : Str → Option Value} {s : Shared} {Q E : Value → Shared → Prop} {news : List (Addr × Obj)}
theorem Cmp.mono {news' : List (Addr × Obj)} {op : CmpOp} {x v : Value} {b : Bool} (h : Cmp w news op x v b) (sub : ∀ q ∈ news, q ∈ news') : Cmp w news' op x v b := fun A s' Q' E' hu k hq => h A s' Q' E' hu (fun q hq' => k q (sub q hq')) hq
noncomputable def MarJ (NW : List (Addr × Obj)) (n : Nat) (lt gt : Nat → Nat → Bool) (j : Nat) (ys : List Value) (nw : List (Addr × Obj)) (_tk : Nat) : Prop :=
  j ≤ n ∧ (∀ q ∈ NW, q ∈ nw) ∧ ∃ (T : Nat → Addr) (t1 t2 : Nat → Nat), ys = (List.range j).map (fun i => Value.ref (T i)) ∧ ∀ i, i < j → (T i, tupO [.int ((cnt (fun k => lt k i) n : Nat) : Int) (t1 i), .int ((cnt (fun k => gt k i) n : Nat) : Int) (t2 i)]) ∈ nw
theorem MarJ.next {NW nw : List (Addr × Obj)} {n j tk tk' : Nat} {lt gt : Nat → Nat → Bool} {ys : List Value} {T' : Addr} {a b : Nat} (hj : j < n) (h : MarJ NW n lt gt j ys nw tk) :
    MarJ NW n lt gt (j + 1) (ys ++ [.ref T']) ((T', tupO [.int ((cnt (fun k => lt k j) n : Nat) : Int) a, .int ((cnt (fun k => gt k j) n : Nat) : Int) b]) :: nw) tk' := by
  obtain ⟨_, h2, T, t1, t2, rfl, h4⟩ := h
  refine ⟨hj, fun q hq => .tail _ (h2 q hq), fun i => if i = j then T' else T i, fun i => if i = j then a else t1 i, fun i => if i = j then b else t2 i, ?_, fun i hi => ?_⟩
  · rw [List.range_succ, List.map_append]
    simp only [List.map_cons, List.map_nil, if_true]
    congr 1
    refine List.map_congr_left fun i hi => ?_
    have := List.mem_range.mp hi
    simp [show i ≠ j by (first | assumption | exact omE ‹_› ‹_› | exact omN ‹_› ‹_› | exact om6 ‹_› | exact om7 ‹_› | exact om9 ‹_› ‹_› | exact om11 ‹_› rfl | exact om24 ‹_› ‹_› | exact rm2 ‹_› rfl | exact rm1 ‹_› rfl | exact Nat.le_trans ‹_› ‹_› | exact Nat.lt_of_lt_of_le ‹_› ‹_› | exact Nat.lt_of_le_of_lt ‹_› ‹_› | omega)]
  · by_cases e : i = j
    · subst e
      simp only [if_true]
      exact .head _
    · simp only [if_neg e]
      exact .tail _ (h4 i (by (first | assumption | exact omE ‹_› ‹_› | exact omN ‹_› ‹_› | exact om6 ‹_› | exact om7 ‹_› | exact om9 ‹_› ‹_› | exact om11 ‹_› rfl | exact om24 ‹_› ‹_› | exact rm2 ‹_› rfl | exact rm1 ‹_› rfl | exact Nat.le_trans ‹_› ‹_› | exact Nat.lt_of_lt_of_le ‹_› ‹_› | exact Nat.lt_of_le_of_lt ‹_› ‹_› | omega)))
theorem bind_pair {prog : Program} {A : Around} {env : Env} {x y : Str} {px py pp : Pos} {k : Nat} {scope : Scope} {cl : List (Str × Addr)} {C I S T : Addr} {j : Nat} {v1 v2 : Value} {oC : Obj} {m₁ : Str → Option Value} {rest : List (Addr × Obj)} {h : Heap} {tk : Nat} {K : Shared → Prop} (hh : A.handled = none) (hx : scope.names.lookup x = some .local) (hy : scope.names.lookup y = some .local) (hxy : x ≠ y) (hkind : scope.kind = .function) (hoC : LCg.NsObj oC m₁)
    (N : News h₀ L h ((C, oC) :: rest)) (off : ∀ q ∈ rest, q.1 ≠ C) (F : Fr h₀ L h m) (mI : (I, liObj S j) ∈ rest) (mT : (T, tupO [v1, v2]) ∈ rest)
    (h1 : ∀ h' oC' m₂, Fr h₀ L h' m → LCg.NsObj oC' m₂ → m₂ x = some v1 → m₂ y = some v2 → News h₀ L h' ((C, oC') :: rest) → K { s with heap := h', toks := tk + 1 + 1 }) :
    wpAny (model prog w) A (letOwnedTupleGo (.Tuple [.Name x px, .Name y py] k pp) (.ref I) (.ref T)) (fun _ s₀ => wpAny (model prog w) A (assign (.Tuple [.Name x px, .Name y py] k pp) (compEnvC scope cl C env) (.ref T)) (fun _ s₂ => K s₂) E s₀) E { s with heap := h, toks := tk } := by
  unfold letOwnedTupleGo
  refine wpAny_bind (wpAny_load (N _ (.tail _ mI)).1 (wpAny_pure ?_))
  refine unpackN_ (items := #[v1, v2]) F N ⟨_, (N _ (.tail _ mT)).1, rfl, _, rfl⟩ hh (by rfl) (by rfl) fun h₂ F₂ N₂ => ?_
  refine assignInOrder_cons ?_
  have zC := N₂ _ (.head _)
  show wpAny _ _ (assign (.Name x px) _ v1) _ _ _
  refine wpAny_assign_Name (wpAny_storeName_local (lookup_relabel_local hx) (hoC.ns zC.1) (fun h₃ hn₃ hs₃ => ?_) (by simp [compEnvC, relabel, hkind]))
  obtain ⟨oC', heC, hoC'⟩ := LCg.ns_obj hn₃
  refine assignInOrder_cons ?_
  show wpAny _ _ (assign (.Name y py) _ v2) _ _ _
  refine wpAny_assign_Name (wpAny_storeName_local (lookup_relabel_local hy) (hoC'.ns heC) (fun h₄ hn₄ hs₄ => ?_) (by simp [compEnvC, relabel, hkind]))
  obtain ⟨oC'', heC', hoC''⟩ := LCg.ns_obj hn₄
  refine assignInOrder_nil (h1 h₄ oC'' _ ((F₂.change hs₃ zC.2.1 zC.2.2).change hs₄ zC.2.1 zC.2.2) hoC'' (by simp [hxy]) (by simp) (fa_cons ⟨heC', zC.2⟩ fun q hq => ⟨hs₄.extBut _ _ (off q hq) (hs₃.extBut _ _ (off q hq) (N₂ q (.tail _ hq)).1), (N₂ q (.tail _ hq)).2⟩))
noncomputable def SubJ (NW : List (Addr × Obj)) (n : Nat) (f : Nat → Int) (j : Nat) (ys : List Value) (nw : List (Addr × Obj)) (_tk : Nat) : Prop := nw = NW ∧ j ≤ n ∧ ys.length = j ∧ IntsAre ys ((List.range j).map f)
theorem margins_call {D : Addr} {c : Nat} {ws : List Value} {lt gt : Nat → Nat → Bool} (hn : ws.length < 64) (mD : (D, listOf ws.toArray c) ∈ news)
   (hlt : ∀ i v j x, ws[i]? = some v → ws[j]? = some x → Cmp w news .Lt x v (lt j i)) (hgt : ∀ i v j x, ws[i]? = some v → ws[j]? = some x → Cmp w news .Gt x v (gt j i))
   (B : Below A₀ base outer h₀) (F : Fr h₀ L s.heap m) (X : (Mine.hd.heap_1 w.params).In h₀) (N : News h₀ L s.heap news) (T : Top PV LO mean mg mb h₀)
   (hd : dp + 8 < recursionLimit) (hu : un + 60 < cLine)
   (hQ : ∀ M ys h' (tk' : Nat), Fr h₀ L h' m → News h₀ L h' ((M, LCg.lst ys) :: news) → (∀ q ∈ news, q.1 ≠ M) → IntsAre ys ((List.range ws.length).map fun i => ((cnt (fun k => lt k i) ws.length : Nat) : Int) - ((cnt (fun k => gt k i) ws.length : Nat) : Int)) → s.toks ≤ tk' → Q (.ref M) { s with heap := h', toks := tk' }) :
   wpAny (model Challenge.rw_ij0174_01.row.prog w) (AT dp un gd cn nm ig ic mo L a ccd outer) (call (.ref 348) [.ref D]) Q E s := by
  revert X
  k_fill
  intro X
  refine wpAny_toks (wpAny_call ?_)
  k_dflt k_enter
  refine let_ar ?_; intro ar9
  k_steps
  show wpAny _ _ _ _ _ _
  refine pyIter_N (by assumption) (by assumption) (by k_mem) ?_
  intro I h1 F1 N1 l1
  refine compIn_list (MarJ _ ws.length lt gt) rfl hn (fun j ys nw tk hj => ⟨by obtain ⟨_, _, _, _, _, rfl, _⟩ := hj; simp, hj.1, hj.2.1 _ (by k_mem)⟩) F1 N1 (fun q hq => Nat.ne_of_lt (l1 q hq)) ⟨Nat.zero_le _, fun _ h => h, fun _ => 0, fun _ => 0, fun _ => 0, rfl, fun i hi => absurd hi (Nat.not_lt_zero _)⟩ ?turn ?fin
  case turn =>
    rintro C D' j ys nw h tk oC m₁ x E' hJ hx F2 hoC N2 off2 offI hCD hCL hDL hCI hDI
    refine bind_name (by rfl) rfl hoC N2 (off_of hCD hCI off2) F2 ?_
    intro h3 oC3 m3 F3 hoC3 hm3 N3
    refine no_test rfl ?_
    have mc := hJ.2.1 _ List.mem_cons_self
    k_steps
    show wpAny _ _ _ _ _ _
    have mD3 := hJ.2.1 (D, listOf ws.toArray c) (by k_mem)
    have sub3 : ∀ q ∈ news, q ∈ (C, oC3) :: (D', LCg.lst ys) :: (I, liObj D (j + 1)) :: nw := fun q hq => .tail _ (.tail _ (.tail _ (hJ.2.1 q (by repeat (first | exact hq | refine List.mem_cons_of_mem _ ?_)))))
    with_unfolding_all refine' beside_call (news := (C, oC3) :: (D', LCg.lst ys) :: (I, liObj D (j + 1)) :: nw) (cls := _) hn (.tail _ (.tail _ (.tail _ mD3))) (fun i z hz => Cmp.mono (hlt _ _ _ _ hx hz) sub3) (fun i z hz => Cmp.mono (hgt _ _ _ _ hx hz) sub3) ?k1 ?k2 ?k3 ?k4 ?k5 ?k6 ?k7 ?_
    case k2 => k_asm
    case k1 => assumption
    case k3 => assumption
    case k4 => exact N3
    case k5 => assumption
    case k6 => k_room
    case k7 => k_units
    intro T' h4 tk4 t1 t2 F4 N4 off4 htk4
    refine CBack.fin (nw' := (T', tupO [.int ((cnt (fun k => lt k j) ws.length : Nat) : Int) t1, .int ((cnt (fun k => gt k j) ws.length : Nat) : Int) t2]) :: nw) F4 hoC3 N4 ?_ ?_ hCI hDI ⟨_, rfl, ?_, MarJ.next (List.getElem?_eq_some_iff.mp hx).1 hJ⟩
    · intro q hq
      exact mem_rot [_] [_, _, _] hq
    · exact fa_cons (⟨Ne.symm (Nat.ne_of_lt (off4 _ (.head _))), Ne.symm (Nat.ne_of_lt (off4 _ (.tail _ (.head _))))⟩) (fun q hq => off2 q hq)
    · exact fa_cons (Ne.symm (Nat.ne_of_lt (off4 _ (.tail _ (.tail _ (.head _)))))) (fun q hq => offI q hq)
  case fin =>
    rintro ys nw tk ⟨_, hsub, Ta, t1, t2, rfl, hTa⟩
    intro D2 h F3 N3 offD
    k_steps
    show wpAny _ _ _ _ _ _
    generalize hys : (List.range ws.length).map (fun i => Value.ref (Ta i)) = ys2 at *
    have hl2 : ys2.length = ws.length := by rw [← hys]; simp
    refine pyIter_N (its := ys2.toArray) (c := ys2.length) F3 N3 (.head _) ?_
    intro I h1 F1 N1 l1
    refine compIn_listF (SubJ _ ys2.length (fun i => ((cnt (fun k => lt k i) ws.length : Nat) : Int) - ((cnt (fun k => gt k i) ws.length : Nat) : Int))) (fun _ _ _ _ h => h) rfl (by (first | assumption | exact omE ‹_› ‹_› | exact omN ‹_› ‹_› | exact om6 ‹_› | exact om7 ‹_› | exact om9 ‹_› ‹_› | exact om11 ‹_› rfl | exact om24 ‹_› ‹_› | exact rm2 ‹_› rfl | exact rm1 ‹_› rfl | exact Nat.le_trans ‹_› ‹_› | exact Nat.lt_of_lt_of_le ‹_› ‹_› | exact Nat.lt_of_le_of_lt ‹_› ‹_› | omega)) (fun j ys tk hj => ⟨by rw [hj.2.1]; exact Nat.le_refl _, hj.1⟩) (by exact .head _) F1 N1 (fun q hq => Nat.ne_of_lt (l1 q hq)) ⟨rfl, Nat.zero_le _, rfl, .nil⟩ ?turn ?fin
    case turn =>
      rintro C D' j ys h tk oC m₁ x E' ⟨hjn, hyl, hys'⟩ hx F2 hoC N2 off2 offI hCD hCL hDL hCI hDI
      have hj : j < ws.length := by have := (List.getElem?_eq_some_iff.mp hx).1; (first | assumption | exact omE ‹_› ‹_› | exact omN ‹_› ‹_› | exact om6 ‹_› | exact om7 ‹_› | exact om9 ‹_› ‹_› | exact om11 ‹_› rfl | exact om24 ‹_› ‹_› | exact rm2 ‹_› rfl | exact rm1 ‹_› rfl | exact Nat.le_trans ‹_› ‹_› | exact Nat.lt_of_lt_of_le ‹_› ‹_› | exact Nat.lt_of_le_of_lt ‹_› ‹_› | omega)
      obtain rfl : x = .ref (Ta j) := by
        rw [← hys] at hx
        simpa [hj] using hx.symm
      have mj := hTa j hj
      refine bind_pair (x := Str.ofString "a") (y := Str.ofString "b") rfl (by rfl) (by rfl) (by decide) rfl hoC N2 (off_of hCD hCI off2) F2 (.tail _ (.head _)) (.tail _ (.tail _ (.tail _ mj))) ?_
      intro h3 oC3 m3 F3 hoC3 hma hmb N3
      refine no_test rfl ?_
      k_steps
      refine CBack.fin F3 hoC3 N3 (fun q hq => hq) off2 hCI hDI ⟨_, rfl, offI, rfl, by (first | assumption | exact omE ‹_› ‹_› | exact omN ‹_› ‹_› | exact om6 ‹_› | exact om7 ‹_› | exact om9 ‹_› ‹_› | exact om11 ‹_› rfl | exact om24 ‹_› ‹_› | exact rm2 ‹_› rfl | exact rm1 ‹_› rfl | exact Nat.le_trans ‹_› ‹_› | exact Nat.lt_of_lt_of_le ‹_› ‹_› | exact Nat.lt_of_le_of_lt ‹_› ‹_› | omega), by simp [hyl], ?_⟩
      rw [List.range_succ, List.map_append]
      exact IntsAre.append hys' (.cons _ _ .nil)
    case fin =>
      rintro ys tk ⟨hjn, hyl, hys'⟩
      intro D2 h F3 N3 offD
      k_steps
      rename News h₀ L _ _ => kN9
      refine hQ _ _ _ _ (by assumption) (fun q hq => kN9 q ?_) (fun q hq => offD q ?_) (hl2 ▸ hys') (by assumption)
      · exact mem_sk (fun h => .tail _ (hsub q (.tail _ h))) hq
      · exact .tail _ (hsub q (.tail _ hq))
end
end Mine
end
section
set_option hygiene true in
local macro_rules | `(tactic| walk_at "execs cons") => `(tactic| ((with_reducible refine execs_cons_tok ?_); try dsimp only))
-- WMid
section
namespace Mine
theorem rstWMid : True := by (w_top off); trivial
section
variable {w : World} {mean : ExcName → Option Value} {mg mb : Str → Option Value}
   {dp un : Nat} {gd : Option (List Code)} {cn : Str} {nm : List (Str × NameKind)} {ig ic : Bool} {mo : List (Str × Const)} {a : Addr} {ccd : Value} {outer : List Env} {A₀ : Around} {base h₀ : Heap} {L : Addr} {m : Str → Option Value} {s : Shared} {Q E : Value → Shared → Prop} {news : List (Addr × Obj)}
noncomputable def BackR (h₀ : Heap) (L I : Addr) (oI : Obj) (P : Nat → (Str → Option Value) → List (Addr × Obj) → Prop) (j : Nat) (s₁ s₃ : Shared) : Prop :=
  ∃ h' tk' m' nw, s₃ = { s₁ with heap := h', toks := tk' } ∧ P j m' nw ∧ Fr h₀ L h' m' ∧ News h₀ L h' ((I, oI) :: nw) ∧ s₁.toks ≤ tk'
theorem forK_range {prog : Program} {A : Around} {env : Env} {I : Addr} {n : Nat} {x : Str} {px : Pos} {body : List Stmt} {Q : Flow → Shared → Prop} {nw0 : List (Addr × Obj)} (P : Nat → (Str → Option Value) → List (Addr × Obj) → Prop)
   (hh : A.handled = none) (hP : ∀ j m nw, P j m nw → ∀ q ∈ nw, q.1 ≠ I)
   (F : Fr h₀ L s.heap m) (P0 : P 0 m nw0) (N : News h₀ L s.heap ((I, rgO 0 ((n : Nat) : Int) 1) :: nw0))
   (turn : ∀ j h tk m' nw, j < n → P j m' nw → Fr h₀ L h m' → News h₀ L h ((I, rgO (((j + 1 : Nat)) : Int) ((n : Int) - ((j + 1 : Nat) : Int)) 1) :: nw) → s.toks ≤ tk →
      wpAny (model prog w) A (assign (.Name x px) env (.int ((j : Nat) : Int) tk)) (fun _ s₂ => wpAny (model prog w) A (execs body env) (OwitFlow Q (BackR h₀ L I (rgO (((j + 1 : Nat)) : Int) ((n : Int) - ((j + 1 : Nat) : Int)) 1) P (j + 1) { s with heap := h, toks := tk + 1 })) E s₂) E { s with heap := h, toks := tk + 1 })
   (done : ∀ h tk m' nw, P n m' nw → Fr h₀ L h m' → News h₀ L h nw → s.toks ≤ tk → Q .next { s with heap := h, toks := tk }) :
   ForK prog w A E env (.Name x px) body Q (.ref I) s := by
  refine ⟨fun r s' => ∃ j h tk m' nw, r = n - j ∧ s' = { s with heap := h, toks := tk } ∧ j ≤ n ∧ P j m' nw ∧ Fr h₀ L h m' ∧ News h₀ L h ((I, rgO ((j : Nat) : Int) ((n : Int) - (j : Nat)) 1) :: nw) ∧ s.toks ≤ tk,
    n, ⟨0, s.heap, s.toks, m, nw0, rfl, rfl, Nat.zero_le _, P0, F, by simpa using N, Nat.le_refl _⟩, ?_⟩
  rintro r s' ⟨j, h, tk, m', nw, rfl, rfl, hj, hPj, F₁, N₁, htk⟩
  have nI := hP _ _ _ hPj
  have zI := N₁ _ (.head _)
  rcases Nat.lt_or_ge j n with hlt | hge
  · refine wpAny_pyNext_range_item (s := { s with heap := h, toks := tk }) zI.1 (by (first | assumption | exact omE ‹_› ‹_› | exact omN ‹_› ‹_› | exact om6 ‹_› | exact om7 ‹_› | exact om9 ‹_› ‹_› | exact om11 ‹_› rfl | exact om24 ‹_› ‹_› | exact rm2 ‹_› rfl | exact rm1 ‹_› rfl | exact Nat.le_trans ‹_› ‹_› | exact Nat.lt_of_lt_of_le ‹_› ‹_› | exact Nat.lt_of_le_of_lt ‹_› ‹_› | omega)) fun h' hit' hs' => ?_
    have N₂ : News h₀ L h' ((I, rgO (((j + 1 : Nat)) : Int) ((n : Int) - ((j + 1 : Nat) : Int)) 1) :: nw) := fun q hq => by
      rcases List.mem_cons.mp hq with rfl | hq
      · have e1 : ((j + 1 : Nat) : Int) = (j : Int) + 1 := by (first | assumption | exact omE ‹_› ‹_› | exact omN ‹_› ‹_› | exact om6 ‹_› | exact om7 ‹_› | exact om9 ‹_› ‹_› | exact om11 ‹_› rfl | exact om24 ‹_› ‹_› | exact rm2 ‹_› rfl | exact rm1 ‹_› rfl | exact Nat.le_trans ‹_› ‹_› | exact Nat.lt_of_lt_of_le ‹_› ‹_› | exact Nat.lt_of_le_of_lt ‹_› ‹_› | omega)
        have e2 : (n : Int) - ((j + 1 : Nat) : Int) = (n : Int) - (j : Int) - 1 := by (first | assumption | exact omE ‹_› ‹_› | exact omN ‹_› ‹_› | exact om6 ‹_› | exact om7 ‹_› | exact om9 ‹_› ‹_› | exact om11 ‹_› rfl | exact om24 ‹_› ‹_› | exact rm2 ‹_› rfl | exact rm1 ‹_› rfl | exact Nat.le_trans ‹_› ‹_› | exact Nat.lt_of_lt_of_le ‹_› ‹_› | exact Nat.lt_of_le_of_lt ‹_› ‹_› | omega)
        rw [e2, e1]
        exact ⟨hit', zI.2⟩
      · have z := N₁ q (.tail _ hq)
        exact ⟨hs'.extBut _ _ (nI q hq) z.1, z.2⟩
    show wpAny _ _ (pure ()) _ _ _
    refine wpAny_pure ?_
    refine wpAny_mono (turn j h' tk m' nw hlt hPj (F₁.change hs' zI.2.1 zI.2.2) N₂ htk) (fun _ s₂ hs₂ => wpAny_mono hs₂ (fun f s₃ hf => ?_) fun _ _ z => z) fun _ _ z => z
    have back : BackR h₀ L I (rgO (((j + 1 : Nat)) : Int) ((n : Int) - ((j + 1 : Nat) : Int)) 1) P (j + 1) { s with heap := h', toks := tk + 1 } s₃ → ∃ k', k' < n - j ∧ ∃ j h tk m' nw, k' = n - j ∧ s₃ = { s with heap := h, toks := tk } ∧ j ≤ n ∧ P j m' nw ∧ Fr h₀ L h m' ∧ News h₀ L h ((I, rgO ((j : Nat) : Int) ((n : Int) - (j : Nat)) 1) :: nw) ∧ s.toks ≤ tk := by
      rintro ⟨h₃, tk₃, m₃, nw₃, rfl, hP₃, F₃, N₃, ht₃⟩
      exact ⟨n - (j + 1), by (first | assumption | exact omE ‹_› ‹_› | exact omN ‹_› ‹_› | exact om6 ‹_› | exact om7 ‹_› | exact om9 ‹_› ‹_› | exact om11 ‹_› rfl | exact om24 ‹_› ‹_› | exact rm2 ‹_› rfl | exact rm1 ‹_› rfl | exact Nat.le_trans ‹_› ‹_› | exact Nat.lt_of_lt_of_le ‹_› ‹_› | exact Nat.lt_of_le_of_lt ‹_› ‹_› | omega), j + 1, h₃, tk₃, m₃, nw₃, rfl, rfl, hlt, hP₃, F₃, N₃, by dsimp only at ht₃; (first | assumption | exact omE ‹_› ‹_› | exact omN ‹_› ‹_› | exact om6 ‹_› | exact om7 ‹_› | exact om9 ‹_› ‹_› | exact om11 ‹_› rfl | exact om24 ‹_› ‹_› | exact rm2 ‹_› rfl | exact rm1 ‹_› rfl | exact Nat.le_trans ‹_› ‹_› | exact Nat.lt_of_lt_of_le ‹_› ‹_› | exact Nat.lt_of_le_of_lt ‹_› ‹_› | omega)⟩
    cases f with
    | next => exact back hf
    | cont => exact back hf
    | brk => exact hf
    | ret v => exact hf
  · have hjl : j = n := Nat.le_antisymm hj hge
    subst hjl
    refine wpAny_pyNext_range_end (s := { s with heap := h, toks := tk }) hh zI.1 (by (first | assumption | exact omE ‹_› ‹_› | exact omN ‹_› ‹_› | exact om6 ‹_› | exact om7 ‹_› | exact om9 ‹_› ‹_› | exact om11 ‹_› rfl | exact om24 ‹_› ‹_› | exact rm2 ‹_› rfl | exact rm1 ‹_› rfl | exact Nat.le_trans ‹_› ‹_› | exact Nat.lt_of_lt_of_le ‹_› ‹_› | exact Nat.lt_of_le_of_lt ‹_› ‹_› | omega)) fun h' he' => ?_
    have F₂ : Fr h₀ L h' m' := ⟨F₁.ns.at' fun o e => he' L o (Ne.symm zI.2.1) e, fun b o e => he' b o (fun q => by subst q; rw [zI.2.2] at e; cases e) (F₁.keep b o e), F₁.above⟩
    exact done h' tk m' nw hPj F₂ (fun q hq => ⟨he' _ _ (nI q hq) (N₁ q (.tail _ hq)).1, (N₁ q (.tail _ hq)).2⟩) htk
noncomputable def midOk (lt gt : Nat → Nat → Bool) (n place k : Nat) : Bool := decide (cnt (fun j => lt j k) n ≤ place) && decide (cnt (fun j => gt j k) n + place + 1 ≤ n)
noncomputable def midI (lt gt : Nat → Nat → Bool) (n place : Nat) : Int := match (List.range n).find? (midOk lt gt n place) with | some k => ((k : Nat) : Int) | none => -1
noncomputable def MidP (lt gt : Nat → Nat → Bool) (n place : Nat) (D : Addr) (tp : Tok) (NW : List (Addr × Obj)) (I : Addr) (j : Nat) (m : Str → Option Value) (nw : List (Addr × Obj)) : Prop :=
  m (Str.ofString "marks") = some (.ref D) ∧ m (Str.ofString "place") = some (.int ((place : Nat) : Int) tp) ∧ (∀ q ∈ NW, q ∈ nw) ∧ (∀ q ∈ nw, q.1 ≠ I) ∧ ∀ i, i < j → midOk lt gt n place i = false
theorem midI_here {lt gt : Nat → Nat → Bool} {n place k : Nat} (hk : k < n) (h : midOk lt gt n place k = true) (hj : ∀ i, i < k → midOk lt gt n place i = false) : midI lt gt n place = ((k : Nat) : Int) := by
  have : (List.range n).find? (midOk lt gt n place) = some k := by
    rw [List.find?_range_eq_some]
    exact ⟨h, List.mem_range.mpr hk, fun i hi => by rw [hj i hi]; rfl⟩
  unfold midI; rw [this]
theorem midI_none {lt gt : Nat → Nat → Bool} {n place : Nat} (hj : ∀ i, i < n → midOk lt gt n place i = false) : midI lt gt n place = -1 := by
  have : (List.range n).find? (midOk lt gt n place) = none := by
    rw [List.find?_eq_none]
    intro i hi
    rw [hj i (List.mem_range.mp hi)]
    decide
  unfold midI; rw [this]
theorem rg_small : ∀ {n : Nat}, n < 64 → Builtin.Range.small 0 ((n : Nat) : Int) 1 = true := by decide
theorem rg_size (n : Nat) : Builtin.Range.rangeSize 0 ((n : Nat) : Int) 1 = ((n : Nat) : Int) := by rw [rangeSize_nat]; simp
theorem midOk_yes {lt gt : Nat → Nat → Bool} {n place k : Nat} (h1 : ((cnt (fun j => lt j k) n : Nat) : Int) ≤ ((place : Nat) : Int)) (h2 : ((cnt (fun j => gt j k) n : Nat) : Int) ≤ ((n : Nat) : Int) - 1 - ((place : Nat) : Int)) : midOk lt gt n place k = true := by
  unfold midOk
  rw [decide_eq_true (by (first | assumption | exact omE ‹_› ‹_› | exact omN ‹_› ‹_› | exact om6 ‹_› | exact om7 ‹_› | exact om9 ‹_› ‹_› | exact om11 ‹_› rfl | exact om24 ‹_› ‹_› | exact rm2 ‹_› rfl | exact rm1 ‹_› rfl | exact Nat.le_trans ‹_› ‹_› | exact Nat.lt_of_lt_of_le ‹_› ‹_› | exact Nat.lt_of_le_of_lt ‹_› ‹_› | omega)), decide_eq_true (by (first | assumption | exact omE ‹_› ‹_› | exact omN ‹_› ‹_› | exact om6 ‹_› | exact om7 ‹_› | exact om9 ‹_› ‹_› | exact om11 ‹_› rfl | exact om24 ‹_› ‹_› | exact rm2 ‹_› rfl | exact rm1 ‹_› rfl | exact Nat.le_trans ‹_› ‹_› | exact Nat.lt_of_lt_of_le ‹_› ‹_› | exact Nat.lt_of_le_of_lt ‹_› ‹_› | omega))]; rfl
theorem midOk_no1 {lt gt : Nat → Nat → Bool} {n place k : Nat} (h1 : ¬ ((cnt (fun j => lt j k) n : Nat) : Int) ≤ ((place : Nat) : Int)) : midOk lt gt n place k = false := by
  unfold midOk
  rw [decide_eq_false (by (first | assumption | exact omE ‹_› ‹_› | exact omN ‹_› ‹_› | exact om6 ‹_› | exact om7 ‹_› | exact om9 ‹_› ‹_› | exact om11 ‹_› rfl | exact om24 ‹_› ‹_› | exact rm2 ‹_› rfl | exact rm1 ‹_› rfl | exact Nat.le_trans ‹_› ‹_› | exact Nat.lt_of_lt_of_le ‹_› ‹_› | exact Nat.lt_of_le_of_lt ‹_› ‹_› | omega))]; rfl
theorem midOk_no2 {lt gt : Nat → Nat → Bool} {n place k : Nat} (h2 : ¬ ((cnt (fun j => gt j k) n : Nat) : Int) ≤ ((n : Nat) : Int) - 1 - ((place : Nat) : Int)) : midOk lt gt n place k = false := by
  unfold midOk
  rw [decide_eq_false (p := cnt (fun j => gt j k) n + place + 1 ≤ n) (by (first | assumption | exact omE ‹_› ‹_› | exact omN ‹_› ‹_› | exact om6 ‹_› | exact om7 ‹_› | exact om9 ‹_› ‹_› | exact om11 ‹_› rfl | exact om24 ‹_› ‹_› | exact rm2 ‹_› rfl | exact rm1 ‹_› rfl | exact Nat.le_trans ‹_› ‹_› | exact Nat.lt_of_lt_of_le ‹_› ‹_› | exact Nat.lt_of_le_of_lt ‹_› ‹_› | omega)), Bool.and_false]
theorem midBack {lt gt : Nat → Nat → Bool} {n place j : Nat} {D T' I : Addr} {tp : Tok} {NW nw : List (Addr × Obj)} {oT oI : Obj} {h' : Heap} {tk' : Nat} {m' : Str → Option Value} {v1 v2 v3 : Value} (hsub : ∀ q ∈ NW, q ∈ nw) (offI : ∀ q ∈ nw, q.1 ≠ I) (off4 : ∀ q ∈ (I, oI) :: nw, @LT.lt Nat _ q.1 T') (hmid : ∀ i, i < j → midOk lt gt n place i = false) (hk : midOk lt gt n place j = false)
    (hm1 : m' (Str.ofString "marks") = some (.ref D)) (hm2 : m' (Str.ofString "place") = some (.int ((place : Nat) : Int) tp)) (F : Fr h₀ L h' fun y => if y = Str.ofString "above" then some v1 else if y = Str.ofString "below" then some v2 else if y = Str.ofString "k" then some v3 else m' y)
    (N : News h₀ L h' ((T', oT) :: (I, oI) :: nw)) (htk : s.toks ≤ tk') : BackR h₀ L I oI (MidP lt gt n place D tp NW I) (j + 1) s { s with heap := h', toks := tk' } := by
  refine ⟨h', tk', _, (T', oT) :: nw, rfl, ⟨?_, ?_, fun q hq => .tail _ (hsub q hq), fun q hq => ?_, fun i hi => ?_⟩, F, fun q hq => N q ?_, htk⟩
  · rw [if_neg (by decide), if_neg (by decide), if_neg (by decide)]
    exact hm1
  · rw [if_neg (by decide), if_neg (by decide), if_neg (by decide)]
    exact hm2
  · rcases List.mem_cons.mp hq with rfl | hq
    · exact Ne.symm (Nat.ne_of_lt (off4 _ (.head _)))
    · exact offI q hq
  · rcases Nat.lt_or_eq_of_le (Nat.le_of_lt_succ hi) with h | rfl
    · exact hmid i h
    · exact hk
  · exact mem_rot [_] [_] hq
theorem len_listOf {prog : Program} {A : Around} {D : Addr} {ws : List Value} {c : Nat} (N : News h₀ L s.heap news) (hm : (D, listOf ws.toArray c) ∈ news) (h64 : ws.length < 64) (h : Q (.int ((ws.length : Nat) : Int) (s.toks + 1)) { s with toks := s.toks + 1 + 1 }) :
    wpAny (model prog w) A (call (.builtin "len") [.ref D]) Q E s := KM.len_K N hm (by simp) (by (first | assumption | exact omE ‹_› ‹_› | exact omN ‹_› ‹_› | exact om6 ‹_› | exact om7 ‹_› | exact om9 ‹_› ‹_› | exact om11 ‹_› rfl | exact om24 ‹_› ‹_› | exact rm2 ‹_› rfl | exact rm1 ‹_› rfl | exact Nat.le_trans ‹_› ‹_› | exact Nat.lt_of_lt_of_le ‹_› ‹_› | exact Nat.lt_of_le_of_lt ‹_› ‹_› | omega)) h
local macro_rules | `(tactic| walk_at "call builtin:len") => callM `len_listOf 3 0 "argi" [] ""
set_option hygiene false in
local macro_rules | `(tactic| walk_at "exec For") => `(tactic| (k_here; k_dflt (refine for_own ?_ (hE := by first | assumption | passes_own))))
set_option hygiene false in
local macro_rules | `(tactic| walk_at "exec For Name Call cons nil") => `(tactic| (k_here; k_dflt (refine for_own ?_ (hE := by first | assumption | passes_own))))
theorem sub_list {prog : Program} {A : Around} {value slice : Expr} {D : Addr} {ws : List Value} {c j : Nat} {u : Tok} {x : Value} (N : News h₀ L s.heap news) (hm : (D, listOf ws.toArray c) ∈ news) (hx : ws[j]? = some x) (h64 : ws.length < 64) (h : Q x s)
    (hs : subscripted slice false (.ref D) (.int ((j : Nat) : Int) u) = operate [.ref D, .int ((j : Nat) : Int) u] (getItem (.ref D) (.int ((j : Nat) : Int) u)) := by with_unfolding_all rfl) (ht : ∀ r, letTemporaryGo value (.ref D) r = pure () := by intro _; with_unfolding_all rfl) :
    wpAny (model prog w) A (subscriptTail value slice (.ref D) (.int ((j : Nat) : Int) u)) Q E s := by
  have hl : s.heap.IsList D ws.toArray := News.isList N hm
  have := (List.getElem?_eq_some_iff.mp hx).1
  refine subscriptTail_builtin hl.typeIs slot_list_getitem.lookup (wpAny_getItem_list hl (Int.natCast_nonneg _) (by (first | assumption | exact omE ‹_› ‹_› | exact omN ‹_› ‹_› | exact om6 ‹_› | exact om7 ‹_› | exact om9 ‹_› ‹_› | exact om11 ‹_› rfl | exact om24 ‹_› ‹_› | exact rm2 ‹_› rfl | exact rm1 ‹_› rfl | exact Nat.le_trans ‹_› ‹_› | exact Nat.lt_of_lt_of_le ‹_› ‹_› | exact Nat.lt_of_le_of_lt ‹_› ‹_› | omega)) (by simpa using hx) h) hs ht
local macro_rules | `(tactic| walk_at "subscriptTail Name Name ref int") => callM `sub_list 4 0 "argi" [] ""
theorem middle_call {D : Addr} {c place : Nat} {tp : Tok} {ws : List Value} {lt gt : Nat → Nat → Bool} (hn : ws.length < 64) (hpl : place < 64) (mD : (D, listOf ws.toArray c) ∈ news)
   (hlt : ∀ i v j x, ws[i]? = some v → ws[j]? = some x → Cmp w news .Lt x v (lt j i)) (hgt : ∀ i v j x, ws[i]? = some v → ws[j]? = some x → Cmp w news .Gt x v (gt j i))
   (B : Below A₀ base outer h₀) (F : Fr h₀ L s.heap m) (X : (Mine.hd.heap_1 w.params).In h₀) (N : News h₀ L s.heap news) (T : Top PV LO mean mg mb h₀)
   (hd : dp + 8 < recursionLimit) (hu : un + 60 < cLine)
   (hQ : ∀ h' (tk' t : Nat), Fr h₀ L h' m → News h₀ L h' news → s.toks ≤ tk' → Q (.int (midI lt gt ws.length place) t) { s with heap := h', toks := tk' }) :
   wpAny (model Challenge.rw_ij0174_01.row.prog w) (AT dp un gd cn nm ig ic mo L a ccd outer) (call (.ref 343) [.ref D, .int ((place : Nat) : Int) tp]) Q E s := by
  revert X
  k_fill
  intro X
  refine wpAny_toks (wpAny_call ?_)
  k_dflt k_enter
  refine let_ar ?_; intro ar9
  k_steps
  show wpAny _ _ _ _ _ _
  refine pyIter_rg (by assumption) (by assumption) (by assumption) (rg_small hn) ?_
  intro I h1 F1 N1 off1
  rw [rg_size] at N1
  refine forK_range (MidP lt gt ws.length place D tp _ I) rfl (fun j m nw h => h.2.2.2.1) F1 ⟨rfl, rfl, fun _ h => h, off1, fun i hi => absurd hi (Nat.not_lt_zero _)⟩ N1 ?turn ?done
  case turn =>
    intro j h tk m' nw hj hP F2 N2 htk
    refine Mine.c5 hP fun hm1 hm2 hsub offI hmid => ?_
    clear hP
    have mD2 := hsub (D, listOf ws.toArray c) (by k_mem)
    obtain ⟨x, hx⟩ : ∃ x, ws[j]? = some x := ⟨_, List.getElem?_eq_getElem hj⟩
    k_steps
    show wpAny _ _ _ _ _ _
    have sub2 : ∀ q ∈ news, q ∈ (I, rgO (((j + 1 : Nat)) : Int) ((ws.length : Int) - ((j + 1 : Nat) : Int)) 1) :: nw := fun q hq => .tail _ (hsub q (by repeat (first | exact hq | refine List.mem_cons_of_mem _ ?_)))
    with_unfolding_all refine' beside_call (news := (I, rgO (((j + 1 : Nat)) : Int) ((ws.length : Int) - ((j + 1 : Nat) : Int)) 1) :: nw) (cls := []) hn (.tail _ mD2) (fun i z hz => Cmp.mono (hlt _ _ _ _ hx hz) sub2) (fun i z hz => Cmp.mono (hgt _ _ _ _ hx hz) sub2) ?k1 ?k2 ?k3 ?k4 ?k5 ?k6 ?k7 ?_
    case k2 => k_asm
    case k1 => assumption
    case k3 => assumption
    case k4 => k_asm
    case k5 => assumption
    case k6 => k_room
    case k7 => k_units
    intro T' h4 tk4 t1 t2 F4 N4 off4 htk4
    k_steps
    · rw [midI_here hj (midOk_yes (by assumption) (by assumption)) hmid] at hQ
      rename News h₀ L _ _ => kN9
      exact hQ _ _ _ (by assumption) (fun q hq => kN9 q (.tail _ (sub2 q hq))) (by assumption)
    · exact midBack hsub offI off4 hmid (midOk_no2 (by assumption)) hm1 hm2 (by assumption) (by assumption) (by dsimp only at *; (first | assumption | exact omE ‹_› ‹_› | exact omN ‹_› ‹_› | exact om6 ‹_› | exact om7 ‹_› | exact om9 ‹_› ‹_› | exact om11 ‹_› rfl | exact om24 ‹_› ‹_› | exact rm2 ‹_› rfl | exact rm1 ‹_› rfl | exact Nat.le_trans ‹_› ‹_› | exact Nat.lt_of_lt_of_le ‹_› ‹_› | exact Nat.lt_of_le_of_lt ‹_› ‹_› | omega))
    · exact midBack hsub offI off4 hmid (midOk_no1 (by assumption)) hm1 hm2 (by assumption) (by assumption) (by dsimp only at *; (first | assumption | exact omE ‹_› ‹_› | exact omN ‹_› ‹_› | exact om6 ‹_› | exact om7 ‹_› | exact om9 ‹_› ‹_› | exact om11 ‹_› rfl | exact om24 ‹_› ‹_› | exact rm2 ‹_› rfl | exact rm1 ‹_› rfl | exact Nat.le_trans ‹_› ‹_› | exact Nat.lt_of_lt_of_le ‹_› ‹_› | exact Nat.lt_of_le_of_lt ‹_› ‹_› | omega))
  case done =>
    intro h tk m' nw hP F2 N2 htk
    refine Mine.c5 hP fun hm1 hm2 hsub offI hmid => ?_
    clear hP
    k_steps
    rw [midI_none hmid] at hQ
    rename News h₀ L _ _ => kN9
    exact hQ _ _ _ (by assumption) (fun q hq => kN9 q (hsub q (by repeat (first | exact hq | refine List.mem_cons_of_mem _ ?_)))) (by assumption)
end
end Mine
end
end
-- WMed
section
namespace Mine
theorem rstWMed : True := by (w_top off); trivial
section
variable {w : World} {mean : ExcName → Option Value} {mg mb : Str → Option Value}
   {dp un : Nat} {gd : Option (List Code)} {cn : Str} {nm : List (Str × NameKind)} {ig ic : Bool} {mo : List (Str × Const)} {a : Addr} {ccd : Value} {outer : List Env} {A₀ : Around} {base h₀ : Heap} {L : Addr} {m : Str → Option Value} {s : Shared} {Q E : Value → Shared → Prop} {news : List (Addr × Obj)}
noncomputable def bOf : Value → List Nat
  | .bytes b _ => nats b
  | _ => []
noncomputable def bAt (ws : List Value) (i : Nat) : List Nat := bOf (ws.getD i .none)
noncomputable def bLt (ws : List Value) (j i : Nat) : Bool := decide (bAt ws j < bAt ws i)
noncomputable def bGt (ws : List Value) (j i : Nat) : Bool := decide (bAt ws i < bAt ws j)
noncomputable def AllB (vs : List Value) : Prop := ∀ v ∈ vs, ∃ b t, v = .bytes b t
theorem cnt_countP {ws : List Value} (p : Value → Bool) : cnt (fun j => p (ws.getD j .none)) ws.length = ws.countP p := by
  unfold cnt
  rw [List.countP_eq_length_filter]
  have : ws = (List.range ws.length).map fun j => ws.getD j .none := by
    apply List.ext_getElem
    · simp
    · intro i h1 h2
      simp [h1]
  conv => rhs; rw [this]
  rw [List.filter_map, List.length_map]
  rfl
theorem sorted_mid {ws vs' : List Value} {k : Nat} (hp : vs'.Perm ws) (hs : vs'.Pairwise fun a b => ¬ bOf b < bOf a) (hk : k < ws.length) : ∃ x v, x < ws.length ∧ vs'[k]? = some v ∧ ws[x]? = some v ∧ midOk (bLt ws) (bGt ws) ws.length k x = true := by
  have hl := hp.length_eq
  have hk' : k < vs'.length := hl ▸ hk
  have hm : vs'[k] ∈ ws := hp.mem_iff.mp (List.getElem_mem _)
  obtain ⟨x, hx, hxe⟩ := List.getElem_of_mem hm
  refine ⟨x, vs'[k], hx, List.getElem?_eq_getElem hk', by rw [← hxe]; exact List.getElem?_eq_getElem hx, ?_⟩
  have hgx : ws.getD x .none = vs'[k] := by simp [hx, hxe]
  have e : vs' = vs'.take k ++ vs'[k] :: vs'.drop (k + 1) := by rw [← List.drop_eq_getElem_cons hk', List.take_append_drop]
  have hlen : (vs'.take k).length = k := List.length_take_of_le (Nat.le_of_lt hk')
  have hlen2 : (vs'.drop (k + 1)).length = ws.length - (k + 1) := by rw [List.length_drop, hl]
  generalize vs'[k] = z at *
  have hs1 := hs
  rw [e, List.pairwise_append] at hs1
  obtain ⟨_, h2, h3⟩ := hs1
  have c1 : cnt (fun j => bLt ws j x) ws.length ≤ k := by
    have := cnt_countP (ws := ws) fun v => decide (bOf v < bOf z)
    have e1 : (fun j => bLt ws j x) = fun j => decide (bOf (ws.getD j .none) < bOf z) := by funext j; unfold bLt bAt; rw [hgx]
    rw [e1, this, ← hp.countP_eq]
    have z0 : (z :: vs'.drop (k + 1)).countP (fun v => decide (bOf v < bOf z)) = 0 := by
      refine List.countP_eq_zero.mpr fun v hv => ?_
      rcases List.mem_cons.mp hv with rfl | hv
      · simp
      · simpa using (List.pairwise_cons.mp h2).1 v hv
    rw [congrArg (List.countP _) e, List.countP_append, z0]
    have := List.countP_le_length (p := fun v => decide (bOf v < bOf z)) (l := vs'.take k)
    rw [hlen] at this
    exact this
  have c2 : cnt (fun j => bGt ws j x) ws.length + k + 1 ≤ ws.length := by
    have := cnt_countP (ws := ws) fun v => decide (bOf z < bOf v)
    have e1 : (fun j => bGt ws j x) = fun j => decide (bOf z < bOf (ws.getD j .none)) := by funext j; unfold bGt bAt; rw [hgx]
    rw [e1, this, ← hp.countP_eq]
    rw [congrArg (List.countP _) e, List.countP_append, List.countP_eq_zero.mpr ?_, List.countP_cons_of_neg (by simp)]
    · have := List.countP_le_length (p := fun v => decide (bOf z < bOf v)) (l := vs'.drop (k + 1))
      rw [hlen2] at this
      rw [Nat.zero_add]
      exact Nat.le_trans (Nat.add_le_add_right this (k + 1)) (Nat.le_of_eq (Nat.sub_add_cancel hk))
    · intro v hv
      simpa using h3 v hv _ (.head _)
  unfold midOk
  rw [decide_eq_true c1, decide_eq_true c2]; rfl
theorem AllB.keysOf {vs : List Value} (hS : AllB vs) : KeysOf bKind (pairsOf vs) := by
  intro p hp
  rw [pairsOf_toList] at hp
  obtain ⟨b, t, e⟩ := hS _ (mem_zip_self hp).2
  exact ⟨nats b, by rw [e]⟩
theorem KK_b {xs : Array Keyed} {i : Nat} (hi : i < xs.size) {b : Array UInt8} {t : Tok} {q : Value} (hx : xs[i] = (.bytes b t, q)) : KK bKind xs i = nats b := by
  unfold KK; rw [getElem?_pos xs i hi, hx]; rfl
theorem mapM_first_b : ∀ {vs : List Value}, AllB vs → vs.mapM firstOfTuple' = pure (vs.map fun _ => none)
  | [], _ => by simp
  | v :: vs, h => by
    obtain ⟨b, t, rfl⟩ := h _ (.head _)
    rw [List.mapM_cons, show firstOfTuple' (.bytes b t) = pure none from rfl, mapM_first_b fun u hu => h u (.tail _ hu)]; simp
theorem mapM_typeOf_b : ∀ {vs : List Value}, AllB vs → vs.mapM typeOf = pure (vs.map fun _ => Value.type "bytes")
  | [], _ => by simp
  | v :: vs, h => by
    obtain ⟨b, t, rfl⟩ := h _ (.head _)
    rw [List.mapM_cons, mapM_typeOf_b fun u hu => h u (.tail _ hu)]
    show (pure (Value.type "bytes") >>= fun b => pure _ >>= fun bs => pure (b :: bs)) = _
    simp
theorem keyKind_b {v₁ v₂ : Value} {vs : List Value} (hS : AllB (v₁ :: v₂ :: vs)) : keyKind' (v₁ :: v₂ :: vs).toArray = pure oneType' := by
  rw [keyKind'_eq, List.mapM_toArray, mapM_first_b hS]
  simp only [map_pure, pure_bind]
  rw [if_neg (by simp), if_neg (by simp)]
  rw [oneTypeOnly'_eq, List.mapM_toArray, mapM_typeOf_b hS]
  simp only [map_pure, pure_bind]
  have hall : ((List.map (fun _ => Value.type "bytes") (v₁ :: v₂ :: vs)).toArray.all fun x => x == Value.type "bytes") = true := by
    simp only [List.all_toArray, List.all_map, List.all_eq_true]
    intro _ _
    rfl
  have h0 : (List.map (fun _ => Value.type "bytes") (v₁ :: v₂ :: vs)).toArray[0]? = some (Value.type "bytes") := by simp
  rw [h0]
  simp only [hall, if_true, pure_bind, Option.isSome_some]
theorem sorted_out_b {vs : List Value} (hS : AllB vs) {xs : Array Keyed} (hp : xs.Perm (pairsOf vs)) (hs : SortedToK bKind xs (pairsOf vs).size) :
    (xs.map (·.2)).toList.Perm vs ∧ (xs.map (·.2)).toList.Pairwise fun a b => ¬ bOf b < bOf a := by
  have hl : xs.toList.Perm (vs.zip vs) := by rw [← pairsOf_toList]; exact Array.perm_iff_toList_perm.mp hp
  have hmem : ∀ p, p ∈ xs.toList → p.1 = p.2 ∧ p.1 ∈ vs := fun p hp' => mem_zip_self (hl.mem_iff.mp hp')
  have e : (xs.map (·.2)).toList = xs.toList.map (·.1) := by
    rw [Array.toList_map]; exact List.map_congr_left fun p hp' => (hmem p hp').1.symm
  refine ⟨?_, ?_⟩
  · rw [e]
    have := hl.map (·.1)
    rwa [List.map_fst_zip (Nat.le_refl _)] at this
  · rw [e, List.pairwise_iff_getElem]
    intro i j hi hj hij
    have hi' : i < xs.size := by simpa using hi
    have hj' : j < xs.size := by simpa using hj
    have h1 := hs i j (Nat.le_of_lt hij) (by rw [← hp.size_eq]; exact hj')
    obtain ⟨x, t, ex⟩ := hS _ (hmem xs[i] (by simp)).2
    obtain ⟨y, u, ey⟩ := hS _ (hmem xs[j] (by simp)).2
    rw [KK_b hi' (b := x) (t := t) (q := xs[i].2) (Prod.ext ex rfl), KK_b hj' (b := y) (t := u) (q := xs[j].2) (Prod.ext ey rfl)] at h1
    change decide (nats y < nats x) = false at h1
    simp only [List.getElem_map, Array.getElem_toList]
    rw [ex, ey]
    exact of_decide_eq_false h1
theorem sorted_b {prog : Program} {A : Around} {l : Addr} {vs : List Value} {c : Nat} (F : Fr h₀ L s.heap m) (N : News h₀ L s.heap news) (hm : (l, listOf vs.toArray c) ∈ news) (hS : AllB vs) (h64 : vs.length < 64)
    (h : ∀ D h' (vs' : List Value) (e : Nat), Fr h₀ L h' m → News h₀ L h' ((D, listOf vs'.toArray e) :: news) → (∀ q ∈ news, @LT.lt Nat _ q.1 D) → vs'.length = vs.length → vs'.Perm vs → (vs'.Pairwise fun a b => ¬ bOf b < bOf a) → Q (.ref D) { s with heap := h' }) :
    wpAny (model prog w) A (call (.builtin "sorted") [.ref l]) Q E s := by
  refine sortedK bKind_oneLt (News.isList N hm) hS.keysOf (fun v₁ v₂ rest e => keyKind_b (by rw [← e]; exact hS)) h64 fun st' hp hs => ?_
  obtain ⟨h1, h2⟩ := sorted_out_b hS hp hs
  generalize (arrOf st').map (·.2) = out at h1 h2
  obtain ⟨e, he⟩ := sortedAll_at s.heap vs out
  exact h _ _ out.toList e (F.kept fun _ _ => sortedAll_old) (N.kept_cons F (fun _ _ => sortedAll_old) (Nat.le_succ _) he) (fun p hp => Nat.lt_succ_of_lt (Heap.lt_size (N p hp).1)) h1.length_eq h1 h2
end
end Mine
end
-- WMed2
section
namespace Mine
theorem rstWMed2 : True := by (w_top off); trivial
section
variable {w : World} {mean : ExcName → Option Value} {mg mb : Str → Option Value}
   {dp un : Nat} {gd : Option (List Code)} {cn : Str} {nm : List (Str × NameKind)} {ig ic : Bool} {mo : List (Str × Const)} {a : Addr} {ccd : Value} {outer : List Env} {A₀ : Around} {base h₀ : Heap} {L : Addr} {m : Str → Option Value} {s : Shared} {Q E : Value → Shared → Prop} {news : List (Addr × Obj)}
local macro_rules | `(tactic| walk_at "call builtin:len") => callM `len_listOf 3 0 "argi" [] ""
set_option hygiene false in
local macro_rules | `(tactic| walk_at "call builtin:sorted") => callM `sorted_b 5 0 "args" [`D9, `h9, `vs9, `e9, `F9, `N9, `l9, `hl9, `hp9, `hs9] "post"
local macro_rules | `(tactic| walk_at "subscriptTail Name BinOp ref int") => `(tactic| (k_here; refine stop_here ?_))
theorem sub_listI {prog : Program} {A : Around} {value slice : Expr} {D : Addr} {ws : List Value} {c j : Nat} {k : Int} {u : Tok} {x : Value} (hk : k = ((j : Nat) : Int)) (N : News h₀ L s.heap news) (hm : (D, listOf ws.toArray c) ∈ news) (hx : ws[j]? = some x) (h64 : ws.length < 64) (h : Q x s)
    (hs : subscripted slice false (.ref D) (.int ((j : Nat) : Int) u) = operate [.ref D, .int ((j : Nat) : Int) u] (getItem (.ref D) (.int ((j : Nat) : Int) u)) := by with_unfolding_all rfl) (ht : ∀ r, letTemporaryGo value (.ref D) r = pure () := by intro _; with_unfolding_all rfl) :
    wpAny (model prog w) A (subscriptTail value slice (.ref D) (.int k u)) Q E s := by
  subst hk
  exact sub_list N hm hx h64 h hs ht
theorem fd2 (n : Nat) : Int.fdiv ((n : Nat) : Int) 2 = ((n / 2 : Nat) : Int) := by
  rw [Int.fdiv_eq_ediv_of_nonneg _ (by decide)]; omega
theorem fm2 (n : Nat) : Int.fmod ((n : Nat) : Int) 2 = ((n % 2 : Nat) : Int) := by
  rw [Int.fmod_eq_emod_of_nonneg _ (by decide)]; omega
theorem hf1 {n : Nat} (h : 0 < n) : n / 2 < n := Nat.div_lt_self h (by decide)
theorem hf2 {n : Nat} (h : 0 < n) : (n - 1) / 2 < n := Nat.lt_of_le_of_lt (Nat.div_le_self _ _) (Nat.sub_lt h (by decide))
theorem hf3 {n : Nat} (h : ((n % 2 : Nat) : Int) = 1) : n / 2 = (n - 1) / 2 := om26 (Int.ofNat.inj h)
theorem hf4s : ∀ n : Fin 64, 0 < n.val → ((n.val % 2 : Nat) : Int) ≠ 1 → ((n.val / 2 : Nat) : Int) - 1 = (((n.val - 1) / 2 : Nat) : Int) := by decide +kernel
theorem hf4 {n : Nat} (hn : n < 64) (h0 : 0 < n) (h : ((n % 2 : Nat) : Int) ≠ 1) : ((n / 2 : Nat) : Int) - 1 = (((n - 1) / 2 : Nat) : Int) := hf4s ⟨n, hn⟩ h0 h
theorem hf5 {n : Nat} (h : n % 2 = 0) : ((n % 2 : Nat) : Int) ≠ 1 := by omega
theorem hf6 {l n : Nat} (h : 0 < n) (e : l = n) (k : ((l : Nat) : Int) = 0) : False := by rw [e] at k; exact Nat.ne_of_gt h (Int.ofNat.inj k)
theorem hf7 {n : Nat} (h : n % 2 = 1) : ((n % 2 : Nat) : Int) = 1 := by rw [h]; rfl
theorem low_call {D : Addr} {c : Nat} {ws : List Value} (hn : ws.length < 64) (h0 : 0 < ws.length) (hS : AllB ws) (mD : (D, listOf ws.toArray c) ∈ news)
   (B : Below A₀ base outer h₀) (F : Fr h₀ L s.heap m) (X : (Mine.hd.heap_1 w.params).In h₀) (N : News h₀ L s.heap news) (T : Top PV LO mean mg mb h₀)
   (hd : dp + 8 < recursionLimit) (hu : un + 60 < cLine)
   (hQ : ∀ x v h' (tk' : Nat), ws[x]? = some v → midOk (bLt ws) (bGt ws) ws.length ((ws.length - 1) / 2) x = true → Fr h₀ L h' m → News h₀ L h' news → s.toks ≤ tk' → Q v { s with heap := h', toks := tk' }) :
   wpAny (model Challenge.rw_ij0174_01.row.prog w) (AT dp un gd cn nm ig ic mo L a ccd outer) (call (.ref 292) [.ref D]) Q E s := by
  revert X
  k_fill
  intro X
  refine wpAny_toks (wpAny_call ?_)
  k_dflt k_enter
  refine let_ar ?_; intro ar9
  k_steps
  · exact (hf6 h0 hl9 (by assumption)).elim
  · show wpAny _ _ _ _ _ _
    refine x2c4 (sorted_mid hp9 hs9 (k := ws.length / 2) (hf1 h0)) fun x v hx h1 h2 h3 => ?_
    refine sub_listI (j := ws.length / 2) (by rw [hl9]; exact fd2 _) (by assumption) (by k_mem) h1 (by rw [hl9]; exact hn) ?_
    k_steps
    have hm9 : Int.fmod ((vs9.length : Nat) : Int) 2 = 1 := by assumption
    rw [fm2, hl9] at hm9
    rw [hf3 hm9] at h3
    exact hQ _ _ _ _ h2 h3 (by assumption) (news_drop (by assumption) fun _ hq => .tail _ hq) (by assumption)
  · show wpAny _ _ _ _ _ _
    have hm9 : Int.fmod ((vs9.length : Nat) : Int) 2 ≠ 1 := by assumption
    rw [fm2, hl9] at hm9
    refine x2c4 (sorted_mid hp9 hs9 (k := (ws.length - 1) / 2) (hf2 h0)) fun x v hx h1 h2 h3 => ?_
    refine sub_listI (j := (ws.length - 1) / 2) (by rw [hl9, fd2]; exact hf4 hn h0 hm9) (by assumption) (by k_mem) h1 (by rw [hl9]; exact hn) ?_
    k_steps
    exact hQ _ _ _ _ h2 h3 (by assumption) (news_drop (by assumption) fun _ hq => .tail _ hq) (by assumption)

theorem high_call {D : Addr} {c : Nat} {ws : List Value} (hn : ws.length < 64) (h0 : 0 < ws.length) (hS : AllB ws) (mD : (D, listOf ws.toArray c) ∈ news)
   (B : Below A₀ base outer h₀) (F : Fr h₀ L s.heap m) (X : (Mine.hd.heap_1 w.params).In h₀) (N : News h₀ L s.heap news) (T : Top PV LO mean mg mb h₀)
   (hd : dp + 8 < recursionLimit) (hu : un + 60 < cLine)
   (hQ : ∀ x v h' (tk' : Nat), ws[x]? = some v → midOk (bLt ws) (bGt ws) ws.length (ws.length / 2) x = true → Fr h₀ L h' m → News h₀ L h' news → s.toks ≤ tk' → Q v { s with heap := h', toks := tk' }) :
   wpAny (model Challenge.rw_ij0174_01.row.prog w) (AT dp un gd cn nm ig ic mo L a ccd outer) (call (.ref 299) [.ref D]) Q E s := by
  revert X
  k_fill
  intro X
  refine wpAny_toks (wpAny_call ?_)
  k_dflt k_enter
  refine let_ar ?_; intro ar9
  k_steps
  · exact (hf6 h0 hl9 (by assumption)).elim
  · show wpAny _ _ _ _ _ _
    refine x2c4 (sorted_mid hp9 hs9 (k := ws.length / 2) (hf1 h0)) fun x v hx h1 h2 h3 => ?_
    refine sub_listI (j := ws.length / 2) (by rw [hl9]; exact fd2 _) (by assumption) (by k_mem) h1 (by rw [hl9]; exact hn) ?_
    k_steps
    exact hQ _ _ _ _ h2 h3 (by assumption) (news_drop (by assumption) fun _ hq => .tail _ hq) (by assumption)
end
end Mine
end
-- WErr
section
namespace Mine
theorem rstWErr : True := by (w_top off); trivial
section
variable {w : World} {mean : ExcName → Option Value} {mg mb : Str → Option Value}
   {dp un : Nat} {gd : Option (List Code)} {cn : Str} {nm : List (Str × NameKind)} {ig ic : Bool} {mo : List (Str × Const)} {a : Addr} {ccd : Value} {outer : List Env} {A₀ : Around} {base h₀ : Heap} {L : Addr} {m : Str → Option Value} {s : Shared} {Q E : Value → Shared → Prop} {news : List (Addr × Obj)}
theorem noF_bytes_truediv : typeLookup (.type "bytes") (dunder "truediv") = pure none := by rw [typeLookup_type, builtinLookup_eq_fast]; kernel_rfl
theorem noR_bytes_truediv : typeLookup (.type "bytes") (dunderR "truediv") = pure none := by rw [typeLookup_type, builtinLookup_eq_fast]; kernel_rfl
theorem noFill_bytes_truediv : fillsNumberSlot (.type "bytes") "truediv" = pure false := by
  simp only [fillsNumberSlot, noF_bytes_truediv, noR_bytes_truediv, pure_bind, Option.isSome_none, Bool.false_and, Bool.or_false]
theorem rtruediv_bytes (a : Int) (t : Tok) (b : Array UInt8) (u : Tok) : Gives (Builtin.«int.__rtruediv__» ⟨[.int a t, .bytes b u], []⟩) (.val (Value.notImplemented)) :=
  .of_wp fun M A E s Q h => by obtain ⟨hp, g, d, tk, os⟩ := s; wp_walk; exact ⟨_, rfl, h⟩
theorem div_bytes_int {prog : Program} {A : Around} {b : Array UInt8} {t u : Tok} {n : Int} (hh : A.handled = none) (h : ∀ h' tk e, Heap.NewExc s.heap h' e "TypeError" → E (.ref e) { s with heap := h', toks := tk }) :
    wpAny (model prog w) A (binaryOp .Div (.bytes b t) (.int n u)) Q E s := by
  unfold binaryOp
  refine wpAny_holding ?_
  refine wpAny_bind (wpAny_binaryOp1_right_declines (nm := "truediv") (T := "bytes") (U := "int") (by decide) (typeIs_bytes s b t) (show s.TypeIs (.int n u) "int" from rfl) noFill_bytes_truediv F.fills_int_truediv F.slot_int_rtruediv ?_)
  refine call_gives F.slot_int_rtruediv (show s.TypeIs (.int n u) "int" from rfl) F.entry_int_rtruediv (F.args_int_rtruediv_2 _ _) (rtruediv_bytes n u b t) ⟨rfl, ?_⟩
  dsimp only
  show wpAny _ _ (binopTypeError _ _ _) _ _ _
  unfold binopTypeError
  refine wpAny_bind (wpAny_rule ?_)
  refine wpAny_bind (wpAny_of_eq (a := "bytes") (by with_unfolding_all rfl) ?_)
  refine wpAny_bind (wpAny_of_eq (a := "int") (by with_unfolding_all rfl) ?_)
  exact_raiseError plainExc_TypeError hh h
end
end Mine
end
-- WMed3
section
namespace Mine
theorem rstWMed3 : True := by (w_top off); trivial
section
variable {w : World} {mean : ExcName → Option Value} {mg mb : Str → Option Value}
   {dp un : Nat} {gd : Option (List Code)} {cn : Str} {nm : List (Str × NameKind)} {ig ic : Bool} {mo : List (Str × Const)} {a : Addr} {ccd : Value} {outer : List Env} {A₀ : Around} {base h₀ : Heap} {L : Addr} {m : Str → Option Value} {s : Shared} {Q E : Value → Shared → Prop} {news : List (Addr × Obj)}
local macro_rules | `(tactic| walk_at "call builtin:len") => callM `len_listOf 3 0 "argi" [] ""
set_option hygiene false in
local macro_rules | `(tactic| walk_at "call builtin:sorted") => callM `sorted_b 5 0 "args" [`D9, `h9, `vs9, `e9, `F9, `N9, `l9, `hl9, `hp9, `hs9] "post"
local macro_rules | `(tactic| walk_at "subscriptTail Name BinOp ref int") => `(tactic| (k_here; refine stop_here ?_))
local macro_rules | `(tactic| walk_at "subscriptTail Name Name ref int") => `(tactic| (k_here; refine stop_here ?_))
local macro_rules | `(tactic| walk_at "binaryOp Div bytes int") => `(tactic| (k_here; refine div_bytes_int (by rfl) ?_))
theorem raisedN_drop {base g h : Heap} {e : Addr} {l : List Env} {cls : Value} {news' : List (Addr × Obj)} (R : RaisedSN base g l e cls news h) (k : ∀ q ∈ news', q ∈ news) : RaisedSN base g l e cls news' h := by
  obtain ⟨B, a0, hB, hBG, hl, hfl⟩ := R
  exact ⟨B, a0, hB, hBG, fun q hq => hl q (k q hq), hfl⟩
theorem med_even {D : Addr} {c : Nat} {ws : List Value} (hn : ws.length < 64) (h0 : 0 < ws.length) (hev : ws.length % 2 = 0) (hS : AllB ws) (hsz : ∀ b t, Value.bytes b t ∈ ws → b.size ≤ 3) (mD : (D, listOf ws.toArray c) ∈ news)
   (G : Gd w mean mg mb A₀ base outer h₀) (F : Fr h₀ L s.heap m) (N : News h₀ L s.heap news)
   (hd : dp + 8 < recursionLimit) (hu : un + 60 < cLine)
   (hE : ∀ h₁ g h' e tk', Gd w mean mg mb A₀ base outer h₁ → KtsTurn (Fs outer) h₀ h₁ → Fr h₁ L g m → RaisedSN base g (envOf cn ⟨.function, nm, ig, ic, mo⟩ L a ccd :: outer) e (.type "TypeError") news h' →
     g.UpToSlots h' → s.toks ≤ tk' → E (.ref e) { s with heap := h', toks := tk' }) :
   wpAny (model Challenge.rw_ij0174_01.row.prog w) (AT dp un gd cn nm ig ic mo L a ccd outer) (call (.ref 285) [.ref D]) Q E s := by
  have G₀ := G
  have B := G.B; have X := G.X; have T' := G.T; have XB := G.XB; have TB := G.TB; have D' := G.D
  revert X
  k_fill
  intro X
  refine wpAny_toks (wpAny_call ?_)
  k_dflt kts_go
  refine let_ar ?_; intro ar9
  k_steps
  · exact (hf6 h0 hl9 (by assumption)).elim
  · exfalso
    have hm9 : Int.fmod ((vs9.length : Nat) : Int) 2 = 1 := by assumption
    rw [fm2, hl9] at hm9
    exact hf5 hev hm9
  · show wpAny _ _ _ _ _ _
    refine x2c4 (sorted_mid hp9 hs9 (k := (ws.length - 1) / 2) (hf2 h0)) fun x v hx h1 h2 h3 => ?_
    obtain ⟨b1, t1, rfl⟩ := hS _ (List.mem_of_getElem? h2)
    have z1 := hsz _ _ (List.mem_of_getElem? h2)
    refine sub_listI (j := (ws.length - 1) / 2) (by rw [hl9, fd2]; exact hf4 hn h0 (hf5 hev)) (by assumption) (by k_mem) h1 (by rw [hl9]; exact hn) ?_
    k_steps
    show wpAny _ _ _ _ _ _
    refine x2c4 (sorted_mid hp9 hs9 (k := ws.length / 2) (hf1 h0)) fun x v hx h1 h2 h3 => ?_
    obtain ⟨b2, t2, rfl⟩ := hS _ (List.mem_of_getElem? h2)
    have z2 := hsz _ _ (List.mem_of_getElem? h2)
    have z3 : b1.size + b2.size ≤ 16777216 := Nat.le_trans (Nat.add_le_add z1 z2) (by decide)
    refine sub_listI (j := ws.length / 2) (by rw [hl9]; exact fd2 _) (by assumption) (by k_mem) h1 (by rw [hl9]; exact hn) ?_
    k_steps
    exact hE _ _ _ _ _ G₀ KtsTurn.refl (by assumption) (raisedN_drop (by assumption) fun _ hq => .tail _ hq) (by assumption) (by assumption)
theorem med_odd {D : Addr} {c : Nat} {ws : List Value} (hn : ws.length < 64) (h0 : 0 < ws.length) (hod : ws.length % 2 = 1) (hS : AllB ws) (mD : (D, listOf ws.toArray c) ∈ news)
   (B : Below A₀ base outer h₀) (F : Fr h₀ L s.heap m) (X : (Mine.hd.heap_1 w.params).In h₀) (N : News h₀ L s.heap news) (T : Top PV LO mean mg mb h₀)
   (hd : dp + 8 < recursionLimit) (hu : un + 60 < cLine)
   (hQ : ∀ x v h' (tk' : Nat), ws[x]? = some v → midOk (bLt ws) (bGt ws) ws.length (ws.length / 2) x = true → Fr h₀ L h' m → News h₀ L h' news → s.toks ≤ tk' → Q v { s with heap := h', toks := tk' }) :
   wpAny (model Challenge.rw_ij0174_01.row.prog w) (AT dp un gd cn nm ig ic mo L a ccd outer) (call (.ref 285) [.ref D]) Q E s := by
  revert X
  k_fill
  intro X
  refine wpAny_toks (wpAny_call ?_)
  k_dflt k_enter
  refine let_ar ?_; intro ar9
  k_steps
  · exact (hf6 h0 hl9 (by assumption)).elim
  · show wpAny _ _ _ _ _ _
    refine x2c4 (sorted_mid hp9 hs9 (k := ws.length / 2) (hf1 h0)) fun x v hx h1 h2 h3 => ?_
    refine sub_listI (j := ws.length / 2) (by rw [hl9]; exact fd2 _) (by assumption) (by k_mem) h1 (by rw [hl9]; exact hn) ?_
    k_steps
    exact hQ _ _ _ _ h2 h3 (by assumption) (news_drop (by assumption) fun _ hq => .tail _ hq) (by assumption)
  · exfalso
    have hm9 : Int.fmod ((vs9.length : Nat) : Int) 2 ≠ 1 := by assumption
    rw [fm2, hl9] at hm9
    exact hm9 (hf7 hod)
end
end Mine
end
-- WMed4
section
namespace Mine
theorem rstWMed4 : True := by (w_top off); trivial
section
variable {w : World} {mean : ExcName → Option Value} {mg mb : Str → Option Value}
   {dp un : Nat} {gd : Option (List Code)} {cn : Str} {nm : List (Str × NameKind)} {ig ic : Bool} {mo : List (Str × Const)} {a : Addr} {ccd : Value} {outer : List Env} {A₀ : Around} {base h₀ : Heap} {L : Addr} {m : Str → Option Value} {s : Shared} {Q E : Value → Shared → Prop} {news : List (Addr × Obj)}
theorem lawmed_odd {D : Addr} {c : Nat} {ws : List Value} (hn : ws.length < 64) (h0 : 0 < ws.length) (hod : ws.length % 2 = 1) (hS : AllB ws) (mD : (D, listOf ws.toArray c) ∈ news)
   (G : Gd w mean mg mb A₀ base outer h₀) (F : Fr h₀ L s.heap m) (N : News h₀ L s.heap news)
   (hd : dp + 10 < recursionLimit) (hu : un + 90 < cLine)
   (hQ : ∀ x v h₁ h' (tk' : Nat), ws[x]? = some v → midOk (bLt ws) (bGt ws) ws.length (ws.length / 2) x = true → Gd w mean mg mb A₀ base outer h₁ → KtsTurn (Fs outer) h₀ h₁ → Fr h₁ L h' m → News h₁ L h' news → s.toks ≤ tk' → Q v { s with heap := h', toks := tk' }) :
   wpAny (model Challenge.rw_ij0174_01.row.prog w) (AT dp un gd cn nm ig ic mo L a ccd outer) (call (.ref 355) [.ref D]) Q E s := by
  have G₀ := G
  have B := G.B; have X := G.X; have T' := G.T; have XB := G.XB; have TB := G.TB; have D' := G.D
  revert X
  k_fill
  intro X
  refine wpAny_toks (wpAny_call ?_)
  k_dflt kts_go
  refine let_ar ?_; intro ar9
  k_steps
  show wpAny _ _ _ _ _ _
  with_unfolding_all refine' med_odd hn h0 hod hS ?mD ?k1 ?k2 ?k3 ?k4 ?k5 ?k6 ?k7 ?_
  case mD => exact mD
  case k2 => k_asm
  case k1 => assumption
  case k3 => assumption
  case k4 => k_asm
  case k5 => assumption
  case k6 => k_room
  case k7 => k_units
  intro x v h4 tk4 hx hm9 F4 N4 htk4
  k_steps
  exact hQ _ _ _ _ _ hx hm9 G₀ KtsTurn.refl (by assumption) (by assumption) (by assumption)
theorem lawmed_even {D : Addr} {c : Nat} {ws : List Value} (hn : ws.length < 64) (h0 : 0 < ws.length) (hev : ws.length % 2 = 0) (hS : AllB ws) (hsz : ∀ b t, Value.bytes b t ∈ ws → b.size ≤ 3) (mD : (D, listOf ws.toArray c) ∈ news)
   (G : Gd w mean mg mb A₀ base outer h₀) (F : Fr h₀ L s.heap m) (N : News h₀ L s.heap news)
   (hd : dp + 10 < recursionLimit) (hu : un + 90 < cLine)
   (hQ : ∀ h₁ h' (tk' : Nat), Gd w mean mg mb A₀ base outer h₁ → KtsTurn (Fs outer) h₀ h₁ → Fr h₁ L h' m → News h₁ L h' news → s.toks ≤ tk' → Q .none { s with heap := h', toks := tk' }) :
   wpAny (model Challenge.rw_ij0174_01.row.prog w) (AT dp un gd cn nm ig ic mo L a ccd outer) (call (.ref 355) [.ref D]) Q E s := by
  have G₀ := G
  have B := G.B; have X := G.X; have T' := G.T; have XB := G.XB; have TB := G.TB; have D' := G.D
  revert X
  k_fill
  intro X
  refine wpAny_toks (wpAny_call ?_)
  k_dflt kts_go
  refine let_ar ?_; intro ar9
  k_steps
  show wpAny _ _ _ _ _ _
  with_unfolding_all refine' med_even hn h0 hev hS hsz ?mD ?k1 ?k2 ?k4 ?k6 ?k7 ?_
  case mD => exact mD
  case k2 => k_asm
  case k1 => exact ⟨by assumption, by assumption, by assumption, by assumption, by assumption, by assumption⟩
  case k4 => k_asm
  case k6 => k_room
  case k7 => k_units
  intro h5 g5 h4 e5 tk4 G5 T5 F5 R5 U5 htk4
  have B5 := G5.B; have X5 := G5.X; have P5 := G5.T; have XB5 := G5.XB; have TB5 := G5.TB; have D5 := G5.D
  k_steps
  exact hQ _ _ _ ⟨by assumption, by assumption, by assumption, by assumption, by assumption, by assumption⟩ (by assumption) (by assumption) (by assumption) (by assumption)
end
end Mine
end
-- PRk
section
namespace Mine
theorem rstPRk : True := by (w_top off); trivial
section
variable {w : World} {mean : ExcName → Option Value} {mg mb : Str → Option Value}
   {dp un : Nat} {gd : Option (List Code)} {cn : Str} {nm : List (Str × NameKind)} {ig ic : Bool} {mo : List (Str × Const)} {a : Addr} {ccd : Value} {outer : List Env} {A₀ : Around} {base h₀ : Heap} {L : Addr} {m : Str → Option Value} {s : Shared} {Q E : Value → Shared → Prop} {news : List (Addr × Obj)}
theorem cnt_congr {f g : Nat → Bool} {n : Nat} (h : ∀ j, j < n → f j = g j) : cnt f n = cnt g n := by
  unfold cnt
  rw [List.filter_congr fun j hj => h j (List.mem_range.mp hj)]
theorem cnt_below {a : Nat} : ∀ {n : Nat}, a ≤ n → cnt (fun j => decide (j < a)) n = a
  | 0, h => by have : a = 0 := by (first | assumption | exact omE ‹_› ‹_› | exact omN ‹_› ‹_› | exact om6 ‹_› | exact om7 ‹_› | exact om9 ‹_› ‹_› | exact om11 ‹_› rfl | exact om24 ‹_› ‹_› | exact rm2 ‹_› rfl | exact rm1 ‹_› rfl | exact Nat.le_trans ‹_› ‹_› | exact Nat.lt_of_lt_of_le ‹_› ‹_› | exact Nat.lt_of_le_of_lt ‹_› ‹_› | omega)
               subst this; rfl
  | n + 1, h => by
    rw [cnt_succ]
    by_cases e : a ≤ n
    · rw [cnt_below e, if_neg (by simpa using e)]; rfl
    · have : a = n + 1 := by (first | assumption | exact omE ‹_› ‹_› | exact omN ‹_› ‹_› | exact om6 ‹_› | exact om7 ‹_› | exact om9 ‹_› ‹_› | exact om11 ‹_› rfl | exact om24 ‹_› ‹_› | exact rm2 ‹_› rfl | exact rm1 ‹_› rfl | exact Nat.le_trans ‹_› ‹_› | exact Nat.lt_of_lt_of_le ‹_› ‹_› | exact Nat.lt_of_le_of_lt ‹_› ‹_› | omega)
      subst this
      rw [cnt_congr (g := fun j => decide (j < n)) fun j hj => by simp [hj, Nat.lt_succ_of_lt hj], cnt_below (Nat.le_refl n), if_pos (by simp)]
theorem cnt_above {b : Nat} : ∀ {n : Nat}, cnt (fun j => decide (b ≤ j)) n = n - b
  | 0 => by simp [cnt]
  | n + 1 => by
    rw [cnt_succ, cnt_above]
    by_cases e : b ≤ n
    · rw [if_pos (by simpa using e)]; exact (Nat.succ_sub e).symm
    · rw [if_neg (by simpa using e), Nat.sub_eq_zero_of_le (Nat.le_of_not_le e), Nat.sub_eq_zero_of_le (Nat.lt_of_not_le e)]
theorem cnt_perm {p : Array Nat} {n : Nat} (hp : Ok n p) (f : Nat → Bool) : cnt f n = cnt (fun j => f (at' p j)) n := by
  have e : p.toList = (List.range n).map (at' p) := by
    apply List.ext_getElem
    · simp [hp.size]
    · intro i h1 h2
      have h3 : i < p.size := by simpa using h1
      have := at_get h3
      rw [Array.getElem?_eq_getElem h3] at this
      simpa using Option.some.inj this
  unfold cnt
  rw [← List.countP_eq_length_filter, ← List.countP_eq_length_filter, ← (hp : p.toList.Perm (List.range n)).countP_eq, e, List.countP_map]
  rfl
theorem grp_counts {key : Nat → Key × Tok} {n : Nat} {p : Array Nat} (hp : Ok n p) (hs : Srt (pLt key) p n) {x a b : Nat} (hx : x < n) (hax : a ≤ x) (hxb : x < b) (hst : StartOk (fun j => key (at' p j)) n a) (hg : IsGrp (fun j => key (at' p j)) n a b) :
    cnt (fun j => (key j).1.lt (key (at' p x)).1) n = a ∧ cnt (fun j => (key (at' p x)).1.lt (key j).1) n = n - b := by
  obtain ⟨h1, h2, h3, h4⟩ := hg
  have so : ∀ i j, i < j → j < n → (key (at' p i)).1 = (key (at' p j)).1 ∨ (key (at' p i)).1.lt (key (at' p j)).1 = true := fun i j hij hj => by
    have := hs i j hij hj
    unfold pLt at this
    split at this
    · exact .inl (by assumption)
    · exact .inr this
  have eq : ∀ j, a ≤ j → j < b → (key (at' p a)).1 = (key (at' p j)).1 := fun j q1 q2 => of_decide_eq_true (h3 j q1 q2)
  have ex := eq x hax hxb
  have lo : ∀ j, j < a → (key (at' p j)).1.lt (key (at' p x)).1 = true := fun j hj => by
    rcases hst with e | e | e
    · (first | assumption | exact omE ‹_› ‹_› | exact omN ‹_› ‹_› | exact om6 ‹_› | exact om7 ‹_› | exact om9 ‹_› ‹_› | exact om11 ‹_› rfl | exact om24 ‹_› ‹_› | exact rm2 ‹_› rfl | exact rm1 ‹_› rfl | exact Nat.le_trans ‹_› ‹_› | exact Nat.lt_of_lt_of_le ‹_› ‹_› | exact Nat.lt_of_le_of_lt ‹_› ‹_› | omega)
    · (first | assumption | exact omE ‹_› ‹_› | exact omN ‹_› ‹_› | exact om6 ‹_› | exact om7 ‹_› | exact om9 ‹_› ‹_› | exact om11 ‹_› rfl | exact om24 ‹_› ‹_› | exact rm2 ‹_› rfl | exact rm1 ‹_› rfl | exact Nat.le_trans ‹_› ‹_› | exact Nat.lt_of_lt_of_le ‹_› ‹_› | exact Nat.lt_of_le_of_lt ‹_› ‹_› | omega)
    · have ne := of_decide_eq_false e
      have l1 : (key (at' p (a - 1))).1.lt (key (at' p a)).1 = true := (so (a - 1) a (by (first | assumption | exact omE ‹_› ‹_› | exact omN ‹_› ‹_› | exact om6 ‹_› | exact om7 ‹_› | exact om9 ‹_› ‹_› | exact om11 ‹_› rfl | exact om24 ‹_› ‹_› | exact rm2 ‹_› rfl | exact rm1 ‹_› rfl | exact Nat.le_trans ‹_› ‹_› | exact Nat.lt_of_lt_of_le ‹_› ‹_› | exact Nat.lt_of_le_of_lt ‹_› ‹_› | omega)) (by (first | assumption | exact omE ‹_› ‹_› | exact omN ‹_› ‹_› | exact om6 ‹_› | exact om7 ‹_› | exact om9 ‹_› ‹_› | exact om11 ‹_› rfl | exact om24 ‹_› ‹_› | exact rm2 ‹_› rfl | exact rm1 ‹_› rfl | exact Nat.le_trans ‹_› ‹_› | exact Nat.lt_of_lt_of_le ‹_› ‹_› | exact Nat.lt_of_le_of_lt ‹_› ‹_› | omega))).resolve_left ne
      rw [← ex]
      rcases Nat.lt_or_ge j (a - 1) with q | q
      · rcases so j (a - 1) q (by (first | assumption | exact omE ‹_› ‹_› | exact omN ‹_› ‹_› | exact om6 ‹_› | exact om7 ‹_› | exact om9 ‹_› ‹_› | exact om11 ‹_› rfl | exact om24 ‹_› ‹_› | exact rm2 ‹_› rfl | exact rm1 ‹_› rfl | exact Nat.le_trans ‹_› ‹_› | exact Nat.lt_of_lt_of_le ‹_› ‹_› | exact Nat.lt_of_le_of_lt ‹_› ‹_› | omega)) with e' | e'
        · rw [e']; exact l1
        · exact Key.lt_tr e' l1
      · have : j = a - 1 := by (first | assumption | exact omE ‹_› ‹_› | exact omN ‹_› ‹_› | exact om6 ‹_› | exact om7 ‹_› | exact om9 ‹_› ‹_› | exact om11 ‹_› rfl | exact om24 ‹_› ‹_› | exact rm2 ‹_› rfl | exact rm1 ‹_› rfl | exact Nat.le_trans ‹_› ‹_› | exact Nat.lt_of_lt_of_le ‹_› ‹_› | exact Nat.lt_of_le_of_lt ‹_› ‹_› | omega)
        subst this; exact l1
  have hi : ∀ j, b ≤ j → j < n → (key (at' p x)).1.lt (key (at' p j)).1 = true := fun j hj hjn => by
    have ne := of_decide_eq_false (h4 (by (first | assumption | exact omE ‹_› ‹_› | exact omN ‹_› ‹_› | exact om6 ‹_› | exact om7 ‹_› | exact om9 ‹_› ‹_› | exact om11 ‹_› rfl | exact om24 ‹_› ‹_› | exact rm2 ‹_› rfl | exact rm1 ‹_› rfl | exact Nat.le_trans ‹_› ‹_› | exact Nat.lt_of_lt_of_le ‹_› ‹_› | exact Nat.lt_of_le_of_lt ‹_› ‹_› | omega)))
    have l1 : (key (at' p a)).1.lt (key (at' p b)).1 = true := (so a b h1 (by (first | assumption | exact omE ‹_› ‹_› | exact omN ‹_› ‹_› | exact om6 ‹_› | exact om7 ‹_› | exact om9 ‹_› ‹_› | exact om11 ‹_› rfl | exact om24 ‹_› ‹_› | exact rm2 ‹_› rfl | exact rm1 ‹_› rfl | exact Nat.le_trans ‹_› ‹_› | exact Nat.lt_of_lt_of_le ‹_› ‹_› | exact Nat.lt_of_le_of_lt ‹_› ‹_› | omega))).resolve_left ne
    rw [← ex]
    rcases Nat.lt_or_ge b j with q | q
    · rcases so b j q hjn with e' | e'
      · rw [← e']; exact l1
      · exact Key.lt_tr l1 e'
    · have : j = b := by (first | assumption | exact omE ‹_› ‹_› | exact omN ‹_› ‹_› | exact om6 ‹_› | exact om7 ‹_› | exact om9 ‹_› ‹_› | exact om11 ‹_› rfl | exact om24 ‹_› ‹_› | exact rm2 ‹_› rfl | exact rm1 ‹_› rfl | exact Nat.le_trans ‹_› ‹_› | exact Nat.lt_of_lt_of_le ‹_› ‹_› | exact Nat.lt_of_le_of_lt ‹_› ‹_› | omega)
      subst this; exact l1
  refine ⟨?_, ?_⟩
  · rw [cnt_perm hp, cnt_congr (g := fun j => decide (j < a)) fun j hj => ?_, cnt_below (by (first | assumption | exact omE ‹_› ‹_› | exact omN ‹_› ‹_› | exact om6 ‹_› | exact om7 ‹_› | exact om9 ‹_› ‹_› | exact om11 ‹_› rfl | exact om24 ‹_› ‹_› | exact rm2 ‹_› rfl | exact rm1 ‹_› rfl | exact Nat.le_trans ‹_› ‹_› | exact Nat.lt_of_lt_of_le ‹_› ‹_› | exact Nat.lt_of_le_of_lt ‹_› ‹_› | omega))]
    rcases Nat.lt_or_ge j a with q | q
    · rw [lo j q, decide_eq_true q]
    · rw [decide_eq_false (by (first | assumption | exact omE ‹_› ‹_› | exact omN ‹_› ‹_› | exact om6 ‹_› | exact om7 ‹_› | exact om9 ‹_› ‹_› | exact om11 ‹_› rfl | exact om24 ‹_› ‹_› | exact rm2 ‹_› rfl | exact rm1 ‹_› rfl | exact Nat.le_trans ‹_› ‹_› | exact Nat.lt_of_lt_of_le ‹_› ‹_› | exact Nat.lt_of_le_of_lt ‹_› ‹_› | omega))]
      rcases Nat.lt_or_ge j b with q' | q'
      · rw [← eq j q q', ← ex]; exact Key.lt_irr _
      · exact Key.lt_asy (hi j q' hj)
  · rw [cnt_perm hp, cnt_congr (g := fun j => decide (b ≤ j)) fun j hj => ?_, cnt_above]
    rcases Nat.lt_or_ge j b with q | q
    · rw [decide_eq_false (by (first | assumption | exact omE ‹_› ‹_› | exact omN ‹_› ‹_› | exact om6 ‹_› | exact om7 ‹_› | exact om9 ‹_› ‹_› | exact om11 ‹_› rfl | exact om24 ‹_› ‹_› | exact rm2 ‹_› rfl | exact rm1 ‹_› rfl | exact Nat.le_trans ‹_› ‹_› | exact Nat.lt_of_lt_of_le ‹_› ‹_› | exact Nat.lt_of_le_of_lt ‹_› ‹_› | omega))]
      rcases Nat.lt_or_ge j a with q' | q'
      · exact Key.lt_asy (lo j q')
      · rw [← eq j q' q, ← ex]; exact Key.lt_irr _
    · rw [hi j q hj, decide_eq_true q]
end
end Mine
end
-- WRkH
section
namespace Mine
theorem rstWRkH : True := by (w_top off); trivial
section
variable {w : World} {mean : ExcName → Option Value} {mg mb : Str → Option Value}
   {dp un : Nat} {gd : Option (List Code)} {cn : Str} {nm : List (Str × NameKind)} {ig ic : Bool} {mo : List (Str × Const)} {a : Addr} {ccd : Value} {outer : List Env} {A₀ : Around} {base h₀ : Heap} {L : Addr} {m : Str → Option Value} {s : Shared} {Q E : Value → Shared → Prop} {news : List (Addr × Obj)}
noncomputable def lg (key : Nat → Key × Tok) (n i : Nat) : Int := ((cnt (fun j => (key j).1.lt (key i).1) n : Nat) : Int) - ((cnt (fun j => (key i).1.lt (key j).1) n : Nat) : Int)
theorem ok_onto {p : Array Nat} {n i : Nat} (hp : Ok n p) (hi : i < n) : ∃ x, x < n ∧ at' p x = i := by
  have : i ∈ p.toList := (hp : p.toList.Perm (List.range n)).mem_iff.mpr (List.mem_range.mpr hi)
  obtain ⟨x, hx, e⟩ := List.getElem_of_mem this
  have hx' : x < p.size := by simpa using hx
  have h2 := at_get hx'
  rw [Array.getElem?_eq_getElem hx'] at h2
  exact ⟨x, by rw [hp.size] at hx'; exact hx', by rw [← e, ← Option.some.inj h2]; simp⟩
theorem rank_half {cls : List (Str × Addr)} {D : Addr} {key : Nat → Key × Tok} {n k : Nat} {tb : Tok} (h2 : 2 ≤ n) (hn : n ≤ 11) (hk : ∀ i j, i < n → j < n → (key i).1.ty = (key j).1.ty) (mD : (D, listOf ((List.range n).map fun j => (key j).1.val (key j).2).toArray k) ∈ news)
   (hkp : ∀ i j, i < n → j < n → KeyPair (key i) (key j))
   (G : Gd w mean mg mb A₀ base outer h₀) (F : Fr h₀ L s.heap m) (N : News h₀ L s.heap news)
   (hd : dp + 40 < recursionLimit) (hu : un + 400 < cLine)
   (hQ : ∀ h₁ h' (tk' : Nat) RES (vs : List Value) c, Gd w mean mg mb A₀ base outer h₁ → KtsTurn (Fs outer) h₀ h₁ → Fr h₁ L h' m → News h₁ L h' ((RES, listOf vs.toArray c) :: news) → (∀ q ∈ news, @LT.lt Nat _ q.1 RES) → vs.length = n →
      (∀ i, i < n → ∃ t, vs[i]? = some (.float (hv (lg key n i)) t)) → s.toks ≤ tk' → Q (.ref RES) { s with heap := h', toks := tk' }) :
   wpAny (model Challenge.rw_ij0174_01.row.prog w) (ATC dp un gd cn nm ig ic mo L a ccd cls outer) (call (.ref 278) [.ref D] [("start", .float (hv (1 - (n : Nat))) tb)]) Q E s := by
  refine rank_call (ib := fun e => hv (2 * (e : Nat) - (n : Nat) - 1)) (rk := fun e e' => hv ((e : Nat) + (e' : Nat) - (n : Nat))) h2 (by omega) hk mD hkp ?_ ?_ ?_ G F N hd hu ?_
  · have := hv0 ⟨n, by omega⟩ h2
    simpa using this
  · intro e e' h1 h3
    have := hvadd ⟨2 * e + 14 - n, by omega⟩ ⟨e' - e, by omega⟩
    have q1 : ((2 * e + 14 - n : Nat) : Int) - 15 = 2 * (e : Nat) - (n : Nat) - 1 := by omega
    have q2 : ((2 * e + 14 - n : Nat) : Int) - 15 + 2 * ((e' - e : Nat) : Int) = 2 * (e' : Nat) - (n : Nat) - 1 := by omega
    simp only at this
    rw [q2, q1] at this
    exact this
  · intro e e' h1 h3
    have := hvrk ⟨2 * e + 14 - n, by omega⟩ ⟨e' - e, by omega⟩
    have q1 : ((2 * e + 14 - n : Nat) : Int) - 15 = 2 * (e : Nat) - (n : Nat) - 1 := by omega
    have q2 : ((2 * e + 14 - n : Nat) : Int) - 15 + ((e' - e : Nat) : Int) + 1 = (e : Nat) + (e' : Nat) - (n : Nat) := by omega
    simp only at this
    rw [q2, q1] at this
    exact this
  · intro h₁ h' tk' RES vs c p G₁ T₁ F₁ N₁ l₁ hp hs hl hv1 ht
    refine hQ h₁ h' tk' RES vs c G₁ T₁ F₁ N₁ l₁ hl (fun i hi => ?_) ht
    obtain ⟨x, hx, rfl⟩ := ok_onto hp hi
    obtain ⟨a', b', t, q1, q2, q3, q4, q5⟩ := hv1 x hx
    obtain ⟨c1, c2⟩ := grp_counts hp hs hx q1 q2 q3 q4
    refine ⟨t, ?_⟩
    have e : lg key n (at' p x) = (a' : Nat) + (b' : Nat) - (n : Nat) := by
      unfold lg
      rw [c1, c2]
      have := q4.2.1
      omega
    rw [e]
    exact q5
end
end Mine
end
-- WSc
section
namespace Mine
theorem rstWSc : True := by (w_top off); trivial
section
variable {w : World} {mean : ExcName → Option Value} {mg mb : Str → Option Value}
   {dp un : Nat} {gd : Option (List Code)} {cn : Str} {nm : List (Str × NameKind)} {ig ic : Bool} {mo : List (Str × Const)} {a : Addr} {ccd : Value} {outer : List Env} {A₀ : Around} {base h₀ : Heap} {L : Addr} {m : Str → Option Value} {s : Shared} {Q E : Value → Shared → Prop} {news : List (Addr × Obj)}
theorem lg_bound (key : Nat → Key × Tok) {n : Nat} (hn : n ≤ 11) (i : Nat) : (lg key n i).natAbs ≤ 11 := by
  have h : ∀ f : Nat → Bool, cnt f n ≤ n := fun f => by unfold cnt; have := List.length_filter_le f (List.range n); simpa using this
  have h1 := h (fun j => (key j).1.lt (key i).1)
  have h2 := h (fun j => (key i).1.lt (key j).1)
  unfold lg; omega
theorem n4 {z : Int} (h : z.natAbs ≤ 11 * 121) : (4 * z).natAbs < 2 ^ 51 := by rw [Int.natAbs_mul]; exact Nat.lt_of_le_of_lt (Nat.mul_le_mul_left _ h) (by decide)
theorem n8 {z : Int} (h : z.natAbs ≤ 11) : (8 * z).natAbs < 2 ^ 53 := by rw [Int.natAbs_mul]; exact Nat.lt_of_le_of_lt (Nat.mul_le_mul_left _ h) (by decide)
theorem sum_cols {prog : Program} {A : Around} {D1 D2 : Addr} {k1 k2 n : Nat} {vs1 vs2 : List Value} {f g : Nat → Int}
   (hh : A.handled = none) (l1 : vs1.length = n) (l2 : vs2.length = n) (hn : 0 < n) (hn2 : n ≤ 11)
   (h1 : ∀ i, i < n → ∃ t, vs1[i]? = some (.float (hv (f i)) t)) (h2 : ∀ i, i < n → ∃ t, vs2[i]? = some (.float (hv (g i)) t)) (b1 : ∀ i, (f i).natAbs ≤ 11) (b2 : ∀ i, (g i).natAbs ≤ 11)
   (m1 : (D1, listOf vs1.toArray k1) ∈ news) (m2 : (D2, listOf vs2.toArray k2) ∈ news) (F₀ : Fr h₀ L s.heap m) (N : News h₀ L s.heap news)
   (hQ : ∀ h' (tk' : Nat) t, Fr h₀ L h' m → News h₀ L h' news → s.toks ≤ tk' → Q (.float (cx (4 * psum (fun i => f i * g i) n)) t) { s with heap := h', toks := tk' }) :
   wpAny (model prog w) A (call (.builtin "math.sumprod") [.ref D1, .ref D2]) Q E s := by
  have fc : ∀ z : Int, z.natAbs ≤ 11 → F (hv z) (decide (8 * z < 0)) (8 * z) := fun z hz => by rw [hv_cx (n8 hz)]; exact F_cx (n8 hz)
  have hb : ∀ i, (f i * g i).natAbs ≤ 121 := fun i => mul_bound (b1 i) (b2 i)
  refine sp_call_l (n := n) (u := fun i => 8 * f i) (v := fun i => 8 * g i) (wt := fun i => 4 * (f i * g i)) (S := fun i => 4 * psum (fun i => f i * g i) i) hh l1 l2 hn ?_ ?_ ?_ rfl ?_ ?_ m1 m2 F₀ N hQ
  · intro i hi
    obtain ⟨t, e⟩ := h1 i hi
    exact ⟨_, t, _, e, fc _ (b1 i)⟩
  · intro i hi
    obtain ⟨t, e⟩ := h2 i hi
    exact ⟨_, t, _, e, fc _ (b2 i)⟩
  · intro i hi
    refine ⟨?_, n4 (Nat.le_trans (hb i) (by decide))⟩
    show 8 * f i * (8 * g i) = 16 * (4 * (f i * g i))
    have e : 8 * f i * (8 * g i) = (8 * 8) * (f i * g i) := by ac_rfl
    rw [e, ← Int.mul_assoc 16 4]; rfl
  · intro i hi
    show 4 * (psum (fun i => f i * g i) i + f i * g i) = _
    rw [Int.mul_add]
  · intro i hi
    have := psum_bound (f := fun i => f i * g i) (B := 121) (n := i) fun j _ => hb j
    exact n4 (Nat.le_trans this (Nat.mul_le_mul_right 121 (Nat.le_trans hi hn2)))
end
end Mine
end
-- PLaw
section
namespace Mine
theorem rstPLaw : True := by (w_top off); trivial
section
variable {w : World} {mean : ExcName → Option Value} {mg mb : Str → Option Value}
   {dp un : Nat} {gd : Option (List Code)} {cn : Str} {nm : List (Str × NameKind)} {ig ic : Bool} {mo : List (Str × Const)} {a : Addr} {ccd : Value} {outer : List Env} {A₀ : Around} {base h₀ : Heap} {L : Addr} {m : Str → Option Value} {s : Shared} {Q E : Value → Shared → Prop} {news : List (Addr × Obj)}
end
noncomputable def ltn (k n : Nat) : List Nat := (List.range k).reverse.map fun j => 65 + n / 16 ^ j % 16
theorem nats_lets (k n : Nat) : nats (lets k n).toArray = ltn k n := by
  unfold lets ltn
  simp only [nats, List.map_map]
  refine List.map_congr_left fun j _ => ?_
  simp only [Function.comp_apply, UInt8.toNat_ofNat']
  have : n / 16 ^ j % 16 < 16 := Nat.mod_lt _ (by decide)
  omega
theorem ltn0 (n : Nat) : ltn 0 n = [] := rfl
theorem ltn1 (n : Nat) : ltn 1 n = [65 + n % 16] := by simp [ltn, List.range_succ]
theorem ltn2 (n : Nat) : ltn 2 n = [65 + n / 16 % 16, 65 + n % 16] := by simp [ltn, List.range_succ]
theorem ltn3 (n : Nat) : ltn 3 n = [65 + n / 256 % 16, 65 + n / 16 % 16, 65 + n % 16] := by simp [ltn, List.range_succ]
noncomputable def ordOf (n : Nat) : Nat := n * 16 ^ (3 - plc n)
noncomputable def kap (n : Nat) : Nat := ordOf n * 4 + plc n
theorem nil_lt (a : Nat) (l : List Nat) : ([] < a :: l) = True := by simp
theorem plc_big {n : Nat} (h : 256 ≤ n) : plc n = 3 := by
  unfold plc
  rw [if_neg (Nat.ne_of_gt (Nat.lt_of_lt_of_le (by decide) h)), if_neg (Nat.not_lt_of_le (Nat.le_trans (by decide) h)), if_neg (Nat.not_lt_of_le h)]
theorem lexst {d x A X K : Nat} (a1 : 1 ≤ A) (a2 : A ≤ K) (x1 : 1 ≤ X) (x2 : X ≤ K) : d * K + A < x * K + X ↔ d < x ∨ d = x ∧ A < X := by
  rcases Nat.lt_trichotomy d x with h | h | h
  · have e := Nat.mul_le_mul_right K (Nat.succ_le_of_lt h)
    rw [Nat.succ_mul] at e
    exact ⟨fun _ => .inl h, fun _ => Nat.lt_of_le_of_lt (Nat.le_trans (Nat.add_le_add_left a2 _) e) (Nat.lt_add_of_pos_right x1)⟩
  · subst h
    exact ⟨fun q => .inr ⟨rfl, Nat.lt_of_add_lt_add_left q⟩, fun q => Nat.add_lt_add_left (q.elim (fun z => absurd z (Nat.lt_irrefl _)) (·.2)) _⟩
  · have e := Nat.mul_le_mul_right K (Nat.succ_le_of_lt h)
    rw [Nat.succ_mul] at e
    refine ⟨fun q => absurd q (Nat.not_lt_of_le (Nat.le_trans (Nat.le_trans (Nat.add_le_add_left x2 _) e) (Nat.le_add_right _ _))), fun q => q.elim (fun z => absurd z (Nat.lt_asymm h)) (fun z => absurd z.1 (Nat.ne_of_gt h))⟩
noncomputable def wnum : Nat → List Nat → Nat
  | k + 1, a :: l => (a - 65) * (4 * 16 ^ k) + (wnum k l + 1)
  | _, _ => 0
theorem wnum_le : ∀ {k : Nat} {l : List Nat}, (∀ a ∈ l, a ≤ 80) → wnum k l + 4 ≤ 4 * 16 ^ k + k
  | 0, [], _ => Nat.le_refl _
  | 0, _ :: _, _ => Nat.le_refl _
  | k + 1, [], _ => by
    have := Nat.one_le_pow (k + 1) 16 (by decide)
    unfold wnum; omega
  | k + 1, a :: l, h => by
    have e := wnum_le (k := k) fun b hb => h b (.tail _ hb)
    have e2 := Nat.mul_le_mul_right (4 * 16 ^ k) (show a - 65 ≤ 15 from Nat.sub_le_sub_right (h a (.head _)) 65)
    unfold wnum
    rw [Nat.pow_succ]
    omega
theorem sub65 {a b : Nat} (h : 65 ≤ a) (k : 65 ≤ b) : a = b ↔ a - 65 = b - 65 := ⟨fun e => e ▸ rfl, fun e => by rw [← Nat.sub_add_cancel h, ← Nat.sub_add_cancel k, e]⟩
theorem wnum_lt {k : Nat} (hk : k ≤ 3) : ∀ {u v : List Nat}, u.length ≤ k → v.length ≤ k → (∀ a ∈ u, 65 ≤ a ∧ a ≤ 80) → (∀ a ∈ v, 65 ≤ a ∧ a ≤ 80) → (u < v ↔ wnum k u < wnum k v) := by
  induction k with
  | zero =>
    intro u v hu hv _ _
    rw [List.length_eq_zero_iff.mp (Nat.le_zero.mp hu), List.length_eq_zero_iff.mp (Nat.le_zero.mp hv)]
    simp
  | succ k ih =>
    intro u v hu hv bu bv
    cases u with
    | nil =>
      cases v with
      | nil => simp
      | cons b v => exact ⟨fun _ => by show 0 < _; unfold wnum; omega, fun _ => by simp⟩
    | cons a u =>
      cases v with
      | nil => exact ⟨fun h => by simp at h, fun h => absurd h (Nat.not_lt_zero _)⟩
      | cons b v =>
        have l1 := wnum_le (k := k) fun x hx => (bu x (.tail _ hx)).2
        have l2 := wnum_le (k := k) fun x hx => (bv x (.tail _ hx)).2
        have b1 := (bu a (.head _)).1
        have b2 := (bv b (.head _)).1
        have r := ih (by omega) (Nat.le_of_succ_le_succ hu) (Nat.le_of_succ_le_succ hv) (fun x hx => bu x (.tail _ hx)) fun x hx => bv x (.tail _ hx)
        rw [List.cons_lt_cons_iff]
        unfold wnum
        rw [lexst (by omega) (by omega) (by omega) (by omega), r, Nat.add_lt_add_iff_right]
        exact or_congr (Nat.sub_lt_sub_iff_right b1).symm (and_congr_left fun _ => sub65 b1 b2)
theorem ltn_le (k n : Nat) : ∀ a ∈ ltn k n, 65 ≤ a ∧ a ≤ 80 := by
  intro a h
  obtain ⟨j, _, rfl⟩ := List.mem_map.mp h
  have := Nat.mod_lt (n / 16 ^ j) (show 0 < 16 by decide)
  omega
theorem ltn_len (k n : Nat) : (ltn k n).length = k := by simp [ltn]
theorem figs (m : Nat) : m = m / 256 * 256 + (m / 16 % 16 * 16 + m % 16) := by omega
theorem wnum_all : ∀ a b c : Fin 16, wnum 3 [65 + a.val, 65 + b.val, 65 + c.val] = (a.val * 256 + (b.val * 16 + c.val)) * 4 + 3 := by decide +kernel
theorem wnum_ltn {m : Nat} (hm : m < 4096) : wnum 3 (ltn 3 m) = m * 4 + 3 := by
  have h := Nat.div_lt_of_lt_mul (m := m) (n := 256) (k := 16) hm
  rw [ltn3, Nat.mod_eq_of_lt h, wnum_all ⟨m / 256, h⟩ ⟨m / 16 % 16, Nat.mod_lt _ (by decide)⟩ ⟨m % 16, Nat.mod_lt _ (by decide)⟩]
  exact congrArg (· * 4 + 3) (figs m).symm
theorem wnum_small : ∀ m : Fin 256, wnum 3 (ltn (plc m.val) m.val) = kap m.val := by decide +kernel
theorem wnum_kap {m : Nat} (hm : m < 4096) : wnum 3 (ltn (plc m) m) = kap m := by
  by_cases h : m < 256
  · exact wnum_small ⟨m, h⟩
  · have e : plc m = 3 := plc_big (Nat.le_of_not_lt h)
    unfold kap ordOf
    rw [e, wnum_ltn hm, Nat.pow_zero, Nat.mul_one]
theorem word_lt {m n : Nat} (hm : m < 4096) (hn : n < 4096) : decide (nats (wordOf m).toArray < nats (wordOf n).toArray) = decide (kap m < kap n) := by
  unfold wordOf
  rw [nats_lets, nats_lets]
  apply decide_eq_decide.mpr
  rw [wnum_lt (k := 3) (by decide) (by rw [ltn_len]; exact plc_le _) (by rw [ltn_len]; exact plc_le _) (ltn_le _ _) (ltn_le _ _), wnum_kap hm, wnum_kap hn]
theorem fill_lt {m n : Nat} (hm : m < 4096) (hn : n < 4096) : decide (nats (lets 3 m).toArray < nats (lets 3 n).toArray) = decide (m < n) := by
  rw [nats_lets, nats_lets]
  apply decide_eq_decide.mpr
  rw [wnum_lt (k := 3) (by decide) (by rw [ltn_len]; decide) (by rw [ltn_len]; decide) (ltn_le _ _) (ltn_le _ _), wnum_ltn hm, wnum_ltn hn]
  omega
theorem kap_inj {m n : Nat} (h : kap m = kap n) : m = n := by
  unfold kap at h
  have hp : plc m = plc n := by
    have : (ordOf m * 4 + plc m) % 4 = (ordOf n * 4 + plc n) % 4 := congrArg (· % 4) h
    rw [Nat.mul_add_mod_self_right, Nat.mul_add_mod_self_right, Nat.mod_eq_of_lt (Nat.lt_succ_of_le (plc_le m)), Nat.mod_eq_of_lt (Nat.lt_succ_of_le (plc_le n))] at this
    exact this
  rw [hp] at h
  have ho := Nat.eq_of_mul_eq_mul_right (by decide) (Nat.add_right_cancel h)
  unfold ordOf at ho
  rw [hp] at ho
  exact Nat.eq_of_mul_eq_mul_right (Nat.pow_pos (by decide)) ho
theorem fill_small : ∀ n : Fin 256, List.replicate (3 - plc n.val) (65 : UInt8) ++ lets (plc n.val) n.val = lets 3 n.val := by decide +kernel
theorem fill_eq {n : Nat} (_hn : n < 4096) : List.replicate (3 - plc n) (65 : UInt8) ++ lets (plc n) n = lets 3 n := by
  by_cases h : n < 256
  · exact fill_small ⟨n, h⟩
  · rw [plc_big (Nat.le_of_not_lt h)]; rfl
theorem cnt_false {n : Nat} : cnt (fun _ => false) n = 0 := by
  induction n with
  | zero => rfl
  | succ n ih => rw [cnt_succ, ih]; rfl
theorem cnt_mono {f g : Nat → Bool} {n : Nat} (h : ∀ j, j < n → f j = true → g j = true) : cnt f n ≤ cnt g n := by
  induction n with
  | zero => exact Nat.le_refl _
  | succ n ih =>
    rw [cnt_succ, cnt_succ]
    have := ih fun j hj => h j (by omega)
    cases e : f n
    · simp; omega
    · rw [h n (by omega) e]; simp; omega
theorem cnt_not {f g : Nat → Bool} {n : Nat} (h : ∀ j, j < n → g j = !f j) : cnt f n + cnt g n = n := by
  induction n with
  | zero => rfl
  | succ n ih =>
    rw [cnt_succ, cnt_succ, h n (by omega)]
    have := ih fun j hj => h j (by omega)
    cases f n <;> simp <;> omega
theorem cnt_strict {f g : Nat → Bool} {n i : Nat} (h : ∀ j, j < n → f j = true → g j = true) (hi : i < n) (hf : f i = false) (hg : g i = true) : cnt f n < cnt g n := by
  induction n with
  | zero => omega
  | succ n ih =>
    rw [cnt_succ, cnt_succ]
    have hm := cnt_mono (n := n) fun j hj => h j (by omega)
    by_cases e : i = n
    · subst e; rw [hf, hg]; simp; omega
    · have := ih (fun j hj => h j (by omega)) (by omega)
      have : (if f n = true then 1 else 0) ≤ (if g n = true then 1 else 0) := by
        cases q : f n
        · simp
        · rw [h n (by omega) q]; simp
      omega
noncomputable def kLt (k : Nat → Nat) (j i : Nat) : Bool := decide (k j < k i)
noncomputable def kGt (k : Nat → Nat) (j i : Nat) : Bool := decide (k i < k j)
theorem cut_at (k : Nat → Nat) (n p : Nat) : ∀ T, p < cnt (fun j => decide (k j < T)) n → ∃ t, cnt (fun j => decide (k j < t)) n ≤ p ∧ p < cnt (fun j => decide (k j < t + 1)) n
  | 0, h => by rw [cnt_congr (g := fun _ => false) fun j _ => by simp, cnt_false] at h; omega
  | T + 1, h => by
    by_cases c : p < cnt (fun j => decide (k j < T)) n
    · exact cut_at k n p T c
    · exact ⟨T, by omega, h⟩
theorem cnt_all {n : Nat} {f : Nat → Bool} (h : ∀ j, j < n → f j = true) : cnt f n = n := by
  have := cnt_not (f := f) (g := fun _ => false) (n := n) fun j hj => by rw [h j hj]; rfl
  rw [cnt_false] at this; omega
theorem exists_bound (k : Nat → Nat) : ∀ n : Nat, ∃ T, ∀ j, j < n → k j < T
  | 0 => ⟨0, fun j h => by omega⟩
  | n + 1 => by
    obtain ⟨T, h⟩ := exists_bound k n
    refine ⟨T + k n + 1, fun j hj => ?_⟩
    by_cases e : j = n
    · subst e; omega
    · have := h j (by omega); omega
theorem mid_exists (k : Nat → Nat) {n p : Nat} (hp : p < n) : ∃ i, i < n ∧ midOk (kLt k) (kGt k) n p i = true := by
  obtain ⟨T, hT⟩ := exists_bound k n
  obtain ⟨t, h1, h2⟩ := cut_at k n p T (by rw [cnt_all fun j hj => by simpa using hT j hj]; exact hp)
  have hex : ∃ i, i < n ∧ k i = t := by
    apply Classical.byContradiction
    intro hn
    have : cnt (fun j => decide (k j < t + 1)) n = cnt (fun j => decide (k j < t)) n := cnt_congr fun j hj => decide_eq_decide.mpr (by
      have : k j ≠ t := fun e => hn ⟨j, hj, e⟩
      omega)
    omega
  obtain ⟨i, hi, e⟩ := hex
  refine ⟨i, hi, ?_⟩
  have a : cnt (fun j => kLt k j i) n = cnt (fun j => decide (k j < t)) n := cnt_congr fun j _ => by unfold kLt; rw [e]
  have b := cnt_not (f := fun j => decide (k j < t + 1)) (g := fun j => kGt k j i) (n := n) fun j _ => by
    unfold kGt; rw [e, ← decide_not]; exact decide_eq_decide.mpr (by omega)
  unfold midOk
  rw [a, decide_eq_true h1, decide_eq_true (by omega)]; rfl
theorem mid_same (k : Nat → Nat) {n p i j : Nat} (hi : i < n) (hj : j < n) (h1 : midOk (kLt k) (kGt k) n p i = true) (h2 : midOk (kLt k) (kGt k) n p j = true) : k i = k j := by
  have key : ∀ i j, i < n → j < n → midOk (kLt k) (kGt k) n p i = true → midOk (kLt k) (kGt k) n p j = true → ¬ k i < k j := by
    intro i j hi hj h1 h2 hlt
    unfold midOk at h1 h2
    simp only [Bool.and_eq_true, decide_eq_true_eq] at h1 h2
    -- all that are not above i are below j
    have c := cnt_not (f := fun x => !kGt k x i) (g := fun x => kGt k x i) (n := n) fun x _ => by simp
    have d : cnt (fun x => !kGt k x i) n ≤ cnt (fun x => kLt k x j) n := cnt_mono fun x _ hx => by
      unfold kGt at hx
      unfold kLt
      simp at hx ⊢
      omega
    omega
  have a := key i j hi hj h1 h2
  have b := key j i hj hi h2 h1
  omega
theorem midOk_congr {lt gt lt' gt' : Nat → Nat → Bool} {n p i : Nat} (h1 : ∀ j, j < n → lt j i = lt' j i) (h2 : ∀ j, j < n → gt j i = gt' j i) : midOk lt gt n p i = midOk lt' gt' n p i := by
  unfold midOk
  rw [cnt_congr h1, cnt_congr h2]
theorem midI_at (k : Nat → Nat) {lt gt : Nat → Nat → Bool} {n p : Nat} (hl : ∀ i j, i < n → j < n → lt j i = kLt k j i) (hg : ∀ i j, i < n → j < n → gt j i = kGt k j i) (hp : p < n) : ∃ i, i < n ∧ midI lt gt n p = ((i : Nat) : Int) ∧ midOk (kLt k) (kGt k) n p i = true := by
  obtain ⟨i, hi, hk⟩ := mid_exists k hp
  have hc : ∀ i, i < n → midOk lt gt n p i = midOk (kLt k) (kGt k) n p i := fun i hi => midOk_congr (fun j hj => hl i j hi hj) fun j hj => hg i j hi hj
  cases e : (List.range n).find? (midOk lt gt n p) with
  | none =>
    rw [List.find?_eq_none] at e
    exact absurd ((hc i hi).trans hk) (by simpa using e i (List.mem_range.mpr hi))
  | some x =>
    have hx := List.mem_range.mp (List.mem_of_find?_eq_some e)
    refine ⟨x, hx, by unfold midI; rw [e], ?_⟩
    rw [← hc x hx]
    exact List.find?_some e
end Mine
end
-- PLaw2
section
namespace Mine
theorem rstPLaw2 : True := by (w_top off); trivial
section
variable {w : World} {mean : ExcName → Option Value} {mg mb : Str → Option Value}
   {dp un : Nat} {gd : Option (List Code)} {cn : Str} {nm : List (Str × NameKind)} {ig ic : Bool} {mo : List (Str × Const)} {a : Addr} {ccd : Value} {outer : List Env} {A₀ : Around} {base h₀ : Heap} {L : Addr} {m : Str → Option Value} {s : Shared} {Q E : Value → Shared → Prop} {news : List (Addr × Obj)}
end
theorem psum_add (f g : Nat → Int) (n : Nat) : psum (fun i => f i + g i) n = psum f n + psum g n := by
  induction n with
  | zero => rfl
  | succ n ih => show psum (fun i => f i + g i) n + (f n + g n) = (psum f n + f n) + (psum g n + g n); rw [ih]; omega
theorem psum_zero (n : Nat) : psum (fun _ => 0) n = 0 := by
  induction n with
  | zero => rfl
  | succ n ih => show psum (fun _ => 0) n + 0 = 0; rw [ih]; rfl
theorem psum_mulL (c : Int) (f : Nat → Int) (n : Nat) : psum (fun i => c * f i) n = c * psum f n := by
  induction n with
  | zero => show (0 : Int) = c * 0; rw [Int.mul_zero]
  | succ n ih => show psum (fun i => c * f i) n + c * f n = c * (psum f n + f n); rw [ih, Int.mul_add]
theorem psum_mulR (c : Int) (f : Nat → Int) (n : Nat) : psum (fun i => f i * c) n = psum f n * c := by
  rw [Int.mul_comm, ← psum_mulL]
  exact psum_congr fun i _ => Int.mul_comm _ _
theorem psum_comm (f : Nat → Nat → Int) (n m : Nat) : psum (fun i => psum (fun j => f i j) n) m = psum (fun j => psum (fun i => f i j) m) n := by
  induction m with
  | zero => exact (psum_zero n).symm
  | succ m ih =>
    show psum (fun i => psum (fun j => f i j) n) m + psum (fun j => f m j) n = psum (fun j => psum (fun i => f i j) m + f m j) n
    rw [ih, ← psum_add]
noncomputable def sg (k : Nat → Nat) (i j : Nat) : Int := if k j < k i then 1 else if k i < k j then -1 else 0
noncomputable def mgn (k : Nat → Nat) (n i : Nat) : Int := ((cnt (fun j => kLt k j i) n : Nat) : Int) - ((cnt (fun j => kGt k j i) n : Nat) : Int)
theorem cnt_psum (f : Nat → Bool) (n : Nat) : ((cnt f n : Nat) : Int) = psum (fun j => if f j then 1 else 0) n := by
  induction n with
  | zero => rfl
  | succ n ih =>
    rw [cnt_succ]
    show _ = psum (fun j => if f j then 1 else 0) n + if f n then 1 else 0
    rw [← ih]
    cases f n <;> simp
theorem mgn_psum (k : Nat → Nat) (n i : Nat) : mgn k n i = psum (fun j => sg k i j) n := by
  unfold mgn
  rw [cnt_psum, cnt_psum]
  have : psum (fun j => if kLt k j i then (1 : Int) else 0) n = psum (fun j => sg k i j + if kGt k j i then (1 : Int) else 0) n := psum_congr fun j _ => by
    unfold kLt kGt sg
    simp only [decide_eq_true_eq]
    split <;> split <;> omega
  rw [this, psum_add]
  exact Int.add_sub_cancel _ _
theorem mgn_sq (k : Nat → Nat) (n i : Nat) : mgn k n i * mgn k n i = psum (fun j => psum (fun l => sg k i j * sg k i l) n) n := by
  have : (fun j => psum (fun l => sg k i j * sg k i l) n) = fun j => sg k i j * mgn k n i := by
    funext j
    rw [psum_mulL, ← mgn_psum]
  rw [this, psum_mulR, ← mgn_psum]
noncomputable def sq3 (k : Nat → Nat) (n : Nat) : Int := psum (fun i => mgn k n i * mgn k n i) n
theorem sq3_three (k : Nat → Nat) (n : Nat) : 3 * sq3 k n = psum (fun i => psum (fun j => psum (fun l => sg k i j * sg k i l + sg k j i * sg k j l + sg k l i * sg k l j) n) n) n := by
  have e1 : sq3 k n = psum (fun i => psum (fun j => psum (fun l => sg k i j * sg k i l) n) n) n := psum_congr fun i _ => mgn_sq k n i
  have e2 : psum (fun i => psum (fun j => psum (fun l => sg k j i * sg k j l) n) n) n = sq3 k n := by
    rw [psum_comm (fun i j => psum (fun l => sg k j i * sg k j l) n)]
    exact e1.symm
  have e3 : psum (fun i => psum (fun j => psum (fun l => sg k l i * sg k l j) n) n) n = sq3 k n := by
    have : (fun i => psum (fun j => psum (fun l => sg k l i * sg k l j) n) n) = fun i => psum (fun l => psum (fun j => sg k l i * sg k l j) n) n := by
      funext i
      exact psum_comm (fun j l => sg k l i * sg k l j) n n
    rw [this, psum_comm (fun i l => psum (fun j => sg k l i * sg k l j) n)]
    exact e1.symm
  have : psum (fun i => psum (fun j => psum (fun l => sg k i j * sg k i l + sg k j i * sg k j l + sg k l i * sg k l j) n) n) n
      = psum (fun i => psum (fun j => psum (fun l => sg k i j * sg k i l) n) n) n + psum (fun i => psum (fun j => psum (fun l => sg k j i * sg k j l) n) n) n + psum (fun i => psum (fun j => psum (fun l => sg k l i * sg k l j) n) n) n := by
    simp only [psum_add]
  rw [this, e2, e3, ← e1]
  omega
theorem sg_gt {k : Nat → Nat} {i j : Nat} (h : k j < k i) : sg k i j = 1 ∧ sg k j i = -1 := ⟨by unfold sg; rw [if_pos h], by unfold sg; rw [if_neg (Nat.lt_asymm h), if_pos h]⟩
theorem sg_lt {k : Nat → Nat} {i j : Nat} (h : k i < k j) : sg k i j = -1 ∧ sg k j i = - -1 := ⟨(sg_gt h).2, (sg_gt h).1⟩
theorem sg_eq {k : Nat → Nat} {i j : Nat} (h : k i = k j) : sg k i j = 0 ∧ sg k j i = -0 := by unfold sg; rw [h, if_neg (Nat.lt_irrefl _), if_neg (Nat.lt_irrefl _)]; exact ⟨rfl, rfl⟩
theorem sg_sum {k : Nat → Nat} {i j l : Nat} {x y z v : Int} (p : sg k i j = x ∧ sg k j i = -x) (q : sg k i l = y ∧ sg k l i = -y) (r : sg k j l = z ∧ sg k l j = -z) (e : x * y + -x * z + -y * -z = v) : sg k i j * sg k i l + sg k j i * sg k j l + sg k l i * sg k l j = v := by rw [p.1, p.2, q.1, q.2, r.1, r.2, e]
theorem sg_three (k : Nat → Nat) (i j l : Nat) : sg k i j * sg k i l + sg k j i * sg k j l + sg k l i * sg k l j = if k i = k j ∧ k j = k l then 0 else 1 := by
  rcases Nat.lt_trichotomy (k i) (k j) with a | a | a
  · rw [if_neg fun z => Nat.ne_of_lt a z.1]
    rcases Nat.lt_trichotomy (k j) (k l) with b | b | b
    · exact sg_sum (sg_lt a) (sg_lt (Nat.lt_trans a b)) (sg_lt b) (by decide)
    · exact sg_sum (sg_lt a) (sg_lt (b ▸ a)) (sg_eq b) (by decide)
    · rcases Nat.lt_trichotomy (k i) (k l) with c | c | c
      · exact sg_sum (sg_lt a) (sg_lt c) (sg_gt b) (by decide)
      · exact sg_sum (sg_lt a) (sg_eq c) (sg_gt b) (by decide)
      · exact sg_sum (sg_lt a) (sg_gt c) (sg_gt b) (by decide)
  · rcases Nat.lt_trichotomy (k j) (k l) with b | b | b
    · rw [if_neg fun z => Nat.ne_of_lt b z.2]
      exact sg_sum (sg_eq a) (sg_lt (a ▸ b)) (sg_lt b) (by decide)
    · rw [if_pos ⟨a, b⟩]
      exact sg_sum (sg_eq a) (sg_eq (a.trans b)) (sg_eq b) (by decide)
    · rw [if_neg fun z => Nat.ne_of_gt b z.2]
      exact sg_sum (sg_eq a) (sg_gt (a ▸ b)) (sg_gt b) (by decide)
  · rw [if_neg fun z => Nat.ne_of_gt a z.1]
    rcases Nat.lt_trichotomy (k j) (k l) with b | b | b
    · rcases Nat.lt_trichotomy (k i) (k l) with c | c | c
      · exact sg_sum (sg_gt a) (sg_lt c) (sg_lt b) (by decide)
      · exact sg_sum (sg_gt a) (sg_eq c) (sg_lt b) (by decide)
      · exact sg_sum (sg_gt a) (sg_gt c) (sg_lt b) (by decide)
    · exact sg_sum (sg_gt a) (sg_gt (b ▸ a)) (sg_eq b) (by decide)
    · exact sg_sum (sg_gt a) (sg_gt (Nat.lt_trans b a)) (sg_gt b) (by decide)
theorem sq3_ties {k k' : Nat → Nat} {n : Nat} (h : ∀ i j, i < n → j < n → (k i = k j ↔ k' i = k' j)) : sq3 k n = sq3 k' n := by
  have a := sq3_three k n
  have b := sq3_three k' n
  have : psum (fun i => psum (fun j => psum (fun l => sg k i j * sg k i l + sg k j i * sg k j l + sg k l i * sg k l j) n) n) n
      = psum (fun i => psum (fun j => psum (fun l => sg k' i j * sg k' i l + sg k' j i * sg k' j l + sg k' l i * sg k' l j) n) n) n :=
    psum_congr fun i hi => psum_congr fun j hj => psum_congr fun l hl => by
      rw [sg_three, sg_three]
      have p := h i j hi hj
      have q := h j l hj hl
      by_cases c : k i = k j ∧ k j = k l
      · rw [if_pos c, if_pos ⟨p.mp c.1, q.mp c.2⟩]
      · rw [if_neg c, if_neg fun z => c ⟨p.mpr z.1, q.mpr z.2⟩]
  omega
theorem sq_nn (z : Int) : 0 ≤ z * z := by
  rcases Int.le_total 0 z with h | h
  · exact Int.mul_nonneg h h
  · have := Int.mul_nonneg (show 0 ≤ -z by omega) (show 0 ≤ -z by omega)
    rwa [Int.neg_mul_neg] at this
theorem psum_pos {f : Nat → Int} {n i : Nat} (h : ∀ j, j < n → 0 ≤ f j) (hi : i < n) (hp : 0 < f i) : 0 < psum f n := by
  induction n with
  | zero => omega
  | succ n ih =>
    show 0 < psum f n + f n
    have := psum_nonneg (n := n) fun j hj => h j (by omega)
    have := h n (by omega)
    by_cases e : i = n
    · subst e; omega
    · have := ih (fun j hj => h j (by omega)) (by omega); omega
theorem mgn_ne {k : Nat → Nat} {n i j : Nat} (hi : i < n) (hj : j < n) (h : k i < k j) : mgn k n i < mgn k n j := by
  unfold mgn
  have a := cnt_strict (f := fun x => kLt k x i) (g := fun x => kLt k x j) (n := n) (i := i) (fun x _ hx => by unfold kLt at *; simp at *; omega) hi (by unfold kLt; simp) (by unfold kLt; simpa using h)
  have b := cnt_mono (f := fun x => kGt k x j) (g := fun x => kGt k x i) (n := n) (fun x _ hx => by unfold kGt at *; simp at *; omega)
  omega
theorem sq3_pos {k : Nat → Nat} {n i j : Nat} (hi : i < n) (hj : j < n) (h : k i ≠ k j) : 0 < sq3 k n := by
  have hne : mgn k n i ≠ mgn k n j := by
    rcases Nat.lt_or_gt_of_ne h with q | q
    · have := mgn_ne hi hj q; omega
    · have := mgn_ne hj hi q; omega
  have : mgn k n i ≠ 0 ∨ mgn k n j ≠ 0 := by omega
  have sp : ∀ z : Int, z ≠ 0 → 0 < z * z := fun z hz => by
    rcases Int.lt_or_gt_of_ne hz with q | q
    · exact Int.mul_pos_of_neg_of_neg q q
    · exact Int.mul_pos q q
  rcases this with q | q
  · exact psum_pos (fun x _ => sq_nn _) hi (sp _ q)
  · exact psum_pos (fun x _ => sq_nn _) hj (sp _ q)
theorem mgn_bound (k : Nat → Nat) (n i : Nat) (hn : n ≤ 11) : (mgn k n i).natAbs ≤ 11 := by
  have a := cnt_le (fun j => kLt k j i) n
  have b := cnt_le (fun j => kGt k j i) n
  unfold mgn; omega
theorem sq3_bound (k : Nat → Nat) {n : Nat} (hn : n ≤ 11) : (sq3 k n).natAbs < 5000 := by
  have := psum_bound (f := fun i => mgn k n i * mgn k n i) (B := 121) (n := n) fun j _ => mul_bound (mgn_bound k n j hn) (mgn_bound k n j hn)
  have : n * 121 ≤ 11 * 121 := Nat.mul_le_mul_right _ hn
  unfold sq3; omega
theorem frac_one {a : Int} (h : 0 < a) : Float64.ofFrac (decide (a < 0) != decide (a < 0)) a.natAbs a.natAbs = 4607182418800017408 := by
  rw [bne_self_eq_false]
  have h1 : Float64.Right (Float64.ofFrac false a.natAbs a.natAbs) false (1 * 2 ^ 1074) 1 := Float64.ofFrac_right (by omega) (by rw [Nat.mul_one, Nat.one_mul, Nat.mul_comm]) (by decide)
  have h2 : Float64.Right (Float64.ofFrac false 1 1) false (1 * 2 ^ 1074) 1 := Float64.ofFrac_right (by omega) rfl (by decide)
  rw [right_one h1 h2 (by decide)]
  decide +kernel
end Mine
end
section
local macro_rules | `(tactic| walk_at "exec Raise some none") => `(tactic| (k_here; k_dflt (refine' Raise_ownX ?F ?g ?O PySem.F.excBase_ValueError ?h ?_ ?a ?b ?c ?d ?e; (case F => k_asm); (case g => exact TopRead.g (by k_asm)); (case O => exact own_of_in (by k_asm) (by k_asm) (by k_is) (by k_exc)); (case h => first | rfl | assumption); (case a => rfl); (case b => rfl); (case c => rfl); (case d => rfl); (case e => decide); k_whole)))
local macro_rules | `(tactic| walk_at "leaving ref") => `(tactic| (k_here; (rename Heap.MadeExcOf _ _ _ _ _ => mx9); (k_dflt (refine' leave_raiseX ?f ?k ?K ?hx ?F ?N ?_; (case hx => exact mx9); (case f => rfl); (case k => rfl); (case K => assumption); (case F => assumption); (case N => k_asm); k_whole)); (intro h9 t9 R9 U9); (try dsimp only at R9 U9 ⊢)))
-- WCor1
section
namespace Mine
theorem rstWCor1 : True := by (w_top off); trivial
section
variable {w : World} {mean : ExcName → Option Value} {mg mb : Str → Option Value}
   {dp un : Nat} {gd : Option (List Code)} {cn : Str} {nm : List (Str × NameKind)} {ig ic : Bool} {mo : List (Str × Const)} {a : Addr} {ccd : Value} {outer : List Env} {A₀ : Around} {base h₀ : Heap} {L : Addr} {m : Str → Option Value} {s : Shared} {Q E : Value → Shared → Prop} {news : List (Addr × Obj)}
local macro_rules | `(tactic| walk_at "call builtin:len") => callM `len_listOf 3 0 "argi" [] ""
theorem corr_len {D1 D2 : Addr} {c1 c2 : Nat} {tm : Tok} {ws vs : List Value} (hn1 : ws.length < 64) (hn2 : vs.length < 64) (hne : vs.length ≠ ws.length) (m1 : (D1, listOf ws.toArray c1) ∈ news) (m2 : (D2, listOf vs.toArray c2) ∈ news)
   (G : Gd w mean mg mb A₀ base outer h₀) (F : Fr h₀ L s.heap m) (N : News h₀ L s.heap news)
   (hd : dp + 8 < recursionLimit) (hu : un + 60 < cLine)
   (hE : ∀ h₁ g h' e t vs tk', Gd w mean mg mb A₀ base outer h₁ → KtsTurn (Fs outer) h₀ h₁ → Fr h₁ L g m → RaisedS base g (envOf cn ⟨.function, nm, ig, ic, mo⟩ L a ccd :: outer) e (.ref 59) t vs news h' →
     g.UpToSlots h' → s.toks ≤ tk' → E (.ref e) { s with heap := h', toks := tk' }) :
   wpAny (model Challenge.rw_ij0174_01.row.prog w) (AT dp un gd cn nm ig ic mo L a ccd outer) (call (.ref 312) [.ref D1, .ref D2] [("method", .str (Str.ofString "ranked") tm)]) Q E s := by
  have G₀ := G
  have B := G.B; have X := G.X; have T' := G.T; have XB := G.XB; have TB := G.TB; have D' := G.D
  revert X
  k_fill
  intro X
  refine wpAny_toks (wpAny_call ?_)
  (k_dflt (refine' enterXC ?G ?k2 ?k4 ?T0 ?kA ?kf ?kk ?k6 ?k7 ?k8 ?k9 ?kB ?kD ?_ ?c2 ?c3 ?c4; (case kA => exact rfl); (case kf => exact rfl); (case kk => exact rfl); (case k2 => k_asm); (case G => exact ⟨by assumption, by assumption, by assumption, by assumption, by assumption, by assumption⟩); (case T0 => first | assumption | exact KtsTurn.refl); (case k4 => k_asm); (case k6 => k_is); (case k7 => k_is); (case k8 => k_room); (case k9 => (refine' kp_binds ?kx ?ke; (case kx => k_in); (case ke => exact fun _ => rfl))); (case kB => exact rfl); (case kD => decide +kernel); (case c2 => exact rfl); (case c3 => exact rfl); (case c4 => exact rfl); k_whole; intro g' L' h' tk' cells' FG' F' N' Y' B' X' T' D' l1; (try k_lt l1); k_cells Y'; (try simp only [List.cons_append, List.nil_append] at N'); (try dsimp only); (try k_lift B'); (try k_fold)); refine let_ar ?_; intro ar9)
  refine x1c4 (⟨_, F', by with_unfolding_all rfl, by with_unfolding_all rfl, by with_unfolding_all rfl⟩ : ∃ mm, Fr g' L' h' mm ∧ mm (Str.ofString "x") = some (.ref D1) ∧ mm (Str.ofString "y") = some (.ref D2) ∧ mm (Str.ofString "method") = some (.str (Str.ofString "ranked") tm)) fun mm Fm e1 e2 e3 => ?_
  clear F'
  rename @Eq Data _ _ => dd1
  clear dd1
  rename @Eq Data _ _ => dd2
  clear dd2
  k_steps
  · exact hE _ _ _ _ _ _ _ G₀ KtsTurn.refl (by assumption) (raised_drop (by assumption) fun _ hq => .tail _ (.tail _ hq)) (by assumption) (by assumption)
  · exfalso; omega
theorem corr_one {D1 D2 : Addr} {c1 c2 : Nat} {tm : Tok} {ws vs : List Value} (hn1 : ws.length < 64) (hn2 : vs.length < 64) (heq : vs.length = ws.length) (hlt : ws.length < 2) (m1 : (D1, listOf ws.toArray c1) ∈ news) (m2 : (D2, listOf vs.toArray c2) ∈ news)
   (G : Gd w mean mg mb A₀ base outer h₀) (F : Fr h₀ L s.heap m) (N : News h₀ L s.heap news)
   (hd : dp + 8 < recursionLimit) (hu : un + 60 < cLine)
   (hE : ∀ h₁ g h' e t vs tk', Gd w mean mg mb A₀ base outer h₁ → KtsTurn (Fs outer) h₀ h₁ → Fr h₁ L g m → RaisedS base g (envOf cn ⟨.function, nm, ig, ic, mo⟩ L a ccd :: outer) e (.ref 59) t vs news h' →
     g.UpToSlots h' → s.toks ≤ tk' → E (.ref e) { s with heap := h', toks := tk' }) :
   wpAny (model Challenge.rw_ij0174_01.row.prog w) (AT dp un gd cn nm ig ic mo L a ccd outer) (call (.ref 312) [.ref D1, .ref D2] [("method", .str (Str.ofString "ranked") tm)]) Q E s := by
  have G₀ := G
  have B := G.B; have X := G.X; have T' := G.T; have XB := G.XB; have TB := G.TB; have D' := G.D
  revert X
  k_fill
  intro X
  refine wpAny_toks (wpAny_call ?_)
  (k_dflt (refine' enterXC ?G ?k2 ?k4 ?T0 ?kA ?kf ?kk ?k6 ?k7 ?k8 ?k9 ?kB ?kD ?_ ?c2 ?c3 ?c4; (case kA => exact rfl); (case kf => exact rfl); (case kk => exact rfl); (case k2 => k_asm); (case G => exact ⟨by assumption, by assumption, by assumption, by assumption, by assumption, by assumption⟩); (case T0 => first | assumption | exact KtsTurn.refl); (case k4 => k_asm); (case k6 => k_is); (case k7 => k_is); (case k8 => k_room); (case k9 => (refine' kp_binds ?kx ?ke; (case kx => k_in); (case ke => exact fun _ => rfl))); (case kB => exact rfl); (case kD => decide +kernel); (case c2 => exact rfl); (case c3 => exact rfl); (case c4 => exact rfl); k_whole; intro g' L' h' tk' cells' FG' F' N' Y' B' X' T' D' l1; (try k_lt l1); k_cells Y'; (try simp only [List.cons_append, List.nil_append] at N'); (try dsimp only); (try k_lift B'); (try k_fold)); refine let_ar ?_; intro ar9)
  refine x1c4 (⟨_, F', by with_unfolding_all rfl, by with_unfolding_all rfl, by with_unfolding_all rfl⟩ : ∃ mm, Fr g' L' h' mm ∧ mm (Str.ofString "x") = some (.ref D1) ∧ mm (Str.ofString "y") = some (.ref D2) ∧ mm (Str.ofString "method") = some (.str (Str.ofString "ranked") tm)) fun mm Fm e1 e2 e3 => ?_
  clear F'
  rename @Eq Data _ _ => dd1
  clear dd1
  rename @Eq Data _ _ => dd2
  clear dd2
  k_steps
  · exfalso; omega
  · exact hE _ _ _ _ _ _ _ G₀ KtsTurn.refl (by assumption) (raised_drop (by assumption) fun _ hq => .tail _ (.tail _ hq)) (by assumption) (by assumption)
end
end Mine
end
-- WSq
section
namespace Mine
theorem rstWSq : True := by (w_top off); trivial
section
variable {w : World} {mean : ExcName → Option Value} {mg mb : Str → Option Value}
   {dp un : Nat} {gd : Option (List Code)} {cn : Str} {nm : List (Str × NameKind)} {ig ic : Bool} {mo : List (Str × Const)} {a : Addr} {ccd : Value} {outer : List Env} {A₀ : Around} {base h₀ : Heap} {L : Addr} {m : Str → Option Value} {s : Shared} {Q E : Value → Shared → Prop} {news : List (Addr × Obj)}
local macro_rules | `(tactic| walk_at "call builtin:math.sumprod") => `(tactic| (k_here; refine stop_here ?_))
theorem sqrt_to {prog : Program} {A : Around} {x y : UInt64} {t : Tok} (e : Float64.sqrt x = y) (hy : Float64.isFinite y = true) (hA : A.handled = none) (h : Q (.float y s.toks) { s with toks := s.toks + 1 }) : wpAny (model prog w) A (call (.builtin "math.sqrt") [.float x t]) Q E s := by
  subst e
  have hn : Float64.isNaN (Float64.sqrt x) = false := by unfold Float64.isNaN; unfold Float64.isFinite at hy; split <;> simp_all
  refine Flt.call_sqrt_float hA (fun q => ?_) (fun _ => h)
  rw [hn] at q; simp at q
local macro_rules | `(tactic| walk_at "call builtin:math.sqrt") => `(tactic| (k_here; refine sqrt_to (by assumption) (by assumption) rfl ?_))
theorem sp_pair {prog : Program} {A : Around} {D1 D2 : Addr} {k1 k2 n : Nat} {q : UInt64} {a b c d : Tok} (hh : A.handled = none) (hq : F q false (4 * (n : Int))) (hn : n < 5000)
   (m1 : (D1, tpO [.float q a, .float q b] k1) ∈ news) (m2 : (D2, tpO [.float q c, .float (Float64.neg q) d] k2) ∈ news) (F₀ : Fr h₀ L s.heap m) (N : News h₀ L s.heap news)
   (hQ : ∀ h' (tk' : Nat) t, Fr h₀ L h' m → News h₀ L h' news → s.toks ≤ tk' → Q (.float (Float64.zero false) t) { s with heap := h', toks := tk' }) :
   wpAny (model prog w) A (call (.builtin "math.sumprod") [.ref D1, .ref D2]) Q E s := by
  have e : (4 * (n : Int)) * (4 * (n : Int)) = 16 * ((n * n : Nat) : Int) := by
    rw [Int.natCast_mul, show (4 * (n : Int)) * (4 * (n : Int)) = (4 * 4) * ((n : Int) * (n : Int)) by ac_rfl]; rfl
  have hb : n * n < 2 ^ 51 := Nat.lt_of_le_of_lt (Nat.mul_le_mul (Nat.le_of_lt hn) (Nat.le_of_lt hn)) (by decide)
  refine sp_call_t (n := 2) (u := fun _ => 4 * (n : Int)) (v := fun i => if i = 0 then 4 * (n : Int) else -(4 * (n : Int))) (wt := fun i => if i = 0 then ((n * n : Nat) : Int) else -((n * n : Nat) : Int)) (S := fun i => if i = 1 then ((n * n : Nat) : Int) else 0) hh rfl rfl (by decide) ?_ ?_ ?_ rfl ?_ ?_ m1 m2 F₀ N ?_
  · intro i hi
    have : i = 0 ∨ i = 1 := by omega
    rcases this with rfl | rfl
    · exact ⟨q, a, false, rfl, hq⟩
    · exact ⟨q, b, false, rfl, hq⟩
  · intro i hi
    have : i = 0 ∨ i = 1 := by omega
    rcases this with rfl | rfl
    · exact ⟨q, c, false, rfl, hq⟩
    · exact ⟨_, d, true, rfl, F_neg hq⟩
  · intro i hi
    have : i = 0 ∨ i = 1 := by omega
    rcases this with rfl | rfl
    · exact ⟨e, by simp only [if_true]; omega⟩
    · refine ⟨?_, by simp only [show ¬ (1 : Nat) = 0 by decide, if_false]; omega⟩
      show 4 * (n : Int) * -(4 * (n : Int)) = 16 * -((n * n : Nat) : Int)
      rw [Int.mul_neg, e, Int.mul_neg]
  · intro i hi
    have : i = 0 ∨ i = 1 := by omega
    rcases this with rfl | rfl
    · show ((n * n : Nat) : Int) = 0 + ((n * n : Nat) : Int)
      omega
    · show (0 : Int) = ((n * n : Nat) : Int) + -((n * n : Nat) : Int)
      omega
  · intro i hi
    by_cases c : i = 1
    · simp only [c, if_true]; omega
    · simp only [c, if_false]; decide
  · intro h' tk' t F' N' ht
    have := hQ h' tk' t F' N' ht
    rw [← cx0] at this
    exact this
theorem isZero_F {x : UInt64} {a : Bool} {u : Int} (h : F x a u) (h0 : u ≠ 0) : Float64.isZero x = false := by
  obtain ⟨⟨m, e, hd⟩, hv⟩ := h
  unfold Float64.isZero
  rw [hd]
  cases m with
  | succ m => rfl
  | zero =>
    exfalso
    rw [Float64.val_eq hd, Nat.zero_mul] at hv
    have h1 : Float64.sgn a 0 = 0 := by cases a <;> rfl
    rw [h1] at hv
    rcases Int.mul_eq_zero.mp hv.symm with c | c
    · exact h0 c
    · have : (0 : Int) < ((2 ^ 1070 : Nat) : Int) := Int.ofNat_lt.mpr (Nat.two_pow_pos _)
      omega
theorem F_two : F ((4611686018427387904 : UInt64)) false 32 := by
  refine ⟨⟨2 ^ 52, -51, by kernel_rfl⟩, by decide +kernel⟩
theorem sq_last {q : UInt64} {n : Nat} (hq : q = cx (4 * (n : Int))) (h0 : 0 < n) (hn : n < 5000) :
   Float64.isZero (Float64.mul ((4611686018427387904 : UInt64)) q) = false ∧ Float64.add q (Float64.div (Float64.zero false) (Float64.mul ((4611686018427387904 : UInt64)) q)) = q := by
  have fq : F q false (4 * (n : Int)) := by
    have := F_cx (u := 4 * (n : Int)) (by omega)
    rw [decide_eq_false (by omega), ← hq] at this
    exact this
  have e : Float64.mul ((4611686018427387904 : UInt64)) q = fx (false != false) (8 * n) := mul_F F_two fq (by omega) (by show 32 * (4 * (n : Int)).natAbs = _; omega)
  have f2 : F (Float64.mul ((4611686018427387904 : UInt64)) q) false (Float64.sgn false (8 * n)) := by rw [e]; exact F_fx (by omega)
  have hs : Float64.sgn false (8 * n) = 8 * (n : Int) := by show ((8 * n : Nat) : Int) = _; omega
  rw [hs] at f2
  refine ⟨isZero_F f2 (by omega), ?_⟩
  have e2 : Float64.div (Float64.zero false) (Float64.mul ((4611686018427387904 : UInt64)) q) = Float64.zero false := by
    have := div_F (A := 0) (B := 2 * n) (by omega) (by decide) (by omega)
    have e3 : Float64.mul ((4611686018427387904 : UInt64)) q = cx (4 * (2 * (n : Int))) := by
      rw [e]; unfold cx
      rw [decide_eq_false (by omega), show (4 * (2 * (n : Int))).natAbs = 8 * n by omega]; rfl
    rw [e3]
    rw [show (4 : Int) * 0 = 0 from rfl, cx0] at this
    rw [this, decide_eq_false (by omega), decide_eq_false (by omega)]
    show Float64.ofFrac false 0 _ = _
    unfold Float64.ofFrac Float64.roundMag
    rfl
  rw [e2]
  have := add_cx fq (F_zero false) (by omega) (fun _ => rfl)
  rw [this, hq, Int.add_zero]
theorem sqrtprod_call {n : Nat} {t1 t2 : Tok} (h0 : 0 < n) (hn : n < 5000)
   (G : Gd w mean mg mb A₀ base outer h₀) (F₀ : Fr h₀ L s.heap m) (N : News h₀ L s.heap news)
   (hd : dp + 5 < recursionLimit) (hu : un + 60 < cLine)
   (hQ : ∀ h' (tk' : Nat) t, Fr h₀ L h' m → News h₀ L h' news → s.toks ≤ tk' → Q (.float (cx (4 * (n : Int))) t) { s with heap := h', toks := tk' }) :
   wpAny (model Challenge.rw_ij0174_01.row.prog w) (ATC dp un gd cn nm ig ic mo L a ccd cls outer) (call (.ref 306) [.float (cx (4 * (n : Int))) t1, .float (cx (4 * (n : Int))) t2]) Q E s := by
  have G₀ := G
  have hF : F (cx (4 * (n : Int))) false (4 * (n : Int)) := by
    have := F_cx (u := 4 * (n : Int)) (by omega)
    rwa [decide_eq_false (by omega)] at this
  have hsq : Float64.sqrt (Float64.mul (cx (4 * (n : Int))) (cx (4 * (n : Int)))) = cx (4 * (n : Int)) := by
    have hb : n * n < 2 ^ 51 := Nat.lt_of_le_of_lt (Nat.mul_le_mul (Nat.le_of_lt hn) (Nat.le_of_lt hn)) (by decide)
    rw [mul_F (n := n * n) hF hF (by omega) (by rw [show (4 * (n : Int)).natAbs = 4 * n by omega, show 4 * n * (4 * n) = (4 * 4) * (n * n) by ac_rfl])]
    refine sqrt_F (r := n) ?_ h0 (by omega)
    have := F_fx (neg := false != false) (n := n * n) (by omega)
    exact this
  have hfi : Float64.isFinite (cx (4 * (n : Int))) = true := F_out hF
  have hz : Float64.isZero (cx (4 * (n : Int))) = false := isZero_F hF (by omega)
  have hla := sq_last (q := cx (4 * (n : Int))) rfl h0 hn
  generalize cx (4 * (n : Int)) = q at *
  obtain ⟨hz2, hla⟩ := hla
  have B := G.B; have X := G.X; have T' := G.T; have XB := G.XB; have TB := G.TB; have D' := G.D
  revert X
  k_fill
  intro X
  refine wpAny_toks (wpAny_call ?_)
  (k_dflt (refine' enterX ?G ?k2 ?k4 ?T0 ?kA ?kf ?kk ?k6 ?k7 ?k8 ?k9 ?kB ?_ ?c2 ?c3 ?c4 ?c5; (case kA => exact rfl); (case kf => exact rfl); (case kk => exact rfl); (case k2 => k_asm); (case G => exact ⟨by assumption, by assumption, by assumption, by assumption, by assumption, by assumption⟩); (case T0 => first | assumption | exact KtsTurn.refl); (case k4 => k_asm); (case k6 => k_is); (case k7 => k_is); (case k8 => k_room); (case k9 => (refine' kp_binds ?kx ?ke; (case kx => k_in); (case ke => exact fun _ => rfl))); (case kB => exact locs rfl); (case c2 => exact rfl); (case c3 => exact rfl); (case c4 => exact rfl); (case c5 => decide); k_whole; intro g' L' h' FG' F' N' B' X' T' D'; (try dsimp only); (try k_lift B'); (try k_fold)); refine let_ar ?_; intro ar9)
  k_steps
  show wpAny _ _ _ _ _ _
  with_unfolding_all refine' sp_pair (k1 := 0) (k2 := 0) rfl hF hn ?m1 ?m2 ?F ?N ?_
  case F => k_asm
  case N => k_asm
  case m1 => k_mem
  case m2 => k_mem
  intro h5 tk5 t5 F5 N5 ht5
  k_steps
  rw [hla]
  exact hQ _ _ _ (by assumption) (by first | assumption | exact (news_drop (by assumption) fun _ hq => .tail _ hq) | exact (news_drop (by assumption) fun _ hq => .tail _ (.tail _ hq))) (by first | assumption | omega | (dsimp only; omega) | (simp only [List.length_cons, List.length_nil]; omega))
theorem sqrt_0 : Float64.sqrt (Float64.zero false) = Float64.zero false := by decide +kernel
theorem fin_0 : Float64.isFinite (Float64.zero false) = true := by decide +kernel
theorem isZ_0 : Float64.isZero (Float64.zero false) = true := by decide +kernel
theorem sqrtprod_zero {q1 q2 : UInt64} {t1 t2 : Tok} (hm : Float64.mul q1 q2 = Float64.zero false) (hz : Float64.isZero q1 = true ∨ Float64.isZero q2 = true)
   (G : Gd w mean mg mb A₀ base outer h₀) (F₀ : Fr h₀ L s.heap m) (N : News h₀ L s.heap news)
   (hd : dp + 5 < recursionLimit) (hu : un + 60 < cLine)
   (hQ : ∀ h' (tk' : Nat) t, Fr h₀ L h' m → News h₀ L h' news → s.toks ≤ tk' → Q (.float (Float64.zero false) t) { s with heap := h', toks := tk' }) :
   wpAny (model Challenge.rw_ij0174_01.row.prog w) (ATC dp un gd cn nm ig ic mo L a ccd cls outer) (call (.ref 306) [.float q1 t1, .float q2 t2]) Q E s := by
  have G₀ := G
  have hsq : Float64.sqrt (Float64.mul q1 q2) = Float64.zero false := by rw [hm]; exact sqrt_0
  have hfi := fin_0
  have hz0 := isZ_0
  generalize Float64.zero false = z at *
  rcases hz with hz | hz
  all_goals
    have B := G.B; have X := G.X; have T' := G.T; have XB := G.XB; have TB := G.TB; have D' := G.D
    revert X
    k_fill
    intro X
    refine wpAny_toks (wpAny_call ?_)
    (k_dflt (refine' enterX ?G ?k2 ?k4 ?T0 ?kA ?kf ?kk ?k6 ?k7 ?k8 ?k9 ?kB ?_ ?c2 ?c3 ?c4 ?c5; (case kA => exact rfl); (case kf => exact rfl); (case kk => exact rfl); (case k2 => k_asm); (case G => exact ⟨by assumption, by assumption, by assumption, by assumption, by assumption, by assumption⟩); (case T0 => first | assumption | exact KtsTurn.refl); (case k4 => k_asm); (case k6 => k_is); (case k7 => k_is); (case k8 => k_room); (case k9 => (refine' kp_binds ?kx ?ke; (case kx => k_in); (case ke => exact fun _ => rfl))); (case kB => exact locs rfl); (case c2 => exact rfl); (case c3 => exact rfl); (case c4 => exact rfl); (case c5 => decide); k_whole; intro g' L' h' FG' F' N' B' X' T' D'; (try dsimp only); (try k_lift B'); (try k_fold)); refine let_ar ?_; intro ar9)
    k_steps
    all_goals exact hQ _ _ _ (by assumption) (by first | assumption | exact (news_drop (by assumption) fun _ hq => .tail _ hq) | exact (news_drop (by assumption) fun _ hq => .tail _ (.tail _ hq))) (by first | assumption | omega | (dsimp only; omega) | (simp only [List.length_cons, List.length_nil]; omega))
end
end Mine
end
-- WCor3
section
namespace Mine
theorem rstWCor3 : True := by (w_top off); trivial
section
variable {w : World} {mean : ExcName → Option Value} {mg mb : Str → Option Value}
   {dp un : Nat} {gd : Option (List Code)} {cn : Str} {nm : List (Str × NameKind)} {ig ic : Bool} {mo : List (Str × Const)} {a : Addr} {ccd : Value} {outer : List Env} {A₀ : Around} {base h₀ : Heap} {L : Addr} {m : Str → Option Value} {s : Shared} {Q E : Value → Shared → Prop} {news : List (Addr × Obj)}
local macro_rules | `(tactic| walk_at "call builtin:math.sumprod") => `(tactic| (k_here; refine stop_here ?_))
local macro_rules | `(tactic| walk_at "call builtin:len") => callM `len_listOf 3 0 "argi" [] ""
noncomputable def col (key : Nat → Key × Tok) (n : Nat) : List Value := (List.range n).map fun j => (key j).1.val (key j).2
theorem start_inf : ∀ n, n < 64 → 2 ≤ n → Float64.isInf (Float64.ofFrac (decide (((n : Nat) : Int) - 1 < 0) != decide ((-2 : Int) < 0)) (((n : Nat) : Int) - 1).natAbs (Int.natAbs (-2))) = false := by decide +kernel
theorem start_hv {n : Nat} (h2 : 2 ≤ n) : Float64.ofFrac (decide (((n : Nat) : Int) - 1 < 0) != decide ((-2 : Int) < 0)) (((n : Nat) : Int) - 1).natAbs (Int.natAbs (-2)) = hv (1 - (n : Nat)) := by
  unfold hv
  rw [decide_eq_false (p := ((n : Nat) : Int) - 1 < 0) (by omega), decide_eq_true (p := 1 - ((n : Nat) : Int) < 0) (by omega), show (((n : Nat) : Int) - 1).natAbs = (1 - ((n : Nat) : Int)).natAbs by rw [← Int.natAbs_neg, Int.neg_sub]]
  rfl
theorem rank_half' {cls : List (Str × Addr)} {D : Addr} {key : Nat → Key × Tok} {n k : Nat} {b : UInt64} {tb : Tok} (hb : b = hv (1 - (n : Nat))) (h2 : 2 ≤ n) (hn : n ≤ 11) (hk : ∀ i j, i < n → j < n → (key i).1.ty = (key j).1.ty) (mD : (D, listOf (col key n).toArray k) ∈ news)
   (hkp : ∀ i j, i < n → j < n → KeyPair (key i) (key j))
   (G : Gd w mean mg mb A₀ base outer h₀) (F : Fr h₀ L s.heap m) (N : News h₀ L s.heap news)
   (hd : dp + 40 < recursionLimit) (hu : un + 400 < cLine)
   (hQ : ∀ h₁ h' (tk' : Nat) RES (vs : List Value) c, Gd w mean mg mb A₀ base outer h₁ → KtsTurn (Fs outer) h₀ h₁ → Fr h₁ L h' m → News h₁ L h' ((RES, listOf vs.toArray c) :: news) → (∀ q ∈ news, @LT.lt Nat _ q.1 RES) → vs.length = n →
      (∀ i, i < n → ∃ t, vs[i]? = some (.float (hv (lg key n i)) t)) → s.toks ≤ tk' → Q (.ref RES) { s with heap := h', toks := tk' }) :
   wpAny (model Challenge.rw_ij0174_01.row.prog w) (ATC dp un gd cn nm ig ic mo L a ccd cls outer) (call (.ref 278) [.ref D] [("start", .float b tb)]) Q E s := by
  subst hb
  exact rank_half h2 hn hk mD hkp G F N hd hu hQ
theorem nat4 {a : Nat} (h : a < 5000) : (4 * (a : Int)).natAbs < 2 ^ 53 := by show 4 * a < 2 ^ 53; exact Nat.lt_trans (Nat.mul_lt_mul_of_pos_left h (by decide)) (by decide)
theorem nat4z {a : Nat} (h : 0 < a) : 4 * (a : Int) ≠ 0 := by omega
theorem b121 {z : Int} {n : Nat} (h : z.natAbs ≤ n * 121) (k : n ≤ 11) : z.natAbs < 5000 := Nat.lt_of_le_of_lt (Nat.le_trans h (Nat.mul_le_mul_right _ k)) (by decide)
theorem b4 {z : Int} (h : z.natAbs < 5000) : (4 * z).natAbs < 2 ^ 53 := by rw [Int.natAbs_mul]; exact Nat.lt_trans (Nat.mul_lt_mul_of_pos_left h (by decide)) (by decide)
theorem zero_mul_cx {p q : Int} (hp : 0 ≤ p) (hq : 0 ≤ q) (hp2 : p.natAbs < 5000) (hq2 : q.natAbs < 5000) (h : p = 0 ∨ q = 0) : Float64.mul (cx (4 * p)) (cx (4 * q)) = Float64.zero false ∧ (Float64.isZero (cx (4 * p)) = true ∨ Float64.isZero (cx (4 * q)) = true) := by
  have f1 := F_cx (u := 4 * p) (b4 hp2)
  have f2 := F_cx (u := 4 * q) (b4 hq2)
  refine ⟨?_, ?_⟩
  · rw [mul_F (n := 0) f1 f2 (by decide) (by rcases h with h | h <;> subst h <;> simp), decide_eq_false (by omega), decide_eq_false (by omega)]
    decide +kernel
  · rcases h with h | h
    · left; subst h; rw [Int.mul_zero, cx0]; exact isZ_0
    · right; subst h; rw [Int.mul_zero, cx0]; exact isZ_0
theorem sq_nonneg' (z : Int) : 0 ≤ z * z := by
  rcases Int.le_total 0 z with h | h
  · exact Int.mul_nonneg h h
  · have := Int.mul_nonneg (Int.neg_nonneg_of_nonpos h) (Int.neg_nonneg_of_nonpos h)
    rwa [Int.neg_mul_neg] at this
theorem zd_exc : isSubtype (.type "ZeroDivisionError") (.type "BaseException") = pure true := by rw [isSubtype_type]; kernel_rfl
theorem zd_nt : isSubtype (.type ((Manifest.find? "ZeroDivisionError").elim "type" fun y => y.metatype)) (.type "tuple") = pure false := by rw [isSubtype_type]; kernel_rfl
theorem zd_sub : isSubtype (.type "ZeroDivisionError") (.type "ZeroDivisionError") = pure true := by rw [isSubtype_type]; kernel_rfl
theorem corr_both {D1 D2 : Addr} {c1 c2 n Aa : Nat} {tm : Tok} {k1 k2 : Nat → Key × Tok} (h2 : 2 ≤ n) (hn : n ≤ 11) (hk1 : ∀ i j, i < n → j < n → (k1 i).1.ty = (k1 j).1.ty) (hp1 : ∀ i j, i < n → j < n → KeyPair (k1 i) (k1 j)) (hk2 : ∀ i j, i < n → j < n → (k2 i).1.ty = (k2 j).1.ty) (hp2 : ∀ i j, i < n → j < n → KeyPair (k2 i) (k2 j))
   (m1 : (D1, listOf (col k1 n).toArray c1) ∈ news) (m2 : (D2, listOf (col k2 n).toArray c2) ∈ news)
   (G : Gd w mean mg mb A₀ base outer h₀) (F : Fr h₀ L s.heap m) (N : News h₀ L s.heap news)
   (hd : dp + 50 < recursionLimit) (hu : un + 500 < cLine) 
   (hcase : (0 < Aa ∧ Aa < 5000 ∧ psum (fun i => lg k1 n i * lg k1 n i) n = (Aa : Nat) ∧ psum (fun i => lg k2 n i * lg k2 n i) n = (Aa : Nat) ∧
      ∀ h₁ h' (tk' : Nat) t, Gd w mean mg mb A₀ base outer h₁ → KtsTurn (Fs outer) h₀ h₁ → Fr h₁ L h' m → News h₁ L h' news → s.toks ≤ tk' →
      Q (.float (Float64.ofFrac (decide (psum (fun i => lg k1 n i * lg k2 n i) n < 0) != decide ((Aa : Int) < 0)) (psum (fun i => lg k1 n i * lg k2 n i) n).natAbs (Aa : Int).natAbs) t) { s with heap := h', toks := tk' }) ∨
     ((psum (fun i => lg k1 n i * lg k1 n i) n = 0 ∨ psum (fun i => lg k2 n i * lg k2 n i) n = 0) ∧
      ∀ h₁ g h' e t vs tk', Gd w mean mg mb A₀ base outer h₁ → KtsTurn (Fs outer) h₀ h₁ → Fr h₁ L g m → RaisedS base g (envOf cn ⟨.function, nm, ig, ic, mo⟩ L a ccd :: outer) e (.ref 59) t vs news h' →
     g.UpToSlots h' → s.toks ≤ tk' → E (.ref e) { s with heap := h', toks := tk' })) :
   wpAny (model Challenge.rw_ij0174_01.row.prog w) (AT dp un gd cn nm ig ic mo L a ccd outer) (call (.ref 312) [.ref D1, .ref D2] [("method", .str (Str.ofString "ranked") tm)]) Q E s := by
  have G₀ := G
  have hl1 : (col k1 n).length = n := by simp [col]
  have hl2 : (col k2 n).length = n := by simp [col]
  have hn1 : (col k1 n).length < 64 := by rw [hl1]; exact Nat.lt_of_le_of_lt hn (by decide)
  have hn2 : (col k2 n).length < 64 := by rw [hl2]; exact Nat.lt_of_le_of_lt hn (by decide)
  have B := G.B; have X := G.X; have T' := G.T; have XB := G.XB; have TB := G.TB; have D' := G.D
  revert X
  k_fill
  intro X
  refine wpAny_toks (wpAny_call ?_)
  (k_dflt (refine' enterXC ?G ?k2 ?k4 ?T0 ?kA ?kf ?kk ?k6 ?k7 ?k8 ?k9 ?kB ?kD ?_ ?c2 ?c3 ?c4; (case kA => exact rfl); (case kf => exact rfl); (case kk => exact rfl); (case k2 => k_asm); (case G => exact ⟨by assumption, by assumption, by assumption, by assumption, by assumption, by assumption⟩); (case T0 => first | assumption | exact KtsTurn.refl); (case k4 => k_asm); (case k6 => k_is); (case k7 => k_is); (case k8 => k_room); (case k9 => (refine' kp_binds ?kx ?ke; (case kx => k_in); (case ke => exact fun _ => rfl))); (case kB => exact rfl); (case kD => decide +kernel); (case c2 => exact rfl); (case c3 => exact rfl); (case c4 => exact rfl); k_whole; intro g' L' h' tk' cells' FG' F' N' Y' B' X' T' D' l1; (try k_lt l1); k_cells Y'; (try simp only [List.cons_append, List.nil_append] at N'); (try dsimp only); (try k_lift B'); (try k_fold)); refine let_ar ?_; intro ar9)
  refine x1c4 (⟨_, F', by with_unfolding_all rfl, by with_unfolding_all rfl, by with_unfolding_all rfl⟩ : ∃ mm, Fr g' L' h' mm ∧ mm (Str.ofString "x") = some (.ref D1) ∧ mm (Str.ofString "y") = some (.ref D2) ∧ mm (Str.ofString "method") = some (.str (Str.ofString "ranked") tm)) fun mm Fm e1 e2 e3 => ?_
  clear F'
  rename @Eq Data _ _ => dd1
  clear dd1
  rename @Eq Data _ _ => dd2
  clear dd2
  k_steps
  · exfalso; omega
  · exfalso
    have q := start_inf n (Nat.lt_of_le_of_lt hn (by decide)) h2
    rw [← hl1] at q
    simp_all
  · show wpAny _ _ _ _ _ _
    with_unfolding_all refine' rank_half' (key := k1) (n := n) (cls := _) ?hb h2 hn hk1 ?mD hp1 ?G ?F ?N ?hd ?hu ?_
    case hb => rw [hl1]; exact start_hv h2
    case F => k_asm
    case N => k_asm
    case mD => k_mem
    case G => exact ⟨by assumption, by assumption, by assumption, by assumption, by assumption, by assumption⟩
    case hd => k_room
    case hu => k_units
    intro g5 h5 tk5 R1 v1 c5 G5 T5 F5 N5 l5 vl1 hv1 ht5
    have B5 := G5.B; have X5 := G5.X; have P5 := G5.T; have XB5 := G5.XB; have TB5 := G5.TB; have D5 := G5.D
    k_steps
    show wpAny _ _ _ _ _ _
    with_unfolding_all refine' rank_half' (key := k2) (n := n) (cls := _) ?hb h2 hn hk2 ?mD hp2 ?G ?F ?N ?hd ?hu ?_
    case hb => rw [hl1]; exact start_hv h2
    case F => k_asm
    case N => k_asm
    case mD => k_mem
    case G => exact ⟨by assumption, by assumption, by assumption, by assumption, by assumption, by assumption⟩
    case hd => k_room
    case hu => k_units
    intro g6 h6 tk6 R2 v2 c6 G6 T6 F6 N6 l6 vl2 hv2 ht6
    have B6 := G6.B; have X6 := G6.X; have P6 := G6.T; have XB6 := G6.XB; have TB6 := G6.TB; have D6 := G6.D
    k_steps
    show wpAny _ _ _ _ _ _
    with_unfolding_all refine' sum_cols (f := lg k1 n) (g := lg k2 n) (n := n) rfl ?l1 ?l2 (Nat.lt_of_lt_of_le Nat.zero_lt_two h2) hn hv1 hv2 (lg_bound k1 hn) (lg_bound k2 hn) ?m1 ?m2 ?F ?N ?_
    case F => k_asm
    case N => k_asm
    case m1 => k_mem
    case m2 => k_mem
    case l1 => assumption
    case l2 => assumption
    intro h7 tk7 t7 F7 N7 ht7
    k_steps
    show wpAny _ _ _ _ _ _
    with_unfolding_all refine' sum_cols (f := lg k1 n) (g := lg k1 n) (n := n) rfl ?l1 ?l2 (Nat.lt_of_lt_of_le Nat.zero_lt_two h2) hn hv1 hv1 (lg_bound k1 hn) (lg_bound k1 hn) ?m1 ?m2 ?F ?N ?_
    case F => k_asm
    case N => k_asm
    case m1 => k_mem
    case m2 => k_mem
    case l1 => assumption
    case l2 => assumption
    intro h8 tk8 t8 F8 N8 ht8
    k_steps
    show wpAny _ _ _ _ _ _
    with_unfolding_all refine' sum_cols (f := lg k2 n) (g := lg k2 n) (n := n) rfl ?l1 ?l2 (Nat.lt_of_lt_of_le Nat.zero_lt_two h2) hn hv2 hv2 (lg_bound k2 hn) (lg_bound k2 hn) ?m1 ?m2 ?F ?N ?_
    case F => k_asm
    case N => k_asm
    case m1 => k_mem
    case m2 => k_mem
    case l1 => assumption
    case l2 => assumption
    intro h9 tk9 t9 F9 N9 ht9
    k_steps
    first
      | (k_here; refine wpAny_Try_except ?_; k_steps)
      | skip
    have T56 := T5.trans T6
    rcases hcase with hcase | hcase
    · refine Mine.c5 hcase fun hA hA2 hP1 hP2 hQ => ?_
      clear hcase
      rw [hP1, hP2]
      show wpAny _ _ _ _ _ _
      with_unfolding_all refine' sqrtprod_call (cls := _) hA hA2 ?G ?F ?N ?hd ?hu ?_
      case F => k_asm
      case N => k_asm
      case G => exact ⟨by assumption, by assumption, by assumption, by assumption, by assumption, by assumption⟩
      case hd => k_room
      case hu => k_units
      intro h10 tk10 t10 F10 N10 ht10
      have hzz : Float64.isZero (cx (4 * (Aa : Int))) = false := isZero_F (F_cx (nat4 hA2)) (nat4z hA)
      have hdv := div_F (A := psum (fun i => lg k1 n i * lg k2 n i) n) (B := (Aa : Int)) (Int.natCast_pos.mpr hA) (b4 (b121 (psum_bound (f := fun i => lg k1 n i * lg k2 n i) (B := 121) (n := n) fun j _ => mul_bound (lg_bound k1 hn j) (lg_bound k2 hn j)) hn)) (nat4 hA2)
      clear hP1 hP2 hv1 hv2
      k_steps
      rw [hdv]
      exact hQ _ _ _ _ ⟨by assumption, by assumption, by assumption, by assumption, by assumption, by assumption⟩ (by assumption) (by assumption) (by first | assumption | exact (news_drop (by assumption) fun _ hq => .tail _ hq) | exact (news_drop (by assumption) fun _ hq => .tail _ (.tail _ hq)) | exact (news_drop (by assumption) fun _ hq => .tail _ (.tail _ (.tail _ hq))) | exact (news_drop (by assumption) fun _ hq => .tail _ (.tail _ (.tail _ (.tail _ hq)))) | exact (news_drop (by assumption) fun _ hq => .tail _ (.tail _ (.tail _ (.tail _ (.tail _ hq)))))) (by first | assumption | omega | (dsimp only; omega) | (simp only [List.length_cons, List.length_nil]; omega))
    · refine Mine.c2 hcase fun hP hE => ?_
      clear hcase
      show wpAny _ _ _ _ _ _
      have hq1 : 0 ≤ psum (fun i => lg k1 n i * lg k1 n i) n := psum_nonneg fun i _ => sq_nonneg' _
      have hq2 : 0 ≤ psum (fun i => lg k2 n i * lg k2 n i) n := psum_nonneg fun i _ => sq_nonneg' _
      have hb1 := psum_bound (f := fun i => lg k1 n i * lg k1 n i) (B := 121) (n := n) fun j _ => mul_bound (lg_bound k1 hn j) (lg_bound k1 hn j)
      have hb2 := psum_bound (f := fun i => lg k2 n i * lg k2 n i) (B := 121) (n := n) fun j _ => mul_bound (lg_bound k2 hn j) (lg_bound k2 hn j)
      generalize psum (fun i => lg k1 n i * lg k1 n i) n = p1 at *
      generalize psum (fun i => lg k2 n i * lg k2 n i) n = p2 at *
      have hzq := zero_mul_cx hq1 hq2 (b121 hb1 hn) (b121 hb2 hn) hP
      with_unfolding_all refine' sqrtprod_zero (cls := _) hzq.1 hzq.2 ?G ?F ?N ?hd ?hu ?_
      case F => k_asm
      case N => k_asm
      case G => exact ⟨by assumption, by assumption, by assumption, by assumption, by assumption, by assumption⟩
      case hd => k_room
      case hu => k_units
      intro h10 tk10 t10 F10 N10 ht10
      have hzz := isZ_0
      clear hv1 hv2
      k_steps
      · with_unfolding_all refine' caught_newX (cls := _) (T' := "ZeroDivisionError") ?hx ?K ?F ?N ?XB ?TB ?D ?ex ?hv ?hn zd_exc zd_nt zd_sub ?k
        case hx => assumption
        case K => assumption
        case F => assumption
        case N => assumption
        case XB => assumption
        case TB => assumption
        case D => assumption
        case ex => k_is
        case hv => boot_by_name
        case hn => decide
        intro h12 g12 ho12 T12 F12 N12 B12 X12 P12 D12
        have T57 := T56.trans T12
        refine wpAny_execs_cons ?_
        k_dflt (with_unfolding_all refine' Raise_ownXH ?F ?g ?O PySem.F.excBase_ValueError ?h ?_ ?a ?b ?c ?d ?e; (case F => k_asm); (case g => exact TopRead.g (by k_asm)); (case O => exact own_of_in (by k_asm) (by k_asm) (by k_is) (by k_exc)); (case h => rfl); (case a => rfl); (case b => rfl); (case c => rfl); (case d => rfl); (case e => decide); k_whole)
        k_steps
        · obtain ⟨o0, v0, q1, q2, q3, q4⟩ := ho12
          exact ⟨o0, v0, q1, q3, q4⟩
        · rename Heap.MadeExcOf _ _ _ _ _ => mx9
          obtain ⟨hh1, GG1, TT1, FF1⟩ := turnX (env := _) rfl G₀ FG' T57
          with_unfolding_all refine' leave_raiseXH (outer := _) (base := base) ?zf ?zk ?zK ?zx ?zs ?zF ?zN ?_
          case zx => exact mx9
          case zs => rfl
          case zf => rfl
          case zk => rfl
          case zF => assumption
          case zK => assumption
          case zN => k_asm
          intro h9 t9 R9 U9
          try dsimp only at R9 U9 ⊢
          intro htk9
          exact hE _ _ _ _ _ _ _ GG1 TT1 FF1 (raised_drop R9 fun _ hq => by repeat (first | assumption | refine List.Mem.tail _ ?_)) U9 htk9
      · exfalso
        exact absurd hzz ‹_›
end
end Mine
end
-- WRef
section
namespace Mine
theorem rstWRef : True := by (w_top off); trivial
section
variable {w : World} {mean : ExcName → Option Value} {mg mb : Str → Option Value}
   {dp un : Nat} {gd : Option (List Code)} {cn : Str} {nm : List (Str × NameKind)} {ig ic : Bool} {mo : List (Str × Const)} {a : Addr} {ccd : Value} {outer : List Env} {A₀ : Around} {base h₀ : Heap} {L : Addr} {m : Str → Option Value} {s : Shared} {Q E : Value → Shared → Prop} {news : List (Addr × Obj)}
noncomputable def Refuse (news : List (Addr × Obj)) (D1 D2 : Addr) : Prop :=
  (∃ (ws vs : List Value) (c1 c2 : Nat), ws.length < 64 ∧ vs.length < 64 ∧ (vs.length ≠ ws.length ∨ ws.length < 2) ∧ (D1, listOf ws.toArray c1) ∈ news ∧ (D2, listOf vs.toArray c2) ∈ news) ∨
  (∃ (n c1 c2 : Nat) (k1 k2 : Nat → Key × Tok), 2 ≤ n ∧ n ≤ 11 ∧ (∀ i j, i < n → j < n → (k1 i).1.ty = (k1 j).1.ty) ∧ (∀ i j, i < n → j < n → KeyPair (k1 i) (k1 j)) ∧ (∀ i j, i < n → j < n → (k2 i).1.ty = (k2 j).1.ty) ∧ (∀ i j, i < n → j < n → KeyPair (k2 i) (k2 j)) ∧
    (D1, listOf (col k1 n).toArray c1) ∈ news ∧ (D2, listOf (col k2 n).toArray c2) ∈ news ∧ (psum (fun i => lg k1 n i * lg k1 n i) n = 0 ∨ psum (fun i => lg k2 n i * lg k2 n i) n = 0))
theorem Refuse.mono {news news' : List (Addr × Obj)} {D1 D2 : Addr} (R : Refuse news D1 D2) (k : ∀ q ∈ news, q ∈ news') : Refuse news' D1 D2 := by
  rcases R with ⟨ws, vs, c1, c2, a, b, c, d, e⟩ | ⟨n, c1, c2, k1, k2, a, b, c, d, e, f, g, h, i⟩
  · exact .inl ⟨ws, vs, c1, c2, a, b, c, k _ d, k _ e⟩
  · exact .inr ⟨n, c1, c2, k1, k2, a, b, c, d, e, f, k _ g, k _ h, i⟩
theorem corr_raise {D1 D2 : Addr} {tm : Tok} (R : Refuse news D1 D2)
   (G : Gd w mean mg mb A₀ base outer h₀) (F : Fr h₀ L s.heap m) (N : News h₀ L s.heap news)
   (hd : dp + 50 < recursionLimit) (hu : un + 500 < cLine)
   (hE : ∀ h₁ g h' e t vs tk', Gd w mean mg mb A₀ base outer h₁ → KtsTurn (Fs outer) h₀ h₁ → Fr h₁ L g m → RaisedS base g (envOf cn ⟨.function, nm, ig, ic, mo⟩ L a ccd :: outer) e (.ref 59) t vs news h' →
     g.UpToSlots h' → s.toks ≤ tk' → E (.ref e) { s with heap := h', toks := tk' }) :
   wpAny (model Challenge.rw_ij0174_01.row.prog w) (AT dp un gd cn nm ig ic mo L a ccd outer) (call (.ref 312) [.ref D1, .ref D2] [("method", .str (Str.ofString "ranked") tm)]) Q E s := by
  rcases R with ⟨ws, vs, c1, c2, a, b, c, d, e⟩ | ⟨n, c1, c2, k1, k2, a, b, c, d, e, f, g, h, i⟩
  · by_cases q : vs.length ≠ ws.length
    · exact corr_len a b q d e G F N (by omega) (by omega) hE
    · exact corr_one a b (by omega) (by omega) d e G F N (by omega) (by omega) hE
  · exact corr_both (Aa := 0) a b c d e f g h G F N hd hu (.inr ⟨i, hE⟩)
theorem refused_call {D1 D2 : Addr} (R : Refuse news D1 D2)
   (G : Gd w mean mg mb A₀ base outer h₀) (F : Fr h₀ L s.heap m) (N : News h₀ L s.heap news)
   (hd : dp + 60 < recursionLimit) (hu : un + 600 < cLine)
   (hQ : ∀ h₁ h' (tk' : Nat), Gd w mean mg mb A₀ base outer h₁ → KtsTurn (Fs outer) h₀ h₁ → Fr h₁ L h' m → News h₁ L h' news → s.toks ≤ tk' → Q (.bool true) { s with heap := h', toks := tk' }) :
   wpAny (model Challenge.rw_ij0174_01.row.prog w) (AT dp un gd cn nm ig ic mo L a ccd outer) (call (.ref 362) [.ref D1, .ref D2]) Q E s := by
  have G₀ := G
  have B := G.B; have X := G.X; have T' := G.T; have XB := G.XB; have TB := G.TB; have D' := G.D
  revert X
  k_fill
  intro X
  refine wpAny_toks (wpAny_call ?_)
  k_dflt kts_go
  refine let_ar ?_; intro ar9
  k_steps
  show wpAny _ _ _ _ _ _
  with_unfolding_all refine' corr_raise ?zR ?zG ?zF ?zN ?zd ?zu ?_
  case zF => k_asm
  case zN => k_asm
  case zR => exact R.mono fun _ hq => by repeat (first | assumption | refine List.Mem.tail _ ?_)
  case zG => exact ⟨by assumption, by assumption, by assumption, by assumption, by assumption, by assumption⟩
  case zd => k_room
  case zu => k_units
  intro h5 g5 h4 e5 t5 v5 tk4 G5 T5 F5 R5 U5 htk4
  have B5 := G5.B; have X5 := G5.X; have P5 := G5.T; have XB5 := G5.XB; have TB5 := G5.TB; have D5 := G5.D
  k_steps
  exact hQ _ _ _ ⟨by assumption, by assumption, by assumption, by assumption, by assumption, by assumption⟩ (by assumption) (by assumption) (by first | assumption | exact (news_drop (by assumption) fun _ hq => .tail _ hq) | exact (news_drop (by assumption) fun _ hq => .tail _ (.tail _ hq)) | exact (news_drop (by assumption) fun _ hq => .tail _ (.tail _ (.tail _ hq)))) (by first | assumption | omega | (dsimp only; omega) | (simp only [List.length_cons, List.length_nil]; omega))
end
end Mine
end
-- WLa0
section
namespace Mine
theorem rstWLa0 : True := by (w_top off); trivial
section
variable {w : World} {mean : ExcName → Option Value} {mg mb : Str → Option Value}
   {dp un : Nat} {gd : Option (List Code)} {cn : Str} {nm : List (Str × NameKind)} {ig ic : Bool} {mo : List (Str × Const)} {a : Addr} {ccd : Value} {outer : List Env} {A₀ : Around} {base h₀ : Heap} {L : Addr} {m : Str → Option Value} {s : Shared} {Q E : Value → Shared → Prop} {news : List (Addr × Obj)}
noncomputable def lawCode : List Stmt × Scope := match PySem.Challenge.rw_ij0174_01.row.prog.theDef PySem.Challenge.rw_ij0174_01.row.name with
  | some (_, b, sc) => (b, sc)
  | none => ([], default)
theorem lawCode_eq {p : Arguments} {b : List Stmt} {sc : Scope} (h : PySem.Challenge.rw_ij0174_01.row.prog.theDef PySem.Challenge.rw_ij0174_01.row.name = some (p, b, sc)) : lawCode = (b, sc) := by
  unfold lawCode
  rw [h]
noncomputable abbrev lawEnv (qn : Str) (L a : Addr) (cdv : Value) : Env := envOf qn lawCode.2 L a cdv
noncomputable def ColB (v : Nat → Tok → Value) (τ0 : Nat → Nat) (S0 j : Nat) (ys : List Value) (tk : Nat) : Prop :=
  S0 ≤ tk ∧ ∃ τ : Nat → Nat, ys = (List.range j).map (fun i => v i (τ i)) ∧ (∀ i, i < j → (τ i = τ0 i ∨ S0 ≤ τ i) ∧ 0 < τ i ∧ τ i < tk) ∧ ∀ i i', i < i' → i' < j → τ i ≠ τ i'
noncomputable def Col (v : Nat → Tok → Value) (n : Nat) (ys : List Value) (tk : Nat) : Prop :=
  ∃ τ : Nat → Nat, ys = (List.range n).map (fun i => v i (τ i)) ∧ (∀ i, i < n → 0 < τ i ∧ τ i < tk) ∧ ∀ i i', i < i' → i' < n → τ i ≠ τ i'
theorem ColB.col {v : Nat → Tok → Value} {τ0 : Nat → Nat} {S0 j tk : Nat} {ys : List Value} (h : ColB v τ0 S0 j ys tk) : Col v j ys tk := by
  obtain ⟨_, τ, a, b, c⟩ := h
  exact ⟨τ, a, fun i hi => (b i hi).2, c⟩
theorem ColB.start {v : Nat → Tok → Value} {τ0 : Nat → Nat} {S0 : Nat} : ColB v τ0 S0 0 [] S0 := ⟨Nat.le_refl _, fun _ => 0, rfl, fun i hi => absurd hi (Nat.not_lt_zero _), fun i i' _ h => absurd h (Nat.not_lt_zero _)⟩
theorem range_snoc {α : Type} (f g : Nat → α) (j : Nat) (y : α) (h : ∀ i, i < j → g i = f i) (hy : g j = y) : (List.range j).map f ++ [y] = (List.range (j + 1)).map g := by
  rw [List.range_succ, List.map_append, List.map_cons, List.map_nil, hy]
  congr 1
  exact List.map_congr_left fun i hi => (h i (List.mem_range.mp hi)).symm
theorem ColB.next {v : Nat → Tok → Value} {τ0 : Nat → Nat} {S0 j tk tk' u : Nat} {ys : List Value} {y : Value} (hS : 0 < S0) (h : ColB v τ0 S0 j ys tk) (hy : y = v j u) (ht : tk ≤ tk') (hu : (u = τ0 j ∧ 0 < τ0 j ∧ τ0 j < S0 ∧ ∀ i, i < j → τ0 i ≠ τ0 j) ∨ (tk ≤ u ∧ u < tk')) :
    ColB v τ0 S0 (j + 1) (ys ++ [y]) tk' := by
  obtain ⟨h0, τ, rfl, hb, hi⟩ := h
  subst hy
  refine ⟨Nat.le_trans h0 ht, fun i => if i = j then u else τ i, range_snoc _ _ j _ (fun i hi => by simp [Nat.ne_of_lt hi]) (by simp), fun i hi' => ?_, fun i i' hii hi' => ?_⟩
  · by_cases e : i = j
    · subst e
      simp only [if_true]
      rcases hu with ⟨e1, e2, e3, _⟩ | ⟨e1, e2⟩
      · exact ⟨.inl e1, by omega, by omega⟩
      · exact ⟨.inr (by omega), by omega, e2⟩
    · simp only [if_neg e]
      obtain ⟨a, b, c⟩ := hb i (by omega)
      exact ⟨a, b, by omega⟩
  · by_cases e : i' = j
    · subst e
      simp only [if_neg (Nat.ne_of_lt hii), if_true]
      obtain ⟨a, b, c⟩ := hb i hii
      rcases hu with ⟨e1, e2, e3, e4⟩ | ⟨e1, e2⟩
      · rcases a with a | a
        · rw [a, e1]; exact e4 i hii
        · omega
      · omega
    · simp only [if_neg e, if_neg (show i ≠ j by omega)]
      exact hi i i' hii (by omega)
noncomputable def Row (v : Nat → Tok → Value) (n : Nat) (ys : List Value) : Prop := ∃ τ : Nat → Nat, ys = (List.range n).map (fun i => v i (τ i))
theorem Row.next {v : Nat → Tok → Value} {j u : Nat} {ys : List Value} {y : Value} (h : Row v j ys) (hy : y = v j u) : Row v (j + 1) (ys ++ [y]) := by
  obtain ⟨τ, rfl⟩ := h
  subst hy
  exact ⟨fun i => if i = j then u else τ i, range_snoc _ _ j _ (fun i hi => by simp [Nat.ne_of_lt hi]) (by simp)⟩
theorem Col.row {v : Nat → Tok → Value} {n tk : Nat} {ys : List Value} (h : Col v n ys tk) : Row v n ys := by
  obtain ⟨τ, a, _⟩ := h; exact ⟨τ, a⟩
theorem Row.get {v : Nat → Tok → Value} {n i : Nat} {ys : List Value} (h : Row v n ys) (hi : i < n) : ∃ t, ys[i]? = some (v i t) := by
  obtain ⟨τ, rfl⟩ := h; exact ⟨τ i, by simp [hi]⟩
theorem Row.len {v : Nat → Tok → Value} {n : Nat} {ys : List Value} (h : Row v n ys) : ys.length = n := by
  obtain ⟨τ, rfl⟩ := h; simp
theorem Col.len {v : Nat → Tok → Value} {n tk : Nat} {ys : List Value} (h : Col v n ys tk) : ys.length = n := h.row.len
noncomputable def nrm (z : Int) : Int := if (z.natAbs : Int) < 4096 then z else z.fmod 4096
theorem nrm_lt (z : Int) : (nrm z).natAbs < 4096 := by
  unfold nrm
  split
  · omega
  · rw [Int.fmod_eq_emod_of_nonneg _ (by decide)]; omega
noncomputable def nums (zs : List Int) (i : Nat) : Int := if i < min 6 zs.length then nrm (zs.getD i 0) else ([16, -1, 17, 2, -512] : List Int).getD (i - min 6 zs.length) 0
theorem nums_lt (zs : List Int) (i : Nat) : (nums zs i).natAbs < 4096 := by
  unfold nums
  split
  · exact nrm_lt _
  · generalize i - min 6 zs.length = k
    rcases k with _ | _ | _ | _ | _ | k
    · decide
    · decide
    · decide
    · decide
    · decide
    · simp [List.getD]
theorem nums_in {zs : List Int} {i : Nat} (h : i < min 6 zs.length) : nums zs i = nrm (zs.getD i 0) := by unfold nums; rw [if_pos h]
theorem nums_out (zs : List Int) (r : Nat) : nums zs (min 6 zs.length + r) = ([16, -1, 17, 2, -512] : List Int).getD r 0 := by
  unfold nums
  rw [if_neg (by omega)]
  congr 1
  omega
theorem pick_upto (l : List Value) (k : Nat) : kms_pick l none (some ((k : Nat) : Int)) = l.take k := by
  unfold kms_pick kms_lo kms_hi
  have h : ¬ ((k : Nat) : Int) < 0 := by omega
  simp only [h, if_false]
  rw [List.drop_zero]
  rcases Nat.lt_or_ge k l.length with q | q
  · simp
  · simp
theorem pick_from (l : List Value) (k : Nat) : kms_pick l (some ((k : Nat) : Int)) none = l.drop k := by
  unfold kms_pick kms_lo kms_hi
  have h : ¬ ((k : Nat) : Int) < 0 := by omega
  simp only [h, if_false]
  rcases Nat.lt_or_ge k l.length with q | q
  · rw [show min ((k : Nat) : Int).toNat l.length = k by omega]
    rw [List.take_of_length_le (by simp)]
  · rw [List.drop_of_length_le (l := l) (i := k) (by omega), List.drop_of_length_le (by omega)]; simp
theorem execs_app {env : Env} (b : List Stmt) : ∀ a : List Stmt, execs (a ++ b) env = (execs a env >>= fun f => match f with | .next => execs b env | f => pure f)
  | [] => rfl
  | st :: a => by
    show (exec st env >>= fun f => match f with | .next => execs (a ++ b) env | f => pure f) = _
    rw [execs_app b a]
    show (exec st env).bind _ = ((exec st env).bind _).bind _
    rw [Sem.bind_assoc]
    congr 1
    funext f
    cases f <;> rfl
theorem wpAny_app {M : Model} {A : Around} {env : Env} {a b : List Stmt} {Q : Flow → Shared → Prop} (h : wpAny M A (execs a env) (fun f s' => match f with | .next => wpAny M A (execs b env) Q E s' | f => Q f s') E s) : wpAny M A (execs (a ++ b) env) Q E s := by
  rw [execs_app]
  refine wpAny_bind (wpAny_mono h (fun f s' h' => ?_) fun _ _ z => z)
  cases f with
  | next => exact h'
  | _ => exact wpAny_pure h'
theorem Col.five {v : Nat → Tok → Value} {τ0 : Nat → Nat} {S0 k tk : Nat} {ys : List Value} {a b c d e : Int} {t1 t2 t3 t4 t5 tk' : Nat} (hS : 0 < S0) (h : ColB v τ0 S0 k ys tk) (h1 : tk ≤ t1) (h2 : t1 < t2) (h3 : t2 < t3) (h4 : t3 < t4) (h5 : t4 < t5) (h6 : t5 < tk')
   (e1 : v k t1 = .int a t1) (e2 : v (k + 1) t2 = .int b t2) (e3 : v (k + 2) t3 = .int c t3) (e4 : v (k + 3) t4 = .int d t4) (e5 : v (k + 4) t5 = .int e t5) : Col v (k + 5) (ys ++ [.int a t1, .int b t2, .int c t3, .int d t4, .int e t5]) tk' := by
  have := ((((h.next (tk' := t1 + 1) hS e1.symm (by omega) (.inr (by omega))).next (tk' := t2 + 1) hS e2.symm (by omega) (.inr (by omega))).next (tk' := t3 + 1) hS e3.symm (by omega) (.inr (by omega))).next (tk' := t4 + 1) hS e4.symm (by omega) (.inr (by omega))).next (tk' := tk') hS e5.symm (by omega) (.inr (by omega))
  have q := this.col
  simpa using q
theorem Col.mono {v : Nat → Tok → Value} {n tk tk' : Nat} {ys : List Value} (h : Col v n ys tk) (ht : tk ≤ tk') : Col v n ys tk' := by
  obtain ⟨τ, a, b, c⟩ := h
  exact ⟨τ, a, fun i hi => ⟨(b i hi).1, Nat.lt_of_lt_of_le (b i hi).2 ht⟩, c⟩
theorem ne_same {prog : Program} {A : Around} {x y : Addr} {xs ys : List Value} {b : Nat → Array UInt8} {n : Nat} (hx : s.heap.IsList x xs.toArray) (hy : s.heap.IsList y ys.toArray) (rx : Row (fun i t => .bytes (b i) t) n xs) (ry : Row (fun i t => .bytes (b i) t) n ys) (hu : A.units < cLine) (h : Q (.bool false) s) :
    wpAny (model prog w) A (compareOp .NotEq (.ref x) (.ref y)) Q E s := by
  obtain ⟨τ, rfl⟩ := rx
  obtain ⟨σ, rfl⟩ := ry
  refine PySem.SeqAt.RcNeAt.lists (e := fun _ => true) hx hy (by simp) hu (fun j h1 h2 => ?_) prog w E Q ?_
  · intro prog w E Q hq
    simp only [List.getElem_toArray, List.getElem_map, List.getElem_range]
    refine eqBool_bytes ?_
    simpa using hq
  · have : (List.range (List.map (fun i => Value.bytes (b i) (τ i)) (List.range n)).toArray.size).all (fun _ => true) = true := by simp
    rw [this]
    exact h
end
end Mine
end
section
set_option hygiene true in
local macro_rules | `(tactic| walk_at "subscriptTail Name Slice ref ref") => `(tactic| (k_here; k_dflt (refine' kms_slice_lit ?F ?N ?l ?p ?q rfl ?_ ?s ?t ?z; (case F => k_asm); (case N => k_asm); (case l => first | kmk_list | (refine Heap.IsList.mk ?_; k_asm)); (case p => kmk_part); (case q => kmk_part); (case s => with_unfolding_all rfl); (case t => kmk_pure); (case z => first | (rw [sizeLine_eq]; simp; omega) | assumption)); intro D' h' F' N' l1; (try k_lt l1)))
set_option hygiene true in
local macro_rules | `(tactic| walk_at "binaryOp Add ref ref") => `(tactic| (k_here; k_dflt (refine' kmk_add_lit ?F ?N ?a ?b rfl ?_ ?z; (case F => k_asm); (case N => k_asm); (case a => kmk_list); (case b => kmk_list); (case z => first | (rw [sizeLine_eq]; simp; omega) | (rw [sizeLine_eq]; simp [*]; omega))); intro D' h' F' N' l1; (try k_lt l1)))
local macro_rules | `(tactic| walk_at "compareOp NotEq ref ref") => `(tactic| (k_here; refine stop_here ?_))
local macro_rules | `(tactic| walk_at "call builtin:len") => callM `len_listOf 3 0 "argi" [] ""
set_option hygiene true in
local macro_rules | `(tactic| walk_at "execs cons") => `(tactic| ((with_reducible refine execs_cons_tok ?_); try dsimp only))
-- WLa
section
namespace Mine
theorem rstWLa : True := by (w_top off); trivial
section
variable {w : World} {mean : ExcName → Option Value} {mg mb : Str → Option Value}
   {dp un : Nat} {gd : Option (List Code)} {cn : Str} {nm : List (Str × NameKind)} {ig ic : Bool} {mo : List (Str × Const)} {a : Addr} {ccd : Value} {outer : List Env} {A₀ : Around} {base h₀ : Heap} {L : Addr} {m : Str → Option Value} {s : Shared} {Q E : Value → Shared → Prop} {news : List (Addr × Obj)}
noncomputable def CJ (NW : List (Addr × Obj)) (v : Nat → Tok → Value) (τ0 : Nat → Nat) (S0 n : Nat) (j : Nat) (ys : List Value) (nw : List (Addr × Obj)) (tk : Nat) : Prop := nw = NW ∧ j ≤ n ∧ ColB v τ0 S0 j ys tk
noncomputable def RJ (NW : List (Addr × Obj)) (v : Nat → Tok → Value) (n : Nat) (j : Nat) (ys : List Value) (nw : List (Addr × Obj)) (_tk : Nat) : Prop := nw = NW ∧ j ≤ n ∧ Row v j ys
theorem map_at {v : Nat → Value} {n j : Nat} {x : Value} (h : ((List.range n).map v)[j]? = some x) : j < n ∧ x = v j := by
  have hj : j < n := by have := (List.getElem?_eq_some_iff.mp h).1; simpa using this
  exact ⟨hj, by simpa [hj] using h.symm⟩
inductive St1 (zs : List Int) (n : Nat) (m : Str → Option Value) (news : List (Addr × Obj)) (tk : Nat) : Prop
  | mk (NV SV WV PV : Addr) (nv sv wv pv : List Value) (p1 : m (Str.ofString "numbers") = some (.ref NV)) (p2 : m (Str.ofString "sizes") = some (.ref SV)) (p3 : m (Str.ofString "words") = some (.ref WV)) (p4 : m (Str.ofString "plain") = some (.ref PV)) (p5 : (NV, listOf nv.toArray 0) ∈ news) (p6 : (SV, listOf sv.toArray n) ∈ news) (p7 : (WV, listOf wv.toArray n) ∈ news) (p8 : (PV, listOf pv.toArray n) ∈ news) (p9 : Col (fun i t => .int (nums zs i) t) n nv tk) (p10 : Col (fun i t => .int (((nums zs i).natAbs : Nat) : Int) t) n sv tk) (p11 : Col (fun i t => .bytes (wordOf (nums zs i).natAbs).toArray t) n wv tk) (p12 : Row (fun i t => .bytes (wordOf (nums zs i).natAbs).toArray t) n pv) : St1 zs n m news tk
theorem law_A {Q : Flow → Shared → Prop} {qn : Str} {L a : Addr} {cdv : Value} {D : Addr} {ws : List Value} {zs : List Int} {τ0 : Nat → Nat} (hn : zs.length < 64) (hI : ws = (List.range zs.length).map fun i => Value.int (zs.getD i 0) (τ0 i)) (hτ : ∀ i, i < zs.length → 0 < τ0 i ∧ τ0 i < s.toks) (hτi : ∀ i i', i < i' → i' < zs.length → τ0 i ≠ τ0 i') (hD : h₀.IsList D ws.toArray)
   (G : Gd w mean mg mb callerA base [] h₀) (F₀ : Fr h₀ L s.heap m) (N₀ : News h₀ L s.heap []) (hm : m (Str.ofString "script") = some (.ref D))
   (hQ : ∀ h' (tk' : Nat) m' news', Fr h₀ L h' m' → News h₀ L h' news' → St1 zs (min 6 zs.length + 5) m' news' tk' → s.toks ≤ tk' → Q .next { s with heap := h', toks := tk' }) :
   wpAny (model Challenge.rw_ij0174_01.row.prog w) (callerA.deeper (lawEnv qn L a cdv)) (execs ((lawCode.1.drop 0).take 5) (lawEnv qn L a cdv)) Q E s := by
  have hlw : ws.length = zs.length := by rw [hI]; simp
  have B := G.B; have X := G.X; have T' := G.T; have XB := G.XB; have TB := G.TB; have D' := G.D
  unfold lawEnv
  rw [lawCode_eq ?zo]
  case zo => rfl
  dsimp only [List.drop, List.take]
  revert X
  k_fill
  intro X
  refine let_ar ?_; intro ar9
  k_steps
  rename_i kD kh kF kN kl
  have kN2 : News h₀ L kh [(kD, listOf (ws.take 6).toArray 0)] := by rw [← show kms_pick ws none (some 6) = ws.take 6 from pick_upto ws 6]; exact kN
  clear kN
  show wpAny _ _ _ _ _ _
  refine pyIter_N kF kN2 (by k_mem) ?_
  intro I h1 F1 N1 l1
  refine compIn_listF (ws := ws.take 6) (CJ _ (fun i t => .int (nums zs i) t) τ0 (s.toks + 1) (min 6 zs.length)) (fun _ _ _ _ h => h) rfl (by rw [List.length_take]; ((try dsimp only); first | assumption | exact om1 ‹_› ‹_› rfl | exact om1 rfl ‹_› rfl | exact om3 ‹_› ‹_› rfl | exact om3 rfl ‹_› rfl | exact om2 ‹_› ‹_› rfl | exact om2 rfl ‹_› rfl | exact om14 ‹_› rfl | exact om15 ‹_› | exact om16 ‹_› ‹_› | exact om17 ‹_› ‹_› rfl | exact om9 ‹_› ‹_› | exact om24 ‹_› ‹_› | ((try refine And.intro ?_ ?_); (all_goals ((try show _ + 1 ≤ _); (iterate 20 (try first | exact Nat.le_refl _ | exact Nat.zero_le _ | assumption | refine om20 (by k_asm) ?_ | refine om21 (by k_asm) ?_ | (with_reducible show _ + 1 ≤ _ + 1; refine Nat.succ_le_succ ?_) | (with_reducible show _ ≤ _ + _; refine Nat.le_succ_of_le ?_) | refine om20 (om13 (by k_asm)) ?_ | refine om21 (om13 (by k_asm)) ?_ | refine om20 (A1 (by k_asm)) ?_ | refine om21 (A1 (by k_asm)) ?_)); done))) | omega)) (fun j ys tk hj => ⟨by rw [hj.2.col.len]; exact Nat.le_refl _, by have := hj.1; rw [List.length_take]; ((try dsimp only); first | assumption | exact om1 ‹_› ‹_› rfl | exact om1 rfl ‹_› rfl | exact om3 ‹_› ‹_› rfl | exact om3 rfl ‹_› rfl | exact om2 ‹_› ‹_› rfl | exact om2 rfl ‹_› rfl | exact om14 ‹_› rfl | exact om15 ‹_› | exact om16 ‹_› ‹_› | exact om17 ‹_› ‹_› rfl | exact om9 ‹_› ‹_› | exact om24 ‹_› ‹_› | ((try refine And.intro ?_ ?_); (all_goals ((try show _ + 1 ≤ _); (iterate 20 (try first | exact Nat.le_refl _ | exact Nat.zero_le _ | assumption | refine om20 (by k_asm) ?_ | refine om21 (by k_asm) ?_ | (with_reducible show _ + 1 ≤ _ + 1; refine Nat.succ_le_succ ?_) | (with_reducible show _ ≤ _ + _; refine Nat.le_succ_of_le ?_) | refine om20 (om13 (by k_asm)) ?_ | refine om21 (om13 (by k_asm)) ?_ | refine om20 (A1 (by k_asm)) ?_ | refine om21 (A1 (by k_asm)) ?_)); done))) | omega)⟩) (by k_mem) F1 N1 (fun q hq => Nat.ne_of_lt (l1 q hq)) ⟨rfl, Nat.zero_le _, by exact ColB.start⟩ ?turn ?fin
  case turn =>
    intro C D' j ys h tk oC m₁ x E' hJ hx F2 hoC N2 off2 offI hCD hCL hDL hCI hDI
    have hj := hJ.1; have hC := hJ.2; clear hJ
    have hj6 : j < 6 ∧ j < zs.length := by have := (List.getElem?_eq_some_iff.mp hx).1; rw [List.length_take] at this; ((try dsimp only); first | assumption | exact om1 ‹_› ‹_› rfl | exact om1 rfl ‹_› rfl | exact om3 ‹_› ‹_› rfl | exact om3 rfl ‹_› rfl | exact om2 ‹_› ‹_› rfl | exact om2 rfl ‹_› rfl | exact om14 ‹_› rfl | exact om15 ‹_› | exact om16 ‹_› ‹_› | exact om17 ‹_› ‹_› rfl | exact om9 ‹_› ‹_› | exact om24 ‹_› ‹_› | ((try refine And.intro ?_ ?_); (all_goals ((try show _ + 1 ≤ _); (iterate 20 (try first | exact Nat.le_refl _ | exact Nat.zero_le _ | assumption | refine om20 (by k_asm) ?_ | refine om21 (by k_asm) ?_ | (with_reducible show _ + 1 ≤ _ + 1; refine Nat.succ_le_succ ?_) | (with_reducible show _ ≤ _ + _; refine Nat.le_succ_of_le ?_) | refine om20 (om13 (by k_asm)) ?_ | refine om21 (om13 (by k_asm)) ?_ | refine om20 (A1 (by k_asm)) ?_ | refine om21 (A1 (by k_asm)) ?_)); done))) | omega)
    obtain rfl : x = .int (zs.getD j 0) (τ0 j) := by
      rw [List.getElem?_take_of_lt hj6.1, hI] at hx
      exact (map_at hx).2
    refine bind_name (by rfl) rfl hoC N2 (off_of hCD hCI off2) F2 ?_
    intro h3 oC3 m3 F3 hoC3 hm3 N3
    refine no_test rfl ?_
    have hz := hτ j hj6.2
    have hz2 : ∀ i, i < j → τ0 i ≠ τ0 j := fun i hi => hτi i j hi hj6.2
    have hnj : nums zs j = nrm (zs.getD j 0) := nums_in (by ((try dsimp only); first | assumption | exact om1 ‹_› ‹_› rfl | exact om1 rfl ‹_› rfl | exact om3 ‹_› ‹_› rfl | exact om3 rfl ‹_› rfl | exact om2 ‹_› ‹_› rfl | exact om2 rfl ‹_› rfl | exact om14 ‹_› rfl | exact om15 ‹_› | exact om16 ‹_› ‹_› | exact om17 ‹_› ‹_› rfl | exact om9 ‹_› ‹_› | exact om24 ‹_› ‹_› | ((try refine And.intro ?_ ?_); (all_goals ((try show _ + 1 ≤ _); (iterate 20 (try first | exact Nat.le_refl _ | exact Nat.zero_le _ | assumption | refine om20 (by k_asm) ?_ | refine om21 (by k_asm) ?_ | (with_reducible show _ + 1 ≤ _ + 1; refine Nat.succ_le_succ ?_) | (with_reducible show _ ≤ _ + _; refine Nat.le_succ_of_le ?_) | refine om20 (om13 (by k_asm)) ?_ | refine om21 (om13 (by k_asm)) ?_ | refine om20 (A1 (by k_asm)) ?_ | refine om21 (A1 (by k_asm)) ?_)); done))) | omega))
    k_steps
    · refine CBack.fin F3 hoC3 N3 (fun q hq => hq) off2 hCI hDI ⟨_, rfl, offI, rfl, by ((try dsimp only); first | assumption | exact om1 ‹_› ‹_› rfl | exact om1 rfl ‹_› rfl | exact om3 ‹_› ‹_› rfl | exact om3 rfl ‹_› rfl | exact om2 ‹_› ‹_› rfl | exact om2 rfl ‹_› rfl | exact om14 ‹_› rfl | exact om15 ‹_› | exact om16 ‹_› ‹_› | exact om17 ‹_› ‹_› rfl | exact om9 ‹_› ‹_› | exact om24 ‹_› ‹_› | ((try refine And.intro ?_ ?_); (all_goals ((try show _ + 1 ≤ _); (iterate 20 (try first | exact Nat.le_refl _ | exact Nat.zero_le _ | assumption | refine om20 (by k_asm) ?_ | refine om21 (by k_asm) ?_ | (with_reducible show _ + 1 ≤ _ + 1; refine Nat.succ_le_succ ?_) | (with_reducible show _ ≤ _ + _; refine Nat.le_succ_of_le ?_) | refine om20 (om13 (by k_asm)) ?_ | refine om21 (om13 (by k_asm)) ?_ | refine om20 (A1 (by k_asm)) ?_ | refine om21 (A1 (by k_asm)) ?_)); done))) | omega), ColB.next (u := τ0 j) (by ((try dsimp only); first | assumption | exact om1 ‹_› ‹_› rfl | exact om1 rfl ‹_› rfl | exact om3 ‹_› ‹_› rfl | exact om3 rfl ‹_› rfl | exact om2 ‹_› ‹_› rfl | exact om2 rfl ‹_› rfl | exact om14 ‹_› rfl | exact om15 ‹_› | exact om16 ‹_› ‹_› | exact om17 ‹_› ‹_› rfl | exact om9 ‹_› ‹_› | exact om24 ‹_› ‹_› | ((try refine And.intro ?_ ?_); (all_goals ((try show _ + 1 ≤ _); (iterate 20 (try first | exact Nat.le_refl _ | exact Nat.zero_le _ | assumption | refine om20 (by k_asm) ?_ | refine om21 (by k_asm) ?_ | (with_reducible show _ + 1 ≤ _ + 1; refine Nat.succ_le_succ ?_) | (with_reducible show _ ≤ _ + _; refine Nat.le_succ_of_le ?_) | refine om20 (om13 (by k_asm)) ?_ | refine om21 (om13 (by k_asm)) ?_ | refine om20 (A1 (by k_asm)) ?_ | refine om21 (A1 (by k_asm)) ?_)); done))) | omega)) hC (by rw [hnj]; unfold nrm; rw [if_pos (by assumption)]) (by dsimp only at *; ((try dsimp only); first | assumption | exact om1 ‹_› ‹_› rfl | exact om1 rfl ‹_› rfl | exact om3 ‹_› ‹_› rfl | exact om3 rfl ‹_› rfl | exact om2 ‹_› ‹_› rfl | exact om2 rfl ‹_› rfl | exact om14 ‹_› rfl | exact om15 ‹_› | exact om16 ‹_› ‹_› | exact om17 ‹_› ‹_› rfl | exact om9 ‹_› ‹_› | exact om24 ‹_› ‹_› | ((try refine And.intro ?_ ?_); (all_goals ((try show _ + 1 ≤ _); (iterate 20 (try first | exact Nat.le_refl _ | exact Nat.zero_le _ | assumption | refine om20 (by k_asm) ?_ | refine om21 (by k_asm) ?_ | (with_reducible show _ + 1 ≤ _ + 1; refine Nat.succ_le_succ ?_) | (with_reducible show _ ≤ _ + _; refine Nat.le_succ_of_le ?_) | refine om20 (om13 (by k_asm)) ?_ | refine om21 (om13 (by k_asm)) ?_ | refine om20 (A1 (by k_asm)) ?_ | refine om21 (A1 (by k_asm)) ?_)); done))) | omega)) (.inl ⟨rfl, hz.1, by ((try dsimp only); first | assumption | exact om1 ‹_› ‹_› rfl | exact om1 rfl ‹_› rfl | exact om3 ‹_› ‹_› rfl | exact om3 rfl ‹_› rfl | exact om2 ‹_› ‹_› rfl | exact om2 rfl ‹_› rfl | exact om14 ‹_› rfl | exact om15 ‹_› | exact om16 ‹_› ‹_› | exact om17 ‹_› ‹_› rfl | exact om9 ‹_› ‹_› | exact om24 ‹_› ‹_› | ((try refine And.intro ?_ ?_); (all_goals ((try show _ + 1 ≤ _); (iterate 20 (try first | exact Nat.le_refl _ | exact Nat.zero_le _ | assumption | refine om20 (by k_asm) ?_ | refine om21 (by k_asm) ?_ | (with_reducible show _ + 1 ≤ _ + 1; refine Nat.succ_le_succ ?_) | (with_reducible show _ ≤ _ + _; refine Nat.le_succ_of_le ?_) | refine om20 (om13 (by k_asm)) ?_ | refine om21 (om13 (by k_asm)) ?_ | refine om20 (A1 (by k_asm)) ?_ | refine om21 (A1 (by k_asm)) ?_)); done))) | omega), hz2⟩)⟩
    · refine CBack.fin F3 hoC3 N3 (fun q hq => hq) off2 hCI hDI ⟨_, rfl, offI, rfl, by ((try dsimp only); first | assumption | exact om1 ‹_› ‹_› rfl | exact om1 rfl ‹_› rfl | exact om3 ‹_› ‹_› rfl | exact om3 rfl ‹_› rfl | exact om2 ‹_› ‹_› rfl | exact om2 rfl ‹_› rfl | exact om14 ‹_› rfl | exact om15 ‹_› | exact om16 ‹_› ‹_› | exact om17 ‹_› ‹_› rfl | exact om9 ‹_› ‹_› | exact om24 ‹_› ‹_› | ((try refine And.intro ?_ ?_); (all_goals ((try show _ + 1 ≤ _); (iterate 20 (try first | exact Nat.le_refl _ | exact Nat.zero_le _ | assumption | refine om20 (by k_asm) ?_ | refine om21 (by k_asm) ?_ | (with_reducible show _ + 1 ≤ _ + 1; refine Nat.succ_le_succ ?_) | (with_reducible show _ ≤ _ + _; refine Nat.le_succ_of_le ?_) | refine om20 (om13 (by k_asm)) ?_ | refine om21 (om13 (by k_asm)) ?_ | refine om20 (A1 (by k_asm)) ?_ | refine om21 (A1 (by k_asm)) ?_)); done))) | omega), ColB.next (by ((try dsimp only); first | assumption | exact om1 ‹_› ‹_› rfl | exact om1 rfl ‹_› rfl | exact om3 ‹_› ‹_› rfl | exact om3 rfl ‹_› rfl | exact om2 ‹_› ‹_› rfl | exact om2 rfl ‹_› rfl | exact om14 ‹_› rfl | exact om15 ‹_› | exact om16 ‹_› ‹_› | exact om17 ‹_› ‹_› rfl | exact om9 ‹_› ‹_› | exact om24 ‹_› ‹_› | ((try refine And.intro ?_ ?_); (all_goals ((try show _ + 1 ≤ _); (iterate 20 (try first | exact Nat.le_refl _ | exact Nat.zero_le _ | assumption | refine om20 (by k_asm) ?_ | refine om21 (by k_asm) ?_ | (with_reducible show _ + 1 ≤ _ + 1; refine Nat.succ_le_succ ?_) | (with_reducible show _ ≤ _ + _; refine Nat.le_succ_of_le ?_) | refine om20 (om13 (by k_asm)) ?_ | refine om21 (om13 (by k_asm)) ?_ | refine om20 (A1 (by k_asm)) ?_ | refine om21 (A1 (by k_asm)) ?_)); done))) | omega)) hC (by rw [hnj]; unfold nrm; rw [if_neg (by assumption)]) (by dsimp only at *; ((try dsimp only); first | assumption | exact om1 ‹_› ‹_› rfl | exact om1 rfl ‹_› rfl | exact om3 ‹_› ‹_› rfl | exact om3 rfl ‹_› rfl | exact om2 ‹_› ‹_› rfl | exact om2 rfl ‹_› rfl | exact om14 ‹_› rfl | exact om15 ‹_› | exact om16 ‹_› ‹_› | exact om17 ‹_› ‹_› rfl | exact om9 ‹_› ‹_› | exact om24 ‹_› ‹_› | ((try refine And.intro ?_ ?_); (all_goals ((try show _ + 1 ≤ _); (iterate 20 (try first | exact Nat.le_refl _ | exact Nat.zero_le _ | assumption | refine om20 (by k_asm) ?_ | refine om21 (by k_asm) ?_ | (with_reducible show _ + 1 ≤ _ + 1; refine Nat.succ_le_succ ?_) | (with_reducible show _ ≤ _ + _; refine Nat.le_succ_of_le ?_) | refine om20 (om13 (by k_asm)) ?_ | refine om21 (om13 (by k_asm)) ?_ | refine om20 (A1 (by k_asm)) ?_ | refine om21 (A1 (by k_asm)) ?_)); done))) | omega)) (.inr (by dsimp only at *; ((try dsimp only); first | assumption | exact om1 ‹_› ‹_› rfl | exact om1 rfl ‹_› rfl | exact om3 ‹_› ‹_› rfl | exact om3 rfl ‹_› rfl | exact om2 ‹_› ‹_› rfl | exact om2 rfl ‹_› rfl | exact om14 ‹_› rfl | exact om15 ‹_› | exact om16 ‹_› ‹_› | exact om17 ‹_› ‹_› rfl | exact om9 ‹_› ‹_› | exact om24 ‹_› ‹_› | ((try refine And.intro ?_ ?_); (all_goals ((try show _ + 1 ≤ _); (iterate 20 (try first | exact Nat.le_refl _ | exact Nat.zero_le _ | assumption | refine om20 (by k_asm) ?_ | refine om21 (by k_asm) ?_ | (with_reducible show _ + 1 ≤ _ + 1; refine Nat.succ_le_succ ?_) | (with_reducible show _ ≤ _ + _; refine Nat.le_succ_of_le ?_) | refine om20 (om13 (by k_asm)) ?_ | refine om21 (om13 (by k_asm)) ?_ | refine om20 (A1 (by k_asm)) ?_ | refine om21 (A1 (by k_asm)) ?_)); done))) | omega)))⟩
  case fin =>
    intro ys tk hJ
    have hj := hJ.1; have hC := hJ.2; clear hJ
    intro D' h F3 N3 offD
    have hlt : (ws.take 6).length = min 6 zs.length := by rw [List.length_take]; ((try dsimp only); first | assumption | exact om1 ‹_› ‹_› rfl | exact om1 rfl ‹_› rfl | exact om3 ‹_› ‹_› rfl | exact om3 rfl ‹_› rfl | exact om2 ‹_› ‹_› rfl | exact om2 rfl ‹_› rfl | exact om14 ‹_› rfl | exact om15 ‹_› | exact om16 ‹_› ‹_› | exact om17 ‹_› ‹_› rfl | exact om9 ‹_› ‹_› | exact om24 ‹_› ‹_› | ((try refine And.intro ?_ ?_); (all_goals ((try show _ + 1 ≤ _); (iterate 20 (try first | exact Nat.le_refl _ | exact Nat.zero_le _ | assumption | refine om20 (by k_asm) ?_ | refine om21 (by k_asm) ?_ | (with_reducible show _ + 1 ≤ _ + 1; refine Nat.succ_le_succ ?_) | (with_reducible show _ ≤ _ + _; refine Nat.le_succ_of_le ?_) | refine om20 (om13 (by k_asm)) ?_ | refine om21 (om13 (by k_asm)) ?_ | refine om20 (A1 (by k_asm)) ?_ | refine om21 (A1 (by k_asm)) ?_)); done))) | omega)
    rw [hlt] at hC
    have hly : ys.length = min 6 zs.length := hC.col.len
    k_steps
    rename_i kL kh2 kl2 NV kh3 kl3 kh4 kF4 kN4 ktk
    have hC5 : Col (fun i t => .int (nums zs i) t) (min 6 zs.length + 5) (ys ++ [.int 16 tk, .int (-1) (tk + 1 + 1), .int 17 (tk + 1 + 1 + 1), .int 2 (tk + 1 + 1 + 1 + 1), .int (-512) (tk + 1 + 1 + 1 + 1 + 1 + 1)]) (tk + 1 + 1 + 1 + 1 + 1 + 1 + 1) :=
      Col.five (by ((try dsimp only); first | assumption | exact om1 ‹_› ‹_› rfl | exact om1 rfl ‹_› rfl | exact om3 ‹_› ‹_› rfl | exact om3 rfl ‹_› rfl | exact om2 ‹_› ‹_› rfl | exact om2 rfl ‹_› rfl | exact om14 ‹_› rfl | exact om15 ‹_› | exact om16 ‹_› ‹_› | exact om17 ‹_› ‹_› rfl | exact om9 ‹_› ‹_› | exact om24 ‹_› ‹_› | ((try refine And.intro ?_ ?_); (all_goals ((try show _ + 1 ≤ _); (iterate 20 (try first | exact Nat.le_refl _ | exact Nat.zero_le _ | assumption | refine om20 (by k_asm) ?_ | refine om21 (by k_asm) ?_ | (with_reducible show _ + 1 ≤ _ + 1; refine Nat.succ_le_succ ?_) | (with_reducible show _ ≤ _ + _; refine Nat.le_succ_of_le ?_) | refine om20 (om13 (by k_asm)) ?_ | refine om21 (om13 (by k_asm)) ?_ | refine om20 (A1 (by k_asm)) ?_ | refine om21 (A1 (by k_asm)) ?_)); done))) | omega)) hC (Nat.le_refl _) (by ((try dsimp only); first | assumption | exact om1 ‹_› ‹_› rfl | exact om1 rfl ‹_› rfl | exact om3 ‹_› ‹_› rfl | exact om3 rfl ‹_› rfl | exact om2 ‹_› ‹_› rfl | exact om2 rfl ‹_› rfl | exact om14 ‹_› rfl | exact om15 ‹_› | exact om16 ‹_› ‹_› | exact om17 ‹_› ‹_› rfl | exact om9 ‹_› ‹_› | exact om24 ‹_› ‹_› | ((try refine And.intro ?_ ?_); (all_goals ((try show _ + 1 ≤ _); (iterate 20 (try first | exact Nat.le_refl _ | exact Nat.zero_le _ | assumption | refine om20 (by k_asm) ?_ | refine om21 (by k_asm) ?_ | (with_reducible show _ + 1 ≤ _ + 1; refine Nat.succ_le_succ ?_) | (with_reducible show _ ≤ _ + _; refine Nat.le_succ_of_le ?_) | refine om20 (om13 (by k_asm)) ?_ | refine om21 (om13 (by k_asm)) ?_ | refine om20 (A1 (by k_asm)) ?_ | refine om21 (A1 (by k_asm)) ?_)); done))) | omega)) (by ((try dsimp only); first | assumption | exact om1 ‹_› ‹_› rfl | exact om1 rfl ‹_› rfl | exact om3 ‹_› ‹_› rfl | exact om3 rfl ‹_› rfl | exact om2 ‹_› ‹_› rfl | exact om2 rfl ‹_› rfl | exact om14 ‹_› rfl | exact om15 ‹_› | exact om16 ‹_› ‹_› | exact om17 ‹_› ‹_› rfl | exact om9 ‹_› ‹_› | exact om24 ‹_› ‹_› | ((try refine And.intro ?_ ?_); (all_goals ((try show _ + 1 ≤ _); (iterate 20 (try first | exact Nat.le_refl _ | exact Nat.zero_le _ | assumption | refine om20 (by k_asm) ?_ | refine om21 (by k_asm) ?_ | (with_reducible show _ + 1 ≤ _ + 1; refine Nat.succ_le_succ ?_) | (with_reducible show _ ≤ _ + _; refine Nat.le_succ_of_le ?_) | refine om20 (om13 (by k_asm)) ?_ | refine om21 (om13 (by k_asm)) ?_ | refine om20 (A1 (by k_asm)) ?_ | refine om21 (A1 (by k_asm)) ?_)); done))) | omega)) (by ((try dsimp only); first | assumption | exact om1 ‹_› ‹_› rfl | exact om1 rfl ‹_› rfl | exact om3 ‹_› ‹_› rfl | exact om3 rfl ‹_› rfl | exact om2 ‹_› ‹_› rfl | exact om2 rfl ‹_› rfl | exact om14 ‹_› rfl | exact om15 ‹_› | exact om16 ‹_› ‹_› | exact om17 ‹_› ‹_› rfl | exact om9 ‹_› ‹_› | exact om24 ‹_› ‹_› | ((try refine And.intro ?_ ?_); (all_goals ((try show _ + 1 ≤ _); (iterate 20 (try first | exact Nat.le_refl _ | exact Nat.zero_le _ | assumption | refine om20 (by k_asm) ?_ | refine om21 (by k_asm) ?_ | (with_reducible show _ + 1 ≤ _ + 1; refine Nat.succ_le_succ ?_) | (with_reducible show _ ≤ _ + _; refine Nat.le_succ_of_le ?_) | refine om20 (om13 (by k_asm)) ?_ | refine om21 (om13 (by k_asm)) ?_ | refine om20 (A1 (by k_asm)) ?_ | refine om21 (A1 (by k_asm)) ?_)); done))) | omega)) (by ((try dsimp only); first | assumption | exact om1 ‹_› ‹_› rfl | exact om1 rfl ‹_› rfl | exact om3 ‹_› ‹_› rfl | exact om3 rfl ‹_› rfl | exact om2 ‹_› ‹_› rfl | exact om2 rfl ‹_› rfl | exact om14 ‹_› rfl | exact om15 ‹_› | exact om16 ‹_› ‹_› | exact om17 ‹_› ‹_› rfl | exact om9 ‹_› ‹_› | exact om24 ‹_› ‹_› | ((try refine And.intro ?_ ?_); (all_goals ((try show _ + 1 ≤ _); (iterate 20 (try first | exact Nat.le_refl _ | exact Nat.zero_le _ | assumption | refine om20 (by k_asm) ?_ | refine om21 (by k_asm) ?_ | (with_reducible show _ + 1 ≤ _ + 1; refine Nat.succ_le_succ ?_) | (with_reducible show _ ≤ _ + _; refine Nat.le_succ_of_le ?_) | refine om20 (om13 (by k_asm)) ?_ | refine om21 (om13 (by k_asm)) ?_ | refine om20 (A1 (by k_asm)) ?_ | refine om21 (A1 (by k_asm)) ?_)); done))) | omega)) (by ((try dsimp only); first | assumption | exact om1 ‹_› ‹_› rfl | exact om1 rfl ‹_› rfl | exact om3 ‹_› ‹_› rfl | exact om3 rfl ‹_› rfl | exact om2 ‹_› ‹_› rfl | exact om2 rfl ‹_› rfl | exact om14 ‹_› rfl | exact om15 ‹_› | exact om16 ‹_› ‹_› | exact om17 ‹_› ‹_› rfl | exact om9 ‹_› ‹_› | exact om24 ‹_› ‹_› | ((try refine And.intro ?_ ?_); (all_goals ((try show _ + 1 ≤ _); (iterate 20 (try first | exact Nat.le_refl _ | exact Nat.zero_le _ | assumption | refine om20 (by k_asm) ?_ | refine om21 (by k_asm) ?_ | (with_reducible show _ + 1 ≤ _ + 1; refine Nat.succ_le_succ ?_) | (with_reducible show _ ≤ _ + _; refine Nat.le_succ_of_le ?_) | refine om20 (om13 (by k_asm)) ?_ | refine om21 (om13 (by k_asm)) ?_ | refine om20 (A1 (by k_asm)) ?_ | refine om21 (A1 (by k_asm)) ?_)); done))) | omega)) (congrArg (Value.int · _) (nums_out zs 0)) (congrArg (Value.int · _) (nums_out zs 1)) (congrArg (Value.int · _) (nums_out zs 2)) (congrArg (Value.int · _) (nums_out zs 3)) (congrArg (Value.int · _) (nums_out zs 4))
    obtain ⟨nv, hnv⟩ : ∃ nv, nv = ys ++ [.int 16 tk, .int (-1) (tk + 1 + 1), .int 17 (tk + 1 + 1 + 1), .int 2 (tk + 1 + 1 + 1 + 1), .int (-512) (tk + 1 + 1 + 1 + 1 + 1 + 1)] := ⟨_, rfl⟩
    rw [← hnv] at hC5
    have kN5 : News h₀ L kh4 [(NV, listOf nv.toArray 0)] := fun q hq => by
      have := kN4 q
      rw [hnv] at hq
      refine this ?_
      rcases List.mem_singleton.mp hq with rfl
      exact List.mem_cons_self
    clear kN4 hnv
    show wpAny _ _ _ _ _ _
    generalize hnn : min 6 zs.length + 5 = n at hQ hC5
    have hn64 : n < 12 ∧ 5 ≤ n := om23 hnn
    clear hnn hlt hly
    refine x1c3 hC5 fun τn hnv hb hi => ?_
    have hnvl : nv.length = n := by rw [hnv]; simp
    refine pyIter_N kF4 kN5 (by k_mem) ?_
    intro I2 h12 F12 N12 l12
    refine compIn_listF (ws := nv) (CJ _ (fun i t => .int (((nums zs i).natAbs : Nat) : Int) t) τn (tk + 1 + 1 + 1 + 1 + 1 + 1 + 1 + 1) n) (fun _ _ _ _ h => h) rfl (by ((try dsimp only); first | assumption | exact om1 ‹_› ‹_› rfl | exact om1 rfl ‹_› rfl | exact om3 ‹_› ‹_› rfl | exact om3 rfl ‹_› rfl | exact om2 ‹_› ‹_› rfl | exact om2 rfl ‹_› rfl | exact om14 ‹_› rfl | exact om15 ‹_› | exact om16 ‹_› ‹_› | exact om17 ‹_› ‹_› rfl | exact om9 ‹_› ‹_› | exact om24 ‹_› ‹_› | ((try refine And.intro ?_ ?_); (all_goals ((try show _ + 1 ≤ _); (iterate 20 (try first | exact Nat.le_refl _ | exact Nat.zero_le _ | assumption | refine om20 (by k_asm) ?_ | refine om21 (by k_asm) ?_ | (with_reducible show _ + 1 ≤ _ + 1; refine Nat.succ_le_succ ?_) | (with_reducible show _ ≤ _ + _; refine Nat.le_succ_of_le ?_) | refine om20 (om13 (by k_asm)) ?_ | refine om21 (om13 (by k_asm)) ?_ | refine om20 (A1 (by k_asm)) ?_ | refine om21 (A1 (by k_asm)) ?_)); done))) | omega)) (fun j ys tk hj => ⟨by rw [hj.2.col.len]; exact Nat.le_refl _, by have := hj.1; ((try dsimp only); first | assumption | exact om1 ‹_› ‹_› rfl | exact om1 rfl ‹_› rfl | exact om3 ‹_› ‹_› rfl | exact om3 rfl ‹_› rfl | exact om2 ‹_› ‹_› rfl | exact om2 rfl ‹_› rfl | exact om14 ‹_› rfl | exact om15 ‹_› | exact om16 ‹_› ‹_› | exact om17 ‹_› ‹_› rfl | exact om9 ‹_› ‹_› | exact om24 ‹_› ‹_› | ((try refine And.intro ?_ ?_); (all_goals ((try show _ + 1 ≤ _); (iterate 20 (try first | exact Nat.le_refl _ | exact Nat.zero_le _ | assumption | refine om20 (by k_asm) ?_ | refine om21 (by k_asm) ?_ | (with_reducible show _ + 1 ≤ _ + 1; refine Nat.succ_le_succ ?_) | (with_reducible show _ ≤ _ + _; refine Nat.le_succ_of_le ?_) | refine om20 (om13 (by k_asm)) ?_ | refine om21 (om13 (by k_asm)) ?_ | refine om20 (A1 (by k_asm)) ?_ | refine om21 (A1 (by k_asm)) ?_)); done))) | omega)⟩) (by k_mem) F12 N12 (fun q hq => Nat.ne_of_lt (l12 q hq)) ⟨rfl, Nat.zero_le _, by exact ColB.start⟩ ?turn ?fin
    case turn =>
      intro C D' j ys h tk oC m₁ x E' hJ hx F2 hoC N2 off2 offI hCD hCL hDL hCI hDI
      have hj := hJ.1; have hC := hJ.2; clear hJ
      rw [hnv] at hx
      obtain ⟨hjn, rfl⟩ := map_at hx
      refine bind_name (by rfl) rfl hoC N2 (off_of hCD hCI off2) F2 ?_
      intro h3 oC3 m3 F3 hoC3 hm3 N3
      refine no_test rfl ?_
      have hz := hb j hjn
      have hz2 : ∀ i, i < j → τn i ≠ τn j := fun i hi' => hi i j hi' hjn
      k_steps
      rename_i u tk9 htk9 hu9
      refine CBack.fin F3 hoC3 N3 (fun q hq => hq) off2 hCI hDI ⟨_, rfl, offI, rfl, by ((try dsimp only); first | assumption | exact om1 ‹_› ‹_› rfl | exact om1 rfl ‹_› rfl | exact om3 ‹_› ‹_› rfl | exact om3 rfl ‹_› rfl | exact om2 ‹_› ‹_› rfl | exact om2 rfl ‹_› rfl | exact om14 ‹_› rfl | exact om15 ‹_› | exact om16 ‹_› ‹_› | exact om17 ‹_› ‹_› rfl | exact om9 ‹_› ‹_› | exact om24 ‹_› ‹_› | ((try refine And.intro ?_ ?_); (all_goals ((try show _ + 1 ≤ _); (iterate 20 (try first | exact Nat.le_refl _ | exact Nat.zero_le _ | assumption | refine om20 (by k_asm) ?_ | refine om21 (by k_asm) ?_ | (with_reducible show _ + 1 ≤ _ + 1; refine Nat.succ_le_succ ?_) | (with_reducible show _ ≤ _ + _; refine Nat.le_succ_of_le ?_) | refine om20 (om13 (by k_asm)) ?_ | refine om21 (om13 (by k_asm)) ?_ | refine om20 (A1 (by k_asm)) ?_ | refine om21 (A1 (by k_asm)) ?_)); done))) | omega), ColB.next (u := u) (by ((try dsimp only); first | assumption | exact om1 ‹_› ‹_› rfl | exact om1 rfl ‹_› rfl | exact om3 ‹_› ‹_› rfl | exact om3 rfl ‹_› rfl | exact om2 ‹_› ‹_› rfl | exact om2 rfl ‹_› rfl | exact om14 ‹_› rfl | exact om15 ‹_› | exact om16 ‹_› ‹_› | exact om17 ‹_› ‹_› rfl | exact om9 ‹_› ‹_› | exact om24 ‹_› ‹_› | ((try refine And.intro ?_ ?_); (all_goals ((try show _ + 1 ≤ _); (iterate 20 (try first | exact Nat.le_refl _ | exact Nat.zero_le _ | assumption | refine om20 (by k_asm) ?_ | refine om21 (by k_asm) ?_ | (with_reducible show _ + 1 ≤ _ + 1; refine Nat.succ_le_succ ?_) | (with_reducible show _ ≤ _ + _; refine Nat.le_succ_of_le ?_) | refine om20 (om13 (by k_asm)) ?_ | refine om21 (om13 (by k_asm)) ?_ | refine om20 (A1 (by k_asm)) ?_ | refine om21 (A1 (by k_asm)) ?_)); done))) | omega)) hC rfl (by dsimp only at *; ((try dsimp only); first | assumption | exact om1 ‹_› ‹_› rfl | exact om1 rfl ‹_› rfl | exact om3 ‹_› ‹_› rfl | exact om3 rfl ‹_› rfl | exact om2 ‹_› ‹_› rfl | exact om2 rfl ‹_› rfl | exact om14 ‹_› rfl | exact om15 ‹_› | exact om16 ‹_› ‹_› | exact om17 ‹_› ‹_› rfl | exact om9 ‹_› ‹_› | exact om24 ‹_› ‹_› | ((try refine And.intro ?_ ?_); (all_goals ((try show _ + 1 ≤ _); (iterate 20 (try first | exact Nat.le_refl _ | exact Nat.zero_le _ | assumption | refine om20 (by k_asm) ?_ | refine om21 (by k_asm) ?_ | (with_reducible show _ + 1 ≤ _ + 1; refine Nat.succ_le_succ ?_) | (with_reducible show _ ≤ _ + _; refine Nat.le_succ_of_le ?_) | refine om20 (om13 (by k_asm)) ?_ | refine om21 (om13 (by k_asm)) ?_ | refine om20 (A1 (by k_asm)) ?_ | refine om21 (A1 (by k_asm)) ?_)); done))) | omega)) (hu9.elim (fun q => .inl ⟨q.2, hz.1, by ((try dsimp only); first | assumption | exact om1 ‹_› ‹_› rfl | exact om1 rfl ‹_› rfl | exact om3 ‹_› ‹_› rfl | exact om3 rfl ‹_› rfl | exact om2 ‹_› ‹_› rfl | exact om2 rfl ‹_› rfl | exact om14 ‹_› rfl | exact om15 ‹_› | exact om16 ‹_› ‹_› | exact om17 ‹_› ‹_› rfl | exact om9 ‹_› ‹_› | exact om24 ‹_› ‹_› | ((try refine And.intro ?_ ?_); (all_goals ((try show _ + 1 ≤ _); (iterate 20 (try first | exact Nat.le_refl _ | exact Nat.zero_le _ | assumption | refine om20 (by k_asm) ?_ | refine om21 (by k_asm) ?_ | (with_reducible show _ + 1 ≤ _ + 1; refine Nat.succ_le_succ ?_) | (with_reducible show _ ≤ _ + _; refine Nat.le_succ_of_le ?_) | refine om20 (om13 (by k_asm)) ?_ | refine om21 (om13 (by k_asm)) ?_ | refine om20 (A1 (by k_asm)) ?_ | refine om21 (A1 (by k_asm)) ?_)); done))) | omega), hz2⟩) fun q => .inr (by dsimp only at *; ((try dsimp only); first | assumption | exact om1 ‹_› ‹_› rfl | exact om1 rfl ‹_› rfl | exact om3 ‹_› ‹_› rfl | exact om3 rfl ‹_› rfl | exact om2 ‹_› ‹_› rfl | exact om2 rfl ‹_› rfl | exact om14 ‹_› rfl | exact om15 ‹_› | exact om16 ‹_› ‹_› | exact om17 ‹_› ‹_› rfl | exact om9 ‹_› ‹_› | exact om24 ‹_› ‹_› | ((try refine And.intro ?_ ?_); (all_goals ((try show _ + 1 ≤ _); (iterate 20 (try first | exact Nat.le_refl _ | exact Nat.zero_le _ | assumption | refine om20 (by k_asm) ?_ | refine om21 (by k_asm) ?_ | (with_reducible show _ + 1 ≤ _ + 1; refine Nat.succ_le_succ ?_) | (with_reducible show _ ≤ _ + _; refine Nat.le_succ_of_le ?_) | refine om20 (om13 (by k_asm)) ?_ | refine om21 (om13 (by k_asm)) ?_ | refine om20 (A1 (by k_asm)) ?_ | refine om21 (A1 (by k_asm)) ?_)); done))) | omega)))⟩
    case fin =>
      intro ys tk hJ
      have hj := hJ.1; have hC := hJ.2; clear hJ
      intro D' h F3 N3 offD
      k_steps
      rw [hnvl] at hC
      have hSz := hC.col
      clear hC
      obtain ⟨sv, hsv⟩ : ∃ sv, sv = ys := ⟨_, rfl⟩
      rw [← hsv] at hSz N3
      clear hsv
      have kN6 : News h₀ L h [(D', listOf sv.toArray sv.length), (NV, listOf nv.toArray 0)] := N3
      clear N3
      have hsvl : sv.length = n := hSz.len
      show wpAny _ _ _ _ _ _
      refine pyIter_N (its := nv.toArray) (c := 0) (by k_asm) kN6 (by k_mem) ?_
      intro I3 h13 F13 N13 l13
      refine compIn_listF (ws := nv) (CJ _ (fun i t => .bytes (wordOf (nums zs i).natAbs).toArray t) (fun _ => 0) (tk + 1) n) (fun _ _ _ _ h => h) rfl (by ((try dsimp only); first | assumption | exact om1 ‹_› ‹_› rfl | exact om1 rfl ‹_› rfl | exact om3 ‹_› ‹_› rfl | exact om3 rfl ‹_› rfl | exact om2 ‹_› ‹_› rfl | exact om2 rfl ‹_› rfl | exact om14 ‹_› rfl | exact om15 ‹_› | exact om16 ‹_› ‹_› | exact om17 ‹_› ‹_› rfl | exact om9 ‹_› ‹_› | exact om24 ‹_› ‹_› | ((try refine And.intro ?_ ?_); (all_goals ((try show _ + 1 ≤ _); (iterate 20 (try first | exact Nat.le_refl _ | exact Nat.zero_le _ | assumption | refine om20 (by k_asm) ?_ | refine om21 (by k_asm) ?_ | (with_reducible show _ + 1 ≤ _ + 1; refine Nat.succ_le_succ ?_) | (with_reducible show _ ≤ _ + _; refine Nat.le_succ_of_le ?_) | refine om20 (om13 (by k_asm)) ?_ | refine om21 (om13 (by k_asm)) ?_ | refine om20 (A1 (by k_asm)) ?_ | refine om21 (A1 (by k_asm)) ?_)); done))) | omega)) (fun j ys tk hj => ⟨by rw [hj.2.col.len]; exact Nat.le_refl _, by have := hj.1; ((try dsimp only); first | assumption | exact om1 ‹_› ‹_› rfl | exact om1 rfl ‹_› rfl | exact om3 ‹_› ‹_› rfl | exact om3 rfl ‹_› rfl | exact om2 ‹_› ‹_› rfl | exact om2 rfl ‹_› rfl | exact om14 ‹_› rfl | exact om15 ‹_› | exact om16 ‹_› ‹_› | exact om17 ‹_› ‹_› rfl | exact om9 ‹_› ‹_› | exact om24 ‹_› ‹_› | ((try refine And.intro ?_ ?_); (all_goals ((try show _ + 1 ≤ _); (iterate 20 (try first | exact Nat.le_refl _ | exact Nat.zero_le _ | assumption | refine om20 (by k_asm) ?_ | refine om21 (by k_asm) ?_ | (with_reducible show _ + 1 ≤ _ + 1; refine Nat.succ_le_succ ?_) | (with_reducible show _ ≤ _ + _; refine Nat.le_succ_of_le ?_) | refine om20 (om13 (by k_asm)) ?_ | refine om21 (om13 (by k_asm)) ?_ | refine om20 (A1 (by k_asm)) ?_ | refine om21 (A1 (by k_asm)) ?_)); done))) | omega)⟩) (by k_mem) F13 N13 (fun q hq => Nat.ne_of_lt (l13 q hq)) ⟨rfl, Nat.zero_le _, by exact ColB.start⟩ ?turn ?fin
      case turn =>
        intro C D'' j ys h tk oC m₁ x E' hJ hx F2 hoC N2 off2 offI hCD hCL hDL hCI hDI
        have hj := hJ.1; have hC := hJ.2; clear hJ
        rw [hnv] at hx
        obtain ⟨hjn, rfl⟩ := map_at hx
        refine bind_name (by rfl) rfl hoC N2 (off_of hCD hCI off2) F2 ?_
        intro h3 oC3 m3 F3 hoC3 hm3 N3
        refine no_test rfl ?_
        k_steps
        show wpAny _ _ _ _ _ _
        with_unfolding_all refine' int2ap_call (nums_lt zs j) ?z1 ?z2 ?z3 ?z4 ?z5 ?z6 ?z7 ?_
        case z2 => k_asm
        case z1 => assumption
        case z3 => assumption
        case z4 => k_asm
        case z5 => assumption
        case z6 => k_room
        case z7 => k_units
        intro h4 tk4 tv4 F4 N4 ht1 ht2
        k_steps
        refine CBack.fin F4 hoC3 N4 (fun q hq => hq) off2 hCI hDI ⟨_, rfl, offI, rfl, by ((try dsimp only); first | assumption | exact om1 ‹_› ‹_› rfl | exact om1 rfl ‹_› rfl | exact om3 ‹_› ‹_› rfl | exact om3 rfl ‹_› rfl | exact om2 ‹_› ‹_› rfl | exact om2 rfl ‹_› rfl | exact om14 ‹_› rfl | exact om15 ‹_› | exact om16 ‹_› ‹_› | exact om17 ‹_› ‹_› rfl | exact om9 ‹_› ‹_› | exact om24 ‹_› ‹_› | ((try refine And.intro ?_ ?_); (all_goals ((try show _ + 1 ≤ _); (iterate 20 (try first | exact Nat.le_refl _ | exact Nat.zero_le _ | assumption | refine om20 (by k_asm) ?_ | refine om21 (by k_asm) ?_ | (with_reducible show _ + 1 ≤ _ + 1; refine Nat.succ_le_succ ?_) | (with_reducible show _ ≤ _ + _; refine Nat.le_succ_of_le ?_) | refine om20 (om13 (by k_asm)) ?_ | refine om21 (om13 (by k_asm)) ?_ | refine om20 (A1 (by k_asm)) ?_ | refine om21 (A1 (by k_asm)) ?_)); done))) | omega), ColB.next (u := tv4) (by ((try dsimp only); first | assumption | exact om1 ‹_› ‹_› rfl | exact om1 rfl ‹_› rfl | exact om3 ‹_› ‹_› rfl | exact om3 rfl ‹_› rfl | exact om2 ‹_› ‹_› rfl | exact om2 rfl ‹_› rfl | exact om14 ‹_› rfl | exact om15 ‹_› | exact om16 ‹_› ‹_› | exact om17 ‹_› ‹_› rfl | exact om9 ‹_› ‹_› | exact om24 ‹_› ‹_› | ((try refine And.intro ?_ ?_); (all_goals ((try show _ + 1 ≤ _); (iterate 20 (try first | exact Nat.le_refl _ | exact Nat.zero_le _ | assumption | refine om20 (by k_asm) ?_ | refine om21 (by k_asm) ?_ | (with_reducible show _ + 1 ≤ _ + 1; refine Nat.succ_le_succ ?_) | (with_reducible show _ ≤ _ + _; refine Nat.le_succ_of_le ?_) | refine om20 (om13 (by k_asm)) ?_ | refine om21 (om13 (by k_asm)) ?_ | refine om20 (A1 (by k_asm)) ?_ | refine om21 (A1 (by k_asm)) ?_)); done))) | omega)) hC rfl (by dsimp only at *; ((try dsimp only); first | assumption | exact om1 ‹_› ‹_› rfl | exact om1 rfl ‹_› rfl | exact om3 ‹_› ‹_› rfl | exact om3 rfl ‹_› rfl | exact om2 ‹_› ‹_› rfl | exact om2 rfl ‹_› rfl | exact om14 ‹_› rfl | exact om15 ‹_› | exact om16 ‹_› ‹_› | exact om17 ‹_› ‹_› rfl | exact om9 ‹_› ‹_› | exact om24 ‹_› ‹_› | ((try refine And.intro ?_ ?_); (all_goals ((try show _ + 1 ≤ _); (iterate 20 (try first | exact Nat.le_refl _ | exact Nat.zero_le _ | assumption | refine om20 (by k_asm) ?_ | refine om21 (by k_asm) ?_ | (with_reducible show _ + 1 ≤ _ + 1; refine Nat.succ_le_succ ?_) | (with_reducible show _ ≤ _ + _; refine Nat.le_succ_of_le ?_) | refine om20 (om13 (by k_asm)) ?_ | refine om21 (om13 (by k_asm)) ?_ | refine om20 (A1 (by k_asm)) ?_ | refine om21 (A1 (by k_asm)) ?_)); done))) | omega)) (.inr (by dsimp only at *; ((try dsimp only); first | assumption | exact om1 ‹_› ‹_› rfl | exact om1 rfl ‹_› rfl | exact om3 ‹_› ‹_› rfl | exact om3 rfl ‹_› rfl | exact om2 ‹_› ‹_› rfl | exact om2 rfl ‹_› rfl | exact om14 ‹_› rfl | exact om15 ‹_› | exact om16 ‹_› ‹_› | exact om17 ‹_› ‹_› rfl | exact om9 ‹_› ‹_› | exact om24 ‹_› ‹_› | ((try refine And.intro ?_ ?_); (all_goals ((try show _ + 1 ≤ _); (iterate 20 (try first | exact Nat.le_refl _ | exact Nat.zero_le _ | assumption | refine om20 (by k_asm) ?_ | refine om21 (by k_asm) ?_ | (with_reducible show _ + 1 ≤ _ + 1; refine Nat.succ_le_succ ?_) | (with_reducible show _ ≤ _ + _; refine Nat.le_succ_of_le ?_) | refine om20 (om13 (by k_asm)) ?_ | refine om21 (om13 (by k_asm)) ?_ | refine om20 (A1 (by k_asm)) ?_ | refine om21 (A1 (by k_asm)) ?_)); done))) | omega)))⟩
      case fin =>
        intro ys tk hJ
        have hj := hJ.1; have hC := hJ.2; clear hJ
        intro D'' h F3 N3 offD
        k_steps
        rw [hnvl] at hC
        have hWd := hC.col
        clear hC
        obtain ⟨wv, hwv⟩ : ∃ wv, wv = ys := ⟨_, rfl⟩
        rw [← hwv] at hWd N3
        clear hwv
        have kN7 : News h₀ L h [(D'', listOf wv.toArray wv.length), (D', listOf sv.toArray sv.length), (NV, listOf nv.toArray 0)] := N3
        clear N3
        have hwvl : wv.length = n := hWd.len
        refine x1c3 hSz fun τs hsv hsb hsi => ?_
        show wpAny _ _ _ _ _ _
        refine pyIter_N (its := sv.toArray) (c := sv.length) (by k_asm) kN7 (by k_mem) ?_
        intro I4 h14 F14 N14 l14
        refine compIn_listF (ws := sv) (RJ _ (fun i t => .bytes (wordOf (nums zs i).natAbs).toArray t) n) (fun _ _ _ _ h => h) rfl (by ((try dsimp only); first | assumption | exact om1 ‹_› ‹_› rfl | exact om1 rfl ‹_› rfl | exact om3 ‹_› ‹_› rfl | exact om3 rfl ‹_› rfl | exact om2 ‹_› ‹_› rfl | exact om2 rfl ‹_› rfl | exact om14 ‹_› rfl | exact om15 ‹_› | exact om16 ‹_› ‹_› | exact om17 ‹_› ‹_› rfl | exact om9 ‹_› ‹_› | exact om24 ‹_› ‹_› | ((try refine And.intro ?_ ?_); (all_goals ((try show _ + 1 ≤ _); (iterate 20 (try first | exact Nat.le_refl _ | exact Nat.zero_le _ | assumption | refine om20 (by k_asm) ?_ | refine om21 (by k_asm) ?_ | (with_reducible show _ + 1 ≤ _ + 1; refine Nat.succ_le_succ ?_) | (with_reducible show _ ≤ _ + _; refine Nat.le_succ_of_le ?_) | refine om20 (om13 (by k_asm)) ?_ | refine om21 (om13 (by k_asm)) ?_ | refine om20 (A1 (by k_asm)) ?_ | refine om21 (A1 (by k_asm)) ?_)); done))) | omega)) (fun j ys tk hj => ⟨by rw [hj.2.len]; exact Nat.le_refl _, by have := hj.1; ((try dsimp only); first | assumption | exact om1 ‹_› ‹_› rfl | exact om1 rfl ‹_› rfl | exact om3 ‹_› ‹_› rfl | exact om3 rfl ‹_› rfl | exact om2 ‹_› ‹_› rfl | exact om2 rfl ‹_› rfl | exact om14 ‹_› rfl | exact om15 ‹_› | exact om16 ‹_› ‹_› | exact om17 ‹_› ‹_› rfl | exact om9 ‹_› ‹_› | exact om24 ‹_› ‹_› | ((try refine And.intro ?_ ?_); (all_goals ((try show _ + 1 ≤ _); (iterate 20 (try first | exact Nat.le_refl _ | exact Nat.zero_le _ | assumption | refine om20 (by k_asm) ?_ | refine om21 (by k_asm) ?_ | (with_reducible show _ + 1 ≤ _ + 1; refine Nat.succ_le_succ ?_) | (with_reducible show _ ≤ _ + _; refine Nat.le_succ_of_le ?_) | refine om20 (om13 (by k_asm)) ?_ | refine om21 (om13 (by k_asm)) ?_ | refine om20 (A1 (by k_asm)) ?_ | refine om21 (A1 (by k_asm)) ?_)); done))) | omega)⟩) (by k_mem) F14 N14 (fun q hq => Nat.ne_of_lt (l14 q hq)) ⟨rfl, Nat.zero_le _, ⟨fun _ => 0, rfl⟩⟩ ?turn ?fin
        case turn =>
          intro C D3 j ys h tk oC m₁ x E' hJ hx F2 hoC N2 off2 offI hCD hCL hDL hCI hDI
          have hj := hJ.1; have hC := hJ.2; clear hJ
          rw [hsv] at hx
          obtain ⟨hjn, rfl⟩ := map_at hx
          refine bind_name (by rfl) rfl hoC N2 (off_of hCD hCI off2) F2 ?_
          intro h3 oC3 m3 F3 hoC3 hm3 N3
          refine no_test rfl ?_
          k_steps
          show wpAny _ _ _ _ _ _
          with_unfolding_all refine' places_call (nums_lt zs j) ?z1 ?z2 ?z3 ?z4 ?z5 ?z6 ?z7 ?_
          case z2 => k_asm
          case z1 => assumption
          case z3 => assumption
          case z4 => k_asm
          case z5 => assumption
          case z6 => k_room
          case z7 => k_units
          intro h4 tk4 tv4 F4 N4 ht1
          k_steps
          show wpAny _ _ _ _ _ _
          with_unfolding_all refine' letters_call (nums_lt zs j) (plc_le _) ?z1 ?z2 ?z3 ?z4 ?z5 ?z6 ?z7 ?_
          case z2 => k_asm
          case z1 => assumption
          case z3 => assumption
          case z4 => k_asm
          case z5 => assumption
          case z6 => k_room
          case z7 => k_units
          intro h5 tk5 tv5 F5 N5 ht2
          k_steps
          refine CBack.fin F5 hoC3 N5 (fun q hq => hq) off2 hCI hDI ⟨_, rfl, offI, rfl, by ((try dsimp only); first | assumption | exact om1 ‹_› ‹_› rfl | exact om1 rfl ‹_› rfl | exact om3 ‹_› ‹_› rfl | exact om3 rfl ‹_› rfl | exact om2 ‹_› ‹_› rfl | exact om2 rfl ‹_› rfl | exact om14 ‹_› rfl | exact om15 ‹_› | exact om16 ‹_› ‹_› | exact om17 ‹_› ‹_› rfl | exact om9 ‹_› ‹_› | exact om24 ‹_› ‹_› | ((try refine And.intro ?_ ?_); (all_goals ((try show _ + 1 ≤ _); (iterate 20 (try first | exact Nat.le_refl _ | exact Nat.zero_le _ | assumption | refine om20 (by k_asm) ?_ | refine om21 (by k_asm) ?_ | (with_reducible show _ + 1 ≤ _ + 1; refine Nat.succ_le_succ ?_) | (with_reducible show _ ≤ _ + _; refine Nat.le_succ_of_le ?_) | refine om20 (om13 (by k_asm)) ?_ | refine om21 (om13 (by k_asm)) ?_ | refine om20 (A1 (by k_asm)) ?_ | refine om21 (A1 (by k_asm)) ?_)); done))) | omega), Row.next (u := tv5) hC rfl⟩
        case fin =>
          intro ys tk hJ
          have hj := hJ.1; have hC := hJ.2; clear hJ
          intro D3 h F3 N3 offD
          rw [hsvl] at hC
          obtain ⟨pv, hpv⟩ : ∃ pv, pv = ys := ⟨_, rfl⟩
          rw [← hpv] at hC N3
          clear hpv
          have hpvl : pv.length = n := hC.len
          have kN8 : News h₀ L h [(D3, listOf pv.toArray pv.length), (D'', listOf wv.toArray wv.length), (D', listOf sv.toArray sv.length), (NV, listOf nv.toArray 0)] := N3
          clear N3
          rw [hpvl, hwvl, hsvl] at kN8
          k_steps
          show wpAny _ _ _ _ _ _
          refine ne_same (xs := wv) (ys := pv) (News.isList kN8 (by k_mem)) (News.isList kN8 (by k_mem)) hWd.row hC (by units_room) ?_
          k_steps
          refine hQ _ _ _ _ (by k_asm) kN8 ⟨NV, D', D'', D3, nv, sv, wv, pv, by with_unfolding_all rfl, by with_unfolding_all rfl, by with_unfolding_all rfl, by with_unfolding_all rfl, by k_mem, by k_mem, by k_mem, by k_mem, ⟨τn, hnv, fun i hi => ⟨(hb i hi).1, ?ob⟩, hi⟩, ⟨τs, hsv, fun i hi => ⟨(hsb i hi).1, ?os⟩, hsi⟩, hWd.mono ?ow, hC⟩ ?ot
          case ob => have := (hb i hi).2; ((try dsimp only); first | assumption | exact om1 ‹_› ‹_› rfl | exact om1 rfl ‹_› rfl | exact om3 ‹_› ‹_› rfl | exact om3 rfl ‹_› rfl | exact om2 ‹_› ‹_› rfl | exact om2 rfl ‹_› rfl | exact om14 ‹_› rfl | exact om15 ‹_› | exact om16 ‹_› ‹_› | exact om17 ‹_› ‹_› rfl | exact om9 ‹_› ‹_› | exact om24 ‹_› ‹_› | ((try refine And.intro ?_ ?_); (all_goals ((try show _ + 1 ≤ _); (iterate 20 (try first | exact Nat.le_refl _ | exact Nat.zero_le _ | assumption | refine om20 (by k_asm) ?_ | refine om21 (by k_asm) ?_ | (with_reducible show _ + 1 ≤ _ + 1; refine Nat.succ_le_succ ?_) | (with_reducible show _ ≤ _ + _; refine Nat.le_succ_of_le ?_) | refine om20 (om13 (by k_asm)) ?_ | refine om21 (om13 (by k_asm)) ?_ | refine om20 (A1 (by k_asm)) ?_ | refine om21 (A1 (by k_asm)) ?_)); done))) | omega)
          case os => have := (hsb i hi).2; ((try dsimp only); first | assumption | exact om1 ‹_› ‹_› rfl | exact om1 rfl ‹_› rfl | exact om3 ‹_› ‹_› rfl | exact om3 rfl ‹_› rfl | exact om2 ‹_› ‹_› rfl | exact om2 rfl ‹_› rfl | exact om14 ‹_› rfl | exact om15 ‹_› | exact om16 ‹_› ‹_› | exact om17 ‹_› ‹_› rfl | exact om9 ‹_› ‹_› | exact om24 ‹_› ‹_› | ((try refine And.intro ?_ ?_); (all_goals ((try show _ + 1 ≤ _); (iterate 20 (try first | exact Nat.le_refl _ | exact Nat.zero_le _ | assumption | refine om20 (by k_asm) ?_ | refine om21 (by k_asm) ?_ | (with_reducible show _ + 1 ≤ _ + 1; refine Nat.succ_le_succ ?_) | (with_reducible show _ ≤ _ + _; refine Nat.le_succ_of_le ?_) | refine om20 (om13 (by k_asm)) ?_ | refine om21 (om13 (by k_asm)) ?_ | refine om20 (A1 (by k_asm)) ?_ | refine om21 (A1 (by k_asm)) ?_)); done))) | omega)
          case ow => ((try dsimp only); first | assumption | exact om1 ‹_› ‹_› rfl | exact om1 rfl ‹_› rfl | exact om3 ‹_› ‹_› rfl | exact om3 rfl ‹_› rfl | exact om2 ‹_› ‹_› rfl | exact om2 rfl ‹_› rfl | exact om14 ‹_› rfl | exact om15 ‹_› | exact om16 ‹_› ‹_› | exact om17 ‹_› ‹_› rfl | exact om9 ‹_› ‹_› | exact om24 ‹_› ‹_› | ((try refine And.intro ?_ ?_); (all_goals ((try show _ + 1 ≤ _); (iterate 20 (try first | exact Nat.le_refl _ | exact Nat.zero_le _ | assumption | refine om20 (by k_asm) ?_ | refine om21 (by k_asm) ?_ | (with_reducible show _ + 1 ≤ _ + 1; refine Nat.succ_le_succ ?_) | (with_reducible show _ ≤ _ + _; refine Nat.le_succ_of_le ?_) | refine om20 (om13 (by k_asm)) ?_ | refine om21 (om13 (by k_asm)) ?_ | refine om20 (A1 (by k_asm)) ?_ | refine om21 (A1 (by k_asm)) ?_)); done))) | omega)
          case ot => ((try dsimp only); first | assumption | exact om1 ‹_› ‹_› rfl | exact om1 rfl ‹_› rfl | exact om3 ‹_› ‹_› rfl | exact om3 rfl ‹_› rfl | exact om2 ‹_› ‹_› rfl | exact om2 rfl ‹_› rfl | exact om14 ‹_› rfl | exact om15 ‹_› | exact om16 ‹_› ‹_› | exact om17 ‹_› ‹_› rfl | exact om9 ‹_› ‹_› | exact om24 ‹_› ‹_› | ((try refine And.intro ?_ ?_); (all_goals ((try show _ + 1 ≤ _); (iterate 20 (try first | exact Nat.le_refl _ | exact Nat.zero_le _ | assumption | refine om20 (by k_asm) ?_ | refine om21 (by k_asm) ?_ | (with_reducible show _ + 1 ≤ _ + 1; refine Nat.succ_le_succ ?_) | (with_reducible show _ ≤ _ + _; refine Nat.le_succ_of_le ?_) | refine om20 (om13 (by k_asm)) ?_ | refine om21 (om13 (by k_asm)) ?_ | refine om20 (A1 (by k_asm)) ?_ | refine om21 (A1 (by k_asm)) ?_)); done))) | omega)
end
end Mine
end
-- WLb
section
namespace Mine
theorem rstWLb : True := by (w_top off); trivial
section
variable {w : World} {mean : ExcName → Option Value} {mg mb : Str → Option Value}
   {dp un : Nat} {gd : Option (List Code)} {cn : Str} {nm : List (Str × NameKind)} {ig ic : Bool} {mo : List (Str × Const)} {a : Addr} {ccd : Value} {outer : List Env} {A₀ : Around} {base h₀ : Heap} {L : Addr} {m : Str → Option Value} {s : Shared} {Q E : Value → Shared → Prop} {news : List (Addr × Obj)}
theorem tLt_kap (a b : Nat) : tLt (((ordOf a : Nat) : Int), ((plc a : Nat) : Int)) (((ordOf b : Nat) : Int), ((plc b : Nat) : Int)) = decide (kap a < kap b) := by
  have h1 := plc_le a
  have h2 := plc_le b
  unfold tLt kap
  show (if ((ordOf a : Nat) : Int) = ((ordOf b : Nat) : Int) then decide (((plc a : Nat) : Int) < ((plc b : Nat) : Int)) else decide (((ordOf a : Nat) : Int) < ((ordOf b : Nat) : Int))) = _
  by_cases e : ordOf a = ordOf b
  · rw [if_pos (by rw [e])]
    exact decide_eq_decide.mpr (by rw [e]; ((try dsimp only); first | assumption | exact om1 ‹_› ‹_› rfl | exact om1 rfl ‹_› rfl | exact om3 ‹_› ‹_› rfl | exact om3 rfl ‹_› rfl | exact om2 ‹_› ‹_› rfl | exact om2 rfl ‹_› rfl | exact om14 ‹_› rfl | exact om15 ‹_› | exact om16 ‹_› ‹_› | exact om17 ‹_› ‹_› rfl | exact om9 ‹_› ‹_› | exact om24 ‹_› ‹_› | ((try refine And.intro ?_ ?_); (all_goals ((try show _ + 1 ≤ _); (iterate 20 (try first | exact Nat.le_refl _ | exact Nat.zero_le _ | assumption | refine om20 (by k_asm) ?_ | refine om21 (by k_asm) ?_ | (with_reducible show _ + 1 ≤ _ + 1; refine Nat.succ_le_succ ?_) | (with_reducible show _ ≤ _ + _; refine Nat.le_succ_of_le ?_) | refine om20 (om13 (by k_asm)) ?_ | refine om21 (om13 (by k_asm)) ?_ | refine om20 (A1 (by k_asm)) ?_ | refine om21 (A1 (by k_asm)) ?_)); done))) | omega))
  · rw [if_neg (by ((try dsimp only); first | assumption | exact om1 ‹_› ‹_› rfl | exact om1 rfl ‹_› rfl | exact om3 ‹_› ‹_› rfl | exact om3 rfl ‹_› rfl | exact om2 ‹_› ‹_› rfl | exact om2 rfl ‹_› rfl | exact om14 ‹_› rfl | exact om15 ‹_› | exact om16 ‹_› ‹_› | exact om17 ‹_› ‹_› rfl | exact om9 ‹_› ‹_› | exact om24 ‹_› ‹_› | ((try refine And.intro ?_ ?_); (all_goals ((try show _ + 1 ≤ _); (iterate 20 (try first | exact Nat.le_refl _ | exact Nat.zero_le _ | assumption | refine om20 (by k_asm) ?_ | refine om21 (by k_asm) ?_ | (with_reducible show _ + 1 ≤ _ + 1; refine Nat.succ_le_succ ?_) | (with_reducible show _ ≤ _ + _; refine Nat.le_succ_of_le ?_) | refine om20 (om13 (by k_asm)) ?_ | refine om21 (om13 (by k_asm)) ?_ | refine om20 (A1 (by k_asm)) ?_ | refine om21 (A1 (by k_asm)) ?_)); done))) | omega))]
    exact decide_eq_decide.mpr (by show ((ordOf a : Nat) : Int) < ((ordOf b : Nat) : Int) ↔ _; ((try dsimp only); first | assumption | exact om1 ‹_› ‹_› rfl | exact om1 rfl ‹_› rfl | exact om3 ‹_› ‹_› rfl | exact om3 rfl ‹_› rfl | exact om2 ‹_› ‹_› rfl | exact om2 rfl ‹_› rfl | exact om14 ‹_› rfl | exact om15 ‹_› | exact om16 ‹_› ‹_› | exact om17 ‹_› ‹_› rfl | exact om9 ‹_› ‹_› | exact om24 ‹_› ‹_› | ((try refine And.intro ?_ ?_); (all_goals ((try show _ + 1 ≤ _); (iterate 20 (try first | exact Nat.le_refl _ | exact Nat.zero_le _ | assumption | refine om20 (by k_asm) ?_ | refine om21 (by k_asm) ?_ | (with_reducible show _ + 1 ≤ _ + 1; refine Nat.succ_le_succ ?_) | (with_reducible show _ ≤ _ + _; refine Nat.le_succ_of_le ?_) | refine om20 (om13 (by k_asm)) ?_ | refine om21 (om13 (by k_asm)) ?_ | refine om20 (A1 (by k_asm)) ?_ | refine om21 (A1 (by k_asm)) ?_)); done))) | omega))
theorem ord_val {m p : Nat} (hp : plc m = p) : ((m : Nat) : Int) * 16 ^ ((3 : Int) - ((p : Nat) : Int)).toNat = ((ordOf m : Nat) : Int) := by
  unfold ordOf
  rw [hp, Int.natCast_mul, Int.natCast_pow]
  have : ((3 : Int) - ((p : Nat) : Int)).toNat = 3 - p := Int.toNat_sub 3 p
  rw [this]; rfl
theorem ord_lt {news : List (Addr × Obj)} {sz : Nat → Nat} {n : Nat} {T : Nat → Addr} {t1 t2 : Nat → Nat} {ov : List Value} (hov : ov = (List.range n).map fun i => Value.ref (T i)) (hT : ∀ i, i < n → (T i, tupO [.int ((ordOf (sz i) : Nat) : Int) (t1 i), .int ((plc (sz i) : Nat) : Int) (t2 i)]) ∈ news) :
    (∀ i v j x, ov[i]? = some v → ov[j]? = some x → Cmp w news .Lt x v (kLt (fun i => kap (sz i)) j i)) ∧ (∀ i v j x, ov[i]? = some v → ov[j]? = some x → Cmp w news .Gt x v (kGt (fun i => kap (sz i)) j i)) := by
  subst hov
  constructor
  · intro i v j x hi hj A s' Q' E' hu k hq
    obtain ⟨h1, rfl⟩ := map_at hi
    obtain ⟨h2, rfl⟩ := map_at hj
    refine tup_lt (p := (((ordOf (sz j) : Nat) : Int), ((plc (sz j) : Nat) : Int))) (q := (((ordOf (sz i) : Nat) : Int), ((plc (sz i) : Nat) : Int))) (k _ (hT j h2)) (k _ (hT i h1)) hu ?_
    rw [tLt_kap]; exact hq
  · intro i v j x hi hj A s' Q' E' hu k hq
    obtain ⟨h1, rfl⟩ := map_at hi
    obtain ⟨h2, rfl⟩ := map_at hj
    refine tup_gt (p := (((ordOf (sz j) : Nat) : Int), ((plc (sz j) : Nat) : Int))) (q := (((ordOf (sz i) : Nat) : Int), ((plc (sz i) : Nat) : Int))) (k _ (hT j h2)) (k _ (hT i h1)) hu ?_
    rw [tLt_kap]; exact hq
noncomputable def OrdJ (NW : List (Addr × Obj)) (sz : Nat → Nat) (n : Nat) (j : Nat) (ys : List Value) (nw : List (Addr × Obj)) (_tk : Nat) : Prop :=
  j ≤ n ∧ (∀ q ∈ NW, q ∈ nw) ∧ ∃ (T : Nat → Addr) (t1 t2 : Nat → Nat), ys = (List.range j).map (fun i => Value.ref (T i)) ∧ ∀ i, i < j → (T i, tupO [.int ((ordOf (sz i) : Nat) : Int) (t1 i), .int ((plc (sz i) : Nat) : Int) (t2 i)]) ∈ nw
theorem OrdJ.next {NW nw : List (Addr × Obj)} {n j tk tk' : Nat} {sz : Nat → Nat} {ys : List Value} {T' : Addr} {a b : Nat} (hj : j < n) (h : OrdJ NW sz n j ys nw tk) :
    OrdJ NW sz n (j + 1) (ys ++ [.ref T']) ((T', tupO [.int ((ordOf (sz j) : Nat) : Int) a, .int ((plc (sz j) : Nat) : Int) b]) :: nw) tk' := by
  obtain ⟨_, h2, T, t1, t2, rfl, h4⟩ := h
  refine ⟨hj, fun q hq => .tail _ (h2 q hq), fun i => if i = j then T' else T i, fun i => if i = j then a else t1 i, fun i => if i = j then b else t2 i, range_snoc _ _ j _ (fun i hi => by simp [Nat.ne_of_lt hi]) (by simp), fun i hi => ?_⟩
  by_cases e : i = j
  · subst e
    simp only [if_true]
    exact .head _
  · simp only [if_neg e]
    exact .tail _ (h4 i (by ((try dsimp only); first | assumption | exact om1 ‹_› ‹_› rfl | exact om1 rfl ‹_› rfl | exact om3 ‹_› ‹_› rfl | exact om3 rfl ‹_› rfl | exact om2 ‹_› ‹_› rfl | exact om2 rfl ‹_› rfl | exact om14 ‹_› rfl | exact om15 ‹_› | exact om16 ‹_› ‹_› | exact om17 ‹_› ‹_› rfl | exact om9 ‹_› ‹_› | exact om24 ‹_› ‹_› | ((try refine And.intro ?_ ?_); (all_goals ((try show _ + 1 ≤ _); (iterate 20 (try first | exact Nat.le_refl _ | exact Nat.zero_le _ | assumption | refine om20 (by k_asm) ?_ | refine om21 (by k_asm) ?_ | (with_reducible show _ + 1 ≤ _ + 1; refine Nat.succ_le_succ ?_) | (with_reducible show _ ≤ _ + _; refine Nat.le_succ_of_le ?_) | refine om20 (om13 (by k_asm)) ?_ | refine om21 (om13 (by k_asm)) ?_ | refine om20 (A1 (by k_asm)) ?_ | refine om21 (A1 (by k_asm)) ?_)); done))) | omega)))
inductive St2 (zs : List Int) (n : Nat) (m : Str → Option Value) (news : List (Addr × Obj)) : Prop
  | mk (OV : Addr) (ov : List Value) (T : Nat → Addr) (t1 t2 : Nat → Nat) (lo hi : Int) (tlo thi tl : Tok) (kk : Nat) (p1 : m (Str.ofString "orders") = some (.ref OV)) (p2 : (OV, listOf ov.toArray n) ∈ news) (p3 : ov = (List.range n).map (fun i => Value.ref (T i))) (p4 : (∀ i, i < n → (T i, tupO [.int ((ordOf (nums zs i).natAbs : Nat) : Int) (t1 i), .int ((plc (nums zs i).natAbs : Nat) : Int) (t2 i)]) ∈ news)) (p5 : m (Str.ofString "low") = some (.int lo tlo)) (p6 : lo = (((n - 1) / 2 : Nat) : Int)) (p7 : m (Str.ofString "high") = some (.int hi thi)) (p8 : hi = ((n / 2 : Nat) : Int)) (p9 : kk < n) (p10 : midOk (kLt fun i => kap (nums zs i).natAbs) (kGt fun i => kap (nums zs i).natAbs) n ((n - 1) / 2) kk = true) (p11 : m (Str.ofString "lower") = some (.bytes (wordOf (nums zs kk).natAbs).toArray tl)) : St2 zs n m news
theorem law_B {Q : Flow → Shared → Prop} {qn : Str} {L a : Addr} {cdv : Value} {zs : List Int} {n : Nat} (hnn : IsN zs n) (hS : St1 zs n m news s.toks)
   (G : Gd w mean mg mb callerA base [] h₀) (F₀ : Fr h₀ L s.heap m) (N₀ : News h₀ L s.heap news)
   (hQ : ∀ h' (tk' : Nat) m' news', Fr h₀ L h' m' → News h₀ L h' news' → St1 zs n m' news' tk' → St2 zs n m' news' → s.toks ≤ tk' → Q .next { s with heap := h', toks := tk' }) :
   wpAny (model Challenge.rw_ij0174_01.row.prog w) (callerA.deeper (lawEnv qn L a cdv)) (execs ((lawCode.1.drop 5).take 4) (lawEnv qn L a cdv)) Q E s := by
  have hn12 : n < 12 ∧ 5 ≤ n := hnn.five
  obtain ⟨NV, SV, WV, PV, nv, sv, wv, pv, mN, mS, mW, mP, iN, iS, iW, iP, cN, cS, cW, cP⟩ := hS
  have hnvl := cN.len
  have hn64 : nv.length < 64 := by ((try dsimp only); first | assumption | exact om1 ‹_› ‹_› rfl | exact om1 rfl ‹_› rfl | exact om3 ‹_› ‹_› rfl | exact om3 rfl ‹_› rfl | exact om2 ‹_› ‹_› rfl | exact om2 rfl ‹_› rfl | exact om14 ‹_› rfl | exact om15 ‹_› | exact om16 ‹_› ‹_› | exact om17 ‹_› ‹_› rfl | exact om9 ‹_› ‹_› | exact om24 ‹_› ‹_› | ((try refine And.intro ?_ ?_); (all_goals ((try show _ + 1 ≤ _); (iterate 20 (try first | exact Nat.le_refl _ | exact Nat.zero_le _ | assumption | refine om20 (by k_asm) ?_ | refine om21 (by k_asm) ?_ | (with_reducible show _ + 1 ≤ _ + 1; refine Nat.succ_le_succ ?_) | (with_reducible show _ ≤ _ + _; refine Nat.le_succ_of_le ?_) | refine om20 (om13 (by k_asm)) ?_ | refine om21 (om13 (by k_asm)) ?_ | refine om20 (A1 (by k_asm)) ?_ | refine om21 (A1 (by k_asm)) ?_)); done))) | omega)
  have hsvl := cS.len
  have hpvl := cP.len
  obtain ⟨τs, hsv, hsb, hsi⟩ := cS
  have B := G.B; have X := G.X; have T' := G.T; have XB := G.XB; have TB := G.TB; have D' := G.D
  unfold lawEnv
  rw [lawCode_eq ?zo]
  case zo => rfl
  dsimp only [List.drop, List.take]
  revert X
  k_fill
  intro X
  refine let_ar ?_; intro ar9
  k_steps
  show wpAny _ _ _ _ _ _
  refine pyIter_N (its := sv.toArray) (c := n) F₀ N₀ iS ?_
  intro I4 h14 F14 N14 l14
  refine compIn_list (ws := sv) (OrdJ news (fun i => (nums zs i).natAbs) n) rfl (by ((try dsimp only); first | assumption | exact om1 ‹_› ‹_› rfl | exact om1 rfl ‹_› rfl | exact om3 ‹_› ‹_› rfl | exact om3 rfl ‹_› rfl | exact om2 ‹_› ‹_› rfl | exact om2 rfl ‹_› rfl | exact om14 ‹_› rfl | exact om15 ‹_› | exact om16 ‹_› ‹_› | exact om17 ‹_› ‹_› rfl | exact om9 ‹_› ‹_› | exact om24 ‹_› ‹_› | ((try refine And.intro ?_ ?_); (all_goals ((try show _ + 1 ≤ _); (iterate 20 (try first | exact Nat.le_refl _ | exact Nat.zero_le _ | assumption | refine om20 (by k_asm) ?_ | refine om21 (by k_asm) ?_ | (with_reducible show _ + 1 ≤ _ + 1; refine Nat.succ_le_succ ?_) | (with_reducible show _ ≤ _ + _; refine Nat.le_succ_of_le ?_) | refine om20 (om13 (by k_asm)) ?_ | refine om21 (om13 (by k_asm)) ?_ | refine om20 (A1 (by k_asm)) ?_ | refine om21 (A1 (by k_asm)) ?_)); done))) | omega)) (fun j ys nw tk hj => ⟨by obtain ⟨_, _, _, _, _, rfl, _⟩ := hj; simp, by have := hj.1; ((try dsimp only); first | assumption | exact om1 ‹_› ‹_› rfl | exact om1 rfl ‹_› rfl | exact om3 ‹_› ‹_› rfl | exact om3 rfl ‹_› rfl | exact om2 ‹_› ‹_› rfl | exact om2 rfl ‹_› rfl | exact om14 ‹_› rfl | exact om15 ‹_› | exact om16 ‹_› ‹_› | exact om17 ‹_› ‹_› rfl | exact om9 ‹_› ‹_› | exact om24 ‹_› ‹_› | ((try refine And.intro ?_ ?_); (all_goals ((try show _ + 1 ≤ _); (iterate 20 (try first | exact Nat.le_refl _ | exact Nat.zero_le _ | assumption | refine om20 (by k_asm) ?_ | refine om21 (by k_asm) ?_ | (with_reducible show _ + 1 ≤ _ + 1; refine Nat.succ_le_succ ?_) | (with_reducible show _ ≤ _ + _; refine Nat.le_succ_of_le ?_) | refine om20 (om13 (by k_asm)) ?_ | refine om21 (om13 (by k_asm)) ?_ | refine om20 (A1 (by k_asm)) ?_ | refine om21 (A1 (by k_asm)) ?_)); done))) | omega), hj.2.1 _ iS⟩) F14 N14 (fun q hq => Nat.ne_of_lt (l14 q hq)) ⟨Nat.zero_le _, fun _ h => h, fun _ => 0, fun _ => 0, fun _ => 0, rfl, fun i hi => absurd hi (Nat.not_lt_zero _)⟩ ?turn ?fin
  case turn =>
    rintro C D3 j ys nw h tk oC m₁ x E' hJ hx F2 hoC N2 off2 offI hCD hCL hDL hCI hDI
    rw [hsv] at hx
    obtain ⟨hjn, rfl⟩ := map_at hx
    refine bind_name (by rfl) rfl hoC N2 (off_of hCD hCI off2) F2 ?_
    intro h3 oC3 m3 F3 hoC3 hm3 N3
    refine no_test rfl ?_
    k_steps
    show wpAny _ _ _ _ _ _
    with_unfolding_all refine' places_call (nums_lt zs j) ?z1 ?z2 ?z3 ?z4 ?z5 ?z6 ?z7 ?_
    case z2 => k_asm
    case z1 => assumption
    case z3 => assumption
    case z4 => k_asm
    case z5 => assumption
    case z6 => k_room
    case z7 => k_units
    intro h4 tk4 tv4 F4 N4 ht1
    have hpl := plc_le (nums zs j).natAbs
    generalize hp : plc (nums zs j).natAbs = p
    have hp4 : p = 0 ∨ p = 1 ∨ p = 2 ∨ p = 3 := om8 (by first | assumption | (rw [← (‹plc _ = p›)]; exact plc_le _) | omega)
    clear hpl
    rcases hp4 with rfl | rfl | rfl | rfl
    all_goals
      k_steps
      show wpAny _ _ _ _ _ _
      with_unfolding_all refine' places_call (nums_lt zs j) ?z1 ?z2 ?z3 ?z4 ?z5 ?z6 ?z7 ?_
      case z2 => k_asm
      case z1 => assumption
      case z3 => assumption
      case z4 => k_asm
      case z5 => assumption
      case z6 => k_room
      case z7 => k_units
      intro h5 tk5 tv5 F5 N5 ht2
      k_steps
      rename_i TT hh FF NN ll
      rw [ord_val hp] at NN
      refine CBack.fin (nw' := (TT, tupO [.int ((ordOf (nums zs j).natAbs : Nat) : Int) (tk4 + 1 + 1), .int ((plc (nums zs j).natAbs : Nat) : Int) tv5]) :: nw) FF hoC3 NN ?_ ?_ hCI hDI ⟨_, rfl, ?_, OrdJ.next hjn hJ⟩
      · intro q hq
        exact mem_rot [_] [_, _, _] hq
      · exact fa_cons (⟨Ne.symm (Nat.ne_of_lt ll.1), Ne.symm (Nat.ne_of_lt ll.2.1)⟩) (fun q hq => off2 q hq)
      · exact fa_cons (Ne.symm (Nat.ne_of_lt ll.2.2.1)) (fun q hq => offI q hq)
  case fin =>
    rintro ys nw tk hJ
    intro D3 h F3 N3 offD
    have iN' := hJ.2.1 _ iN
    have iS' := hJ.2.1 _ iS
    have iW' := hJ.2.1 _ iW
    have iP' := hJ.2.1 _ iP
    rw [hsvl] at hJ
    obtain ⟨ov, hov⟩ : ∃ ov, ov = ys := ⟨_, rfl⟩
    rw [← hov] at hJ N3
    clear hov
    obtain ⟨_, hsub, T, t1, t2, hov, hT⟩ := hJ
    have hovl : ov.length = n := by rw [hov]; simp
    have kN3 : News h₀ L h ((D3, listOf ov.toArray n) :: nw) := hovl ▸ N3
    clear N3
    k_steps
    rename_i kh4 kF4 kN4 ktk4
    show wpAny _ _ _ _ _ _
    have e1 : Int.fdiv (((nv.length : Nat) : Int) - 1) 2 = (((n - 1) / 2 : Nat) : Int) := by
      rw [hnvl, show ((n : Nat) : Int) - 1 = ((n - 1 : Nat) : Int) from om32 hn12]; exact fd2 _
    rw [e1]
    with_unfolding_all refine' middle_call (lt := kLt fun i => kap (nums zs i).natAbs) (gt := kGt fun i => kap (nums zs i).natAbs) (ws := ov) ?y1 ?y2 ?y3 ?y4 ?y5 ?z1 ?z2 ?z3 ?z4 ?z5 ?z6 ?z7 ?_
    case z2 => k_asm
    case z4 => k_asm
    case y1 => first | exact om30 hovl hn12 | exact om27 hn12 rfl | ((try dsimp only); first | assumption | exact om1 ‹_› ‹_› rfl | exact om1 rfl ‹_› rfl | exact om3 ‹_› ‹_› rfl | exact om3 rfl ‹_› rfl | exact om2 ‹_› ‹_› rfl | exact om2 rfl ‹_› rfl | exact om14 ‹_› rfl | exact om15 ‹_› | exact om16 ‹_› ‹_› | exact om17 ‹_› ‹_› rfl | exact om9 ‹_› ‹_› | exact om24 ‹_› ‹_› | ((try refine And.intro ?_ ?_); (all_goals ((try show _ + 1 ≤ _); (iterate 20 (try first | exact Nat.le_refl _ | exact Nat.zero_le _ | assumption | refine om20 (by k_asm) ?_ | refine om21 (by k_asm) ?_ | (with_reducible show _ + 1 ≤ _ + 1; refine Nat.succ_le_succ ?_) | (with_reducible show _ ≤ _ + _; refine Nat.le_succ_of_le ?_) | refine om20 (om13 (by k_asm)) ?_ | refine om21 (om13 (by k_asm)) ?_ | refine om20 (A1 (by k_asm)) ?_ | refine om21 (A1 (by k_asm)) ?_)); done))) | omega)
    case y2 => first | exact om30 hovl hn12 | exact om27 hn12 rfl | ((try dsimp only); first | assumption | exact om1 ‹_› ‹_› rfl | exact om1 rfl ‹_› rfl | exact om3 ‹_› ‹_› rfl | exact om3 rfl ‹_› rfl | exact om2 ‹_› ‹_› rfl | exact om2 rfl ‹_› rfl | exact om14 ‹_› rfl | exact om15 ‹_› | exact om16 ‹_› ‹_› | exact om17 ‹_› ‹_› rfl | exact om9 ‹_› ‹_› | exact om24 ‹_› ‹_› | ((try refine And.intro ?_ ?_); (all_goals ((try show _ + 1 ≤ _); (iterate 20 (try first | exact Nat.le_refl _ | exact Nat.zero_le _ | assumption | refine om20 (by k_asm) ?_ | refine om21 (by k_asm) ?_ | (with_reducible show _ + 1 ≤ _ + 1; refine Nat.succ_le_succ ?_) | (with_reducible show _ ≤ _ + _; refine Nat.le_succ_of_le ?_) | refine om20 (om13 (by k_asm)) ?_ | refine om21 (om13 (by k_asm)) ?_ | refine om20 (A1 (by k_asm)) ?_ | refine om21 (A1 (by k_asm)) ?_)); done))) | omega)
    case y3 => exact .head _
    case y4 => exact fun i v j x hi hj => Cmp.mono ((ord_lt hov hT).1 i v j x hi hj) fun q hq => .tail _ hq
    case y5 => exact fun i v j x hi hj => Cmp.mono ((ord_lt hov hT).2 i v j x hi hj) fun q hq => .tail _ hq
    case z1 => assumption
    case z3 => assumption
    case z5 => assumption
    case z6 => k_room
    case z7 => k_units
    intro h5 tk5 tv5 F5 N5 ht2
    refine x1c3 (midI_at (fun i => kap (nums zs i).natAbs) (n := ov.length) (p := (n - 1) / 2) (lt := kLt fun i => kap (nums zs i).natAbs) (gt := kGt fun i => kap (nums zs i).natAbs) (fun _ _ _ _ => rfl) (fun _ _ _ _ => rfl) (by first | exact om30 hovl hn12 | ((try dsimp only); first | assumption | exact om1 ‹_› ‹_› rfl | exact om1 rfl ‹_› rfl | exact om3 ‹_› ‹_› rfl | exact om3 rfl ‹_› rfl | exact om2 ‹_› ‹_› rfl | exact om2 rfl ‹_› rfl | exact om14 ‹_› rfl | exact om15 ‹_› | exact om16 ‹_› ‹_› | exact om17 ‹_› ‹_› rfl | exact om9 ‹_› ‹_› | exact om24 ‹_› ‹_› | ((try refine And.intro ?_ ?_); (all_goals ((try show _ + 1 ≤ _); (iterate 20 (try first | exact Nat.le_refl _ | exact Nat.zero_le _ | assumption | refine om20 (by k_asm) ?_ | refine om21 (by k_asm) ?_ | (with_reducible show _ + 1 ≤ _ + 1; refine Nat.succ_le_succ ?_) | (with_reducible show _ ≤ _ + _; refine Nat.le_succ_of_le ?_) | refine om20 (om13 (by k_asm)) ?_ | refine om21 (om13 (by k_asm)) ?_ | refine om20 (A1 (by k_asm)) ?_ | refine om21 (A1 (by k_asm)) ?_)); done))) | omega))) fun kk hkk ekk mkk => ?_
    rw [ekk]
    k_steps
    show wpAny _ _ _ _ _ _
    obtain ⟨tl, hl⟩ := cP.get (i := kk) (by ((try dsimp only); first | assumption | exact om1 ‹_› ‹_› rfl | exact om1 rfl ‹_› rfl | exact om3 ‹_› ‹_› rfl | exact om3 rfl ‹_› rfl | exact om2 ‹_› ‹_› rfl | exact om2 rfl ‹_› rfl | exact om14 ‹_› rfl | exact om15 ‹_› | exact om16 ‹_› ‹_› | exact om17 ‹_› ‹_› rfl | exact om9 ‹_› ‹_› | exact om24 ‹_› ‹_› | ((try refine And.intro ?_ ?_); (all_goals ((try show _ + 1 ≤ _); (iterate 20 (try first | exact Nat.le_refl _ | exact Nat.zero_le _ | assumption | refine om20 (by k_asm) ?_ | refine om21 (by k_asm) ?_ | (with_reducible show _ + 1 ≤ _ + 1; refine Nat.succ_le_succ ?_) | (with_reducible show _ ≤ _ + _; refine Nat.le_succ_of_le ?_) | refine om20 (om13 (by k_asm)) ?_ | refine om21 (om13 (by k_asm)) ?_ | refine om20 (A1 (by k_asm)) ?_ | refine om21 (A1 (by k_asm)) ?_)); done))) | omega))
    refine sub_list N5 (.tail _ iP') hl (by ((try dsimp only); first | assumption | exact om1 ‹_› ‹_› rfl | exact om1 rfl ‹_› rfl | exact om3 ‹_› ‹_› rfl | exact om3 rfl ‹_› rfl | exact om2 ‹_› ‹_› rfl | exact om2 rfl ‹_› rfl | exact om14 ‹_› rfl | exact om15 ‹_› | exact om16 ‹_› ‹_› | exact om17 ‹_› ‹_› rfl | exact om9 ‹_› ‹_› | exact om24 ‹_› ‹_› | ((try refine And.intro ?_ ?_); (all_goals ((try show _ + 1 ≤ _); (iterate 20 (try first | exact Nat.le_refl _ | exact Nat.zero_le _ | assumption | refine om20 (by k_asm) ?_ | refine om21 (by k_asm) ?_ | (with_reducible show _ + 1 ≤ _ + 1; refine Nat.succ_le_succ ?_) | (with_reducible show _ ≤ _ + _; refine Nat.le_succ_of_le ?_) | refine om20 (om13 (by k_asm)) ?_ | refine om21 (om13 (by k_asm)) ?_ | refine om20 (A1 (by k_asm)) ?_ | refine om21 (A1 (by k_asm)) ?_)); done))) | omega)) ?_
    k_steps
    have e2 : Int.fdiv ((nv.length : Nat) : Int) 2 = ((n / 2 : Nat) : Int) := by rw [hnvl]; exact fd2 _
    rw [hovl] at mkk hkk
    refine hQ _ _ _ ((D3, listOf ov.toArray n) :: nw) (by k_asm) (by assumption) ⟨NV, SV, WV, PV, nv, sv, wv, pv, by with_unfolding_all exact mN, by with_unfolding_all exact mS, by with_unfolding_all exact mW, by with_unfolding_all exact mP, .tail _ iN', .tail _ iS', .tail _ iW', .tail _ iP', cN.mono ?o1, ⟨τs, hsv, fun i hi => ⟨(hsb i hi).1, Nat.lt_of_lt_of_le (hsb i hi).2 ?o2⟩, hsi⟩, cW.mono ?o3, cP⟩
      ⟨D3, ov, T, t1, t2, _, _, _, _, tl, kk, by with_unfolding_all rfl, .head _, hov, fun i hi => .tail _ (hT i hi), by with_unfolding_all rfl, e1, by with_unfolding_all rfl, e2, hkk, mkk, by with_unfolding_all rfl⟩ ?o4
    all_goals (dsimp only at *; ((try dsimp only); first | assumption | exact om1 ‹_› ‹_› rfl | exact om1 rfl ‹_› rfl | exact om3 ‹_› ‹_› rfl | exact om3 rfl ‹_› rfl | exact om2 ‹_› ‹_› rfl | exact om2 rfl ‹_› rfl | exact om14 ‹_› rfl | exact om15 ‹_› | exact om16 ‹_› ‹_› | exact om17 ‹_› ‹_› rfl | exact om9 ‹_› ‹_› | exact om24 ‹_› ‹_› | ((try refine And.intro ?_ ?_); (all_goals ((try show _ + 1 ≤ _); (iterate 20 (try first | exact Nat.le_refl _ | exact Nat.zero_le _ | assumption | refine om20 (by k_asm) ?_ | refine om21 (by k_asm) ?_ | (with_reducible show _ + 1 ≤ _ + 1; refine Nat.succ_le_succ ?_) | (with_reducible show _ ≤ _ + _; refine Nat.le_succ_of_le ?_) | refine om20 (om13 (by k_asm)) ?_ | refine om21 (om13 (by k_asm)) ?_ | refine om20 (A1 (by k_asm)) ?_ | refine om21 (A1 (by k_asm)) ?_)); done))) | omega))
end
end Mine
end
-- WLc
section
namespace Mine
theorem rstWLc : True := by (w_top off); trivial
section
variable {w : World} {mean : ExcName → Option Value} {mg mb : Str → Option Value}
   {dp un : Nat} {gd : Option (List Code)} {cn : Str} {nm : List (Str × NameKind)} {ig ic : Bool} {mo : List (Str × Const)} {a : Addr} {ccd : Value} {outer : List Env} {A₀ : Around} {base h₀ : Heap} {L : Addr} {m : Str → Option Value} {s : Shared} {Q E : Value → Shared → Prop} {news : List (Addr × Obj)}
theorem row_allB {b : Nat → Array UInt8} {n : Nat} {wv : List Value} (h : Row (fun i t => .bytes (b i) t) n wv) : AllB wv := by
  obtain ⟨τ, rfl⟩ := h
  intro v hv
  obtain ⟨i, _, rfl⟩ := List.mem_map.mp hv
  exact ⟨_, _, rfl⟩
theorem row_bAt {b : Nat → Array UInt8} {n i : Nat} {wv : List Value} (h : Row (fun i t => .bytes (b i) t) n wv) (hi : i < n) : bAt wv i = nats (b i) := by
  obtain ⟨τ, rfl⟩ := h
  unfold bAt
  rw [List.getD_eq_getElem?_getD]
  simp [hi, bOf]
theorem row_mid {b : Nat → Array UInt8} {k : Nat → Nat} {n p x kk : Nat} {wv : List Value} {v : Value} (h : Row (fun i t => .bytes (b i) t) n wv) (hk : ∀ i j, i < n → j < n → decide (nats (b i) < nats (b j)) = decide (k i < k j)) (hb : ∀ i j, i < n → j < n → k i = k j → b i = b j)
   (hx : wv[x]? = some v) (hm : midOk (bLt wv) (bGt wv) wv.length p x = true) (hkk : kk < n) (hm2 : midOk (kLt k) (kGt k) n p kk = true) : ∃ t, v = .bytes (b kk) t := by
  have hl := h.len
  have hxn : x < n := by have := (List.getElem?_eq_some_iff.mp hx).1; ((try dsimp only); first | assumption | exact om1 ‹_› ‹_› rfl | exact om1 rfl ‹_› rfl | exact om3 ‹_› ‹_› rfl | exact om3 rfl ‹_› rfl | exact om2 ‹_› ‹_› rfl | exact om2 rfl ‹_› rfl | exact om14 ‹_› rfl | exact om15 ‹_› | exact om16 ‹_› ‹_› | exact om17 ‹_› ‹_› rfl | exact om9 ‹_› ‹_› | exact om24 ‹_› ‹_› | ((try refine And.intro ?_ ?_); (all_goals ((try show _ + 1 ≤ _); (iterate 20 (try first | exact Nat.le_refl _ | exact Nat.zero_le _ | assumption | refine om20 (by k_asm) ?_ | refine om21 (by k_asm) ?_ | (with_reducible show _ + 1 ≤ _ + 1; refine Nat.succ_le_succ ?_) | (with_reducible show _ ≤ _ + _; refine Nat.le_succ_of_le ?_) | refine om20 (om13 (by k_asm)) ?_ | refine om21 (om13 (by k_asm)) ?_ | refine om20 (A1 (by k_asm)) ?_ | refine om21 (A1 (by k_asm)) ?_)); done))) | omega)
  obtain ⟨t, ht⟩ := h.get hxn
  rw [hx] at ht
  obtain rfl := Option.some.inj ht
  rw [hl] at hm
  have hc : midOk (bLt wv) (bGt wv) n p x = midOk (kLt k) (kGt k) n p x := midOk_congr (fun j hj => by
    unfold bLt kLt; rw [row_bAt h hj, row_bAt h hxn]; exact hk j x hj hxn) (fun j hj => by
    unfold bGt kGt; rw [row_bAt h hj, row_bAt h hxn]; exact hk x j hxn hj)
  rw [hc] at hm
  refine ⟨t, ?_⟩
  show Value.bytes (b x) t = _
  rw [hb x kk hxn hkk (mid_same k hxn hkk hm hm2)]
theorem ne_self {prog : Program} {A : Around} {b c : Array UInt8} {t u : Tok} (e : b = c) (h : Q (.bool false) s) : wpAny (model prog w) A (compareOp .NotEq (.bytes b t) (.bytes c u)) Q E s := by
  subst e
  refine ne_bytes ?_
  have : (b.toList != b.toList) = false := by simp
  rw [this]; exact h
local macro_rules | `(tactic| walk_at "compareOp NotEq bytes bytes") => `(tactic| (k_here; refine ne_self rfl ?_))
local macro_rules | `(tactic| walk_at "compareOp NotEq") => `(tactic| (k_here; refine stop_here ?_))
theorem kt_keeps {h h' : Heap} (T : KtsTurn (Fs []) h h') : ∀ b o, h.get? b = some o → h'.get? b = some o := fun b o e => T.other b o e (fun hm => by cases hm)
theorem law_C {Q : Flow → Shared → Prop} {qn : Str} {L a : Addr} {cdv : Value} {zs : List Int} {n : Nat} (hnn : IsN zs n) (hS : St1 zs n m news s.toks) (hS2 : St2 zs n m news)
   (G : Gd w mean mg mb callerA base [] h₀) (F₀ : Fr h₀ L s.heap m) (N₀ : News h₀ L s.heap news)
   (hQ : ∀ h₁ h' (tk' : Nat), Gd w mean mg mb callerA base [] h₁ → (∀ b o, h₀.get? b = some o → h₁.get? b = some o) → Fr h₁ L h' m → News h₁ L h' news → s.toks ≤ tk' → Q .next { s with heap := h', toks := tk' }) :
   wpAny (model Challenge.rw_ij0174_01.row.prog w) (callerA.deeper (lawEnv qn L a cdv)) (execs ((lawCode.1.drop 9).take 1) (lawEnv qn L a cdv)) Q E s := by
  have hn12 : n < 12 ∧ 5 ≤ n := hnn.five
  obtain ⟨NV, SV, WV, PV, nv, sv, wv, pv, mN, mS, mW, mP, iN, iS, iW, iP, cN, cS, cW, cP⟩ := hS
  obtain ⟨OV, ov, T, t1, t2, lo, hi, tlo, thi, tl, kk, mO, iO, hov, hT, mlo, elo, mhi, ehi, hkk, mkk, mlow⟩ := hS2
  have hovl : ov.length = n := by rw [hov]; simp
  have hwvl := cW.len
  have hpvl := cP.len
  have G₀ := G
  have hwlt : ∀ i j, i < n → j < n → decide (nats ((fun i => (wordOf (nums zs i).natAbs).toArray) i) < nats ((fun i => (wordOf (nums zs i).natAbs).toArray) j)) = decide ((fun i => kap (nums zs i).natAbs) i < (fun i => kap (nums zs i).natAbs) j) := fun i j _ _ => word_lt (nums_lt zs i) (nums_lt zs j)
  have hweq : ∀ i j, i < n → j < n → (fun i => kap (nums zs i).natAbs) i = (fun i => kap (nums zs i).natAbs) j → (fun i => (wordOf (nums zs i).natAbs).toArray) i = (fun i => (wordOf (nums zs i).natAbs).toArray) j := fun i j _ _ e => by
    have := kap_inj e
    show (wordOf (nums zs i).natAbs).toArray = _
    rw [this]
  have B := G.B; have X := G.X; have T' := G.T; have XB := G.XB; have TB := G.TB; have D' := G.D
  unfold lawEnv
  rw [lawCode_eq ?zo]
  case zo => rfl
  dsimp only [List.drop, List.take]
  revert X
  k_fill
  intro X
  refine let_ar ?_; intro ar9
  k_steps
  show wpAny _ _ _ _ _ _
  with_unfolding_all refine' low_call ?y1 ?y2 ?y3 ?y4 ?z1 ?z2 ?z3 ?z4 ?z5 ?z6 ?z7 ?_
  case z2 => k_asm
  case z4 => k_asm
  case y4 => exact iW
  case y1 => ((try dsimp only); first | assumption | exact om1 ‹_› ‹_› rfl | exact om1 rfl ‹_› rfl | exact om3 ‹_› ‹_› rfl | exact om3 rfl ‹_› rfl | exact om2 ‹_› ‹_› rfl | exact om2 rfl ‹_› rfl | exact om14 ‹_› rfl | exact om15 ‹_› | exact om16 ‹_› ‹_› | exact om17 ‹_› ‹_› rfl | exact om9 ‹_› ‹_› | exact om24 ‹_› ‹_› | ((try refine And.intro ?_ ?_); (all_goals ((try show _ + 1 ≤ _); (iterate 20 (try first | exact Nat.le_refl _ | exact Nat.zero_le _ | assumption | refine om20 (by k_asm) ?_ | refine om21 (by k_asm) ?_ | (with_reducible show _ + 1 ≤ _ + 1; refine Nat.succ_le_succ ?_) | (with_reducible show _ ≤ _ + _; refine Nat.le_succ_of_le ?_) | refine om20 (om13 (by k_asm)) ?_ | refine om21 (om13 (by k_asm)) ?_ | refine om20 (A1 (by k_asm)) ?_ | refine om21 (A1 (by k_asm)) ?_)); done))) | omega)
  case y2 => ((try dsimp only); first | assumption | exact om1 ‹_› ‹_› rfl | exact om1 rfl ‹_› rfl | exact om3 ‹_› ‹_› rfl | exact om3 rfl ‹_› rfl | exact om2 ‹_› ‹_› rfl | exact om2 rfl ‹_› rfl | exact om14 ‹_› rfl | exact om15 ‹_› | exact om16 ‹_› ‹_› | exact om17 ‹_› ‹_› rfl | exact om9 ‹_› ‹_› | exact om24 ‹_› ‹_› | ((try refine And.intro ?_ ?_); (all_goals ((try show _ + 1 ≤ _); (iterate 20 (try first | exact Nat.le_refl _ | exact Nat.zero_le _ | assumption | refine om20 (by k_asm) ?_ | refine om21 (by k_asm) ?_ | (with_reducible show _ + 1 ≤ _ + 1; refine Nat.succ_le_succ ?_) | (with_reducible show _ ≤ _ + _; refine Nat.le_succ_of_le ?_) | refine om20 (om13 (by k_asm)) ?_ | refine om21 (om13 (by k_asm)) ?_ | refine om20 (A1 (by k_asm)) ?_ | refine om21 (A1 (by k_asm)) ?_)); done))) | omega)
  case y3 => exact row_allB cW.row
  case z1 => assumption
  case z3 => assumption
  case z5 => assumption
  case z6 => k_room
  case z7 => k_units
  intro x v h5 tk5 hx hm5 F5 N5 ht5
  rw [hwvl] at hm5
  obtain ⟨tv, rfl⟩ := row_mid cW.row hwlt hweq hx (by rw [hwvl]; exact hm5) hkk mkk
  k_steps
  show wpAny _ _ _ _ _ _
  refine x1c3 (midI_at (fun i => kap (nums zs i).natAbs) (n := n) (p := n / 2) (lt := kLt fun i => kap (nums zs i).natAbs) (gt := kGt fun i => kap (nums zs i).natAbs) (fun _ _ _ _ => rfl) (fun _ _ _ _ => rfl) (by ((try dsimp only); first | assumption | exact om1 ‹_› ‹_› rfl | exact om1 rfl ‹_› rfl | exact om3 ‹_› ‹_› rfl | exact om3 rfl ‹_› rfl | exact om2 ‹_› ‹_› rfl | exact om2 rfl ‹_› rfl | exact om14 ‹_› rfl | exact om15 ‹_› | exact om16 ‹_› ‹_› | exact om17 ‹_› ‹_› rfl | exact om9 ‹_› ‹_› | exact om24 ‹_› ‹_› | ((try refine And.intro ?_ ?_); (all_goals ((try show _ + 1 ≤ _); (iterate 20 (try first | exact Nat.le_refl _ | exact Nat.zero_le _ | assumption | refine om20 (by k_asm) ?_ | refine om21 (by k_asm) ?_ | (with_reducible show _ + 1 ≤ _ + 1; refine Nat.succ_le_succ ?_) | (with_reducible show _ ≤ _ + _; refine Nat.le_succ_of_le ?_) | refine om20 (om13 (by k_asm)) ?_ | refine om21 (om13 (by k_asm)) ?_ | refine om20 (A1 (by k_asm)) ?_ | refine om21 (A1 (by k_asm)) ?_)); done))) | omega))) fun k2 hk2 ek2 mk2 => ?_
  with_unfolding_all refine' high_call ?y1 ?y2 ?y3 ?y4 ?z1 ?z2 ?z3 ?z4 ?z5 ?z6 ?z7 ?_
  case z2 => k_asm
  case z4 => k_asm
  case y4 => exact iW
  case y1 => ((try dsimp only); first | assumption | exact om1 ‹_› ‹_› rfl | exact om1 rfl ‹_› rfl | exact om3 ‹_› ‹_› rfl | exact om3 rfl ‹_› rfl | exact om2 ‹_› ‹_› rfl | exact om2 rfl ‹_› rfl | exact om14 ‹_› rfl | exact om15 ‹_› | exact om16 ‹_› ‹_› | exact om17 ‹_› ‹_› rfl | exact om9 ‹_› ‹_› | exact om24 ‹_› ‹_› | ((try refine And.intro ?_ ?_); (all_goals ((try show _ + 1 ≤ _); (iterate 20 (try first | exact Nat.le_refl _ | exact Nat.zero_le _ | assumption | refine om20 (by k_asm) ?_ | refine om21 (by k_asm) ?_ | (with_reducible show _ + 1 ≤ _ + 1; refine Nat.succ_le_succ ?_) | (with_reducible show _ ≤ _ + _; refine Nat.le_succ_of_le ?_) | refine om20 (om13 (by k_asm)) ?_ | refine om21 (om13 (by k_asm)) ?_ | refine om20 (A1 (by k_asm)) ?_ | refine om21 (A1 (by k_asm)) ?_)); done))) | omega)
  case y2 => ((try dsimp only); first | assumption | exact om1 ‹_› ‹_› rfl | exact om1 rfl ‹_› rfl | exact om3 ‹_› ‹_› rfl | exact om3 rfl ‹_› rfl | exact om2 ‹_› ‹_› rfl | exact om2 rfl ‹_› rfl | exact om14 ‹_› rfl | exact om15 ‹_› | exact om16 ‹_› ‹_› | exact om17 ‹_› ‹_› rfl | exact om9 ‹_› ‹_› | exact om24 ‹_› ‹_› | ((try refine And.intro ?_ ?_); (all_goals ((try show _ + 1 ≤ _); (iterate 20 (try first | exact Nat.le_refl _ | exact Nat.zero_le _ | assumption | refine om20 (by k_asm) ?_ | refine om21 (by k_asm) ?_ | (with_reducible show _ + 1 ≤ _ + 1; refine Nat.succ_le_succ ?_) | (with_reducible show _ ≤ _ + _; refine Nat.le_succ_of_le ?_) | refine om20 (om13 (by k_asm)) ?_ | refine om21 (om13 (by k_asm)) ?_ | refine om20 (A1 (by k_asm)) ?_ | refine om21 (A1 (by k_asm)) ?_)); done))) | omega)
  case y3 => exact row_allB cW.row
  case z1 => assumption
  case z3 => assumption
  case z5 => assumption
  case z6 => k_room
  case z7 => k_units
  intro x2 v2 h6 tk6 hx2 hm6 F6 N6 ht6
  rw [hwvl] at hm6
  obtain ⟨tv2, rfl⟩ := row_mid cW.row hwlt hweq hx2 (by rw [hwvl]; exact hm6) hk2 mk2
  k_steps
  show wpAny _ _ _ _ _ _
  rw [ehi]
  with_unfolding_all refine' middle_call (lt := kLt fun i => kap (nums zs i).natAbs) (gt := kGt fun i => kap (nums zs i).natAbs) (ws := ov) ?y1 ?y2 ?y3 ?y4 ?y5 ?z1 ?z2 ?z3 ?z4 ?z5 ?z6 ?z7 ?_
  case z2 => k_asm
  case z4 => k_asm
  case y1 => ((try dsimp only); first | assumption | exact om1 ‹_› ‹_› rfl | exact om1 rfl ‹_› rfl | exact om3 ‹_› ‹_› rfl | exact om3 rfl ‹_› rfl | exact om2 ‹_› ‹_› rfl | exact om2 rfl ‹_› rfl | exact om14 ‹_› rfl | exact om15 ‹_› | exact om16 ‹_› ‹_› | exact om17 ‹_› ‹_› rfl | exact om9 ‹_› ‹_› | exact om24 ‹_› ‹_› | ((try refine And.intro ?_ ?_); (all_goals ((try show _ + 1 ≤ _); (iterate 20 (try first | exact Nat.le_refl _ | exact Nat.zero_le _ | assumption | refine om20 (by k_asm) ?_ | refine om21 (by k_asm) ?_ | (with_reducible show _ + 1 ≤ _ + 1; refine Nat.succ_le_succ ?_) | (with_reducible show _ ≤ _ + _; refine Nat.le_succ_of_le ?_) | refine om20 (om13 (by k_asm)) ?_ | refine om21 (om13 (by k_asm)) ?_ | refine om20 (A1 (by k_asm)) ?_ | refine om21 (A1 (by k_asm)) ?_)); done))) | omega)
  case y2 => ((try dsimp only); first | assumption | exact om1 ‹_› ‹_› rfl | exact om1 rfl ‹_› rfl | exact om3 ‹_› ‹_› rfl | exact om3 rfl ‹_› rfl | exact om2 ‹_› ‹_› rfl | exact om2 rfl ‹_› rfl | exact om14 ‹_› rfl | exact om15 ‹_› | exact om16 ‹_› ‹_› | exact om17 ‹_› ‹_› rfl | exact om9 ‹_› ‹_› | exact om24 ‹_› ‹_› | ((try refine And.intro ?_ ?_); (all_goals ((try show _ + 1 ≤ _); (iterate 20 (try first | exact Nat.le_refl _ | exact Nat.zero_le _ | assumption | refine om20 (by k_asm) ?_ | refine om21 (by k_asm) ?_ | (with_reducible show _ + 1 ≤ _ + 1; refine Nat.succ_le_succ ?_) | (with_reducible show _ ≤ _ + _; refine Nat.le_succ_of_le ?_) | refine om20 (om13 (by k_asm)) ?_ | refine om21 (om13 (by k_asm)) ?_ | refine om20 (A1 (by k_asm)) ?_ | refine om21 (A1 (by k_asm)) ?_)); done))) | omega)
  case y3 => exact iO
  case y4 => exact (ord_lt hov hT).1
  case y5 => exact (ord_lt hov hT).2
  case z1 => assumption
  case z3 => assumption
  case z5 => assumption
  case z6 => k_room
  case z7 => k_units
  intro h7 tk7 tv7 F7 N7 ht7
  rw [hovl, ek2]
  k_steps
  show wpAny _ _ _ _ _ _
  obtain ⟨tl3, hl3⟩ := cP.get (i := k2) (by ((try dsimp only); first | assumption | exact om1 ‹_› ‹_› rfl | exact om1 rfl ‹_› rfl | exact om3 ‹_› ‹_› rfl | exact om3 rfl ‹_› rfl | exact om2 ‹_› ‹_› rfl | exact om2 rfl ‹_› rfl | exact om14 ‹_› rfl | exact om15 ‹_› | exact om16 ‹_› ‹_› | exact om17 ‹_› ‹_› rfl | exact om9 ‹_› ‹_› | exact om24 ‹_› ‹_› | ((try refine And.intro ?_ ?_); (all_goals ((try show _ + 1 ≤ _); (iterate 20 (try first | exact Nat.le_refl _ | exact Nat.zero_le _ | assumption | refine om20 (by k_asm) ?_ | refine om21 (by k_asm) ?_ | (with_reducible show _ + 1 ≤ _ + 1; refine Nat.succ_le_succ ?_) | (with_reducible show _ ≤ _ + _; refine Nat.le_succ_of_le ?_) | refine om20 (om13 (by k_asm)) ?_ | refine om21 (om13 (by k_asm)) ?_ | refine om20 (A1 (by k_asm)) ?_ | refine om21 (A1 (by k_asm)) ?_)); done))) | omega))
  refine sub_list N7 iP hl3 (by ((try dsimp only); first | assumption | exact om1 ‹_› ‹_› rfl | exact om1 rfl ‹_› rfl | exact om3 ‹_› ‹_› rfl | exact om3 rfl ‹_› rfl | exact om2 ‹_› ‹_› rfl | exact om2 rfl ‹_› rfl | exact om14 ‹_› rfl | exact om15 ‹_› | exact om16 ‹_› ‹_› | exact om17 ‹_› ‹_› rfl | exact om9 ‹_› ‹_› | exact om24 ‹_› ‹_› | ((try refine And.intro ?_ ?_); (all_goals ((try show _ + 1 ≤ _); (iterate 20 (try first | exact Nat.le_refl _ | exact Nat.zero_le _ | assumption | refine om20 (by k_asm) ?_ | refine om21 (by k_asm) ?_ | (with_reducible show _ + 1 ≤ _ + 1; refine Nat.succ_le_succ ?_) | (with_reducible show _ ≤ _ + _; refine Nat.le_succ_of_le ?_) | refine om20 (om13 (by k_asm)) ?_ | refine om21 (om13 (by k_asm)) ?_ | refine om20 (A1 (by k_asm)) ?_ | refine om21 (A1 (by k_asm)) ?_)); done))) | omega)) ?_
  k_steps
  exact hQ _ _ _ G₀ (fun _ _ e => e) (by k_asm) (by assumption) (by dsimp only at *; ((try dsimp only); first | assumption | exact om1 ‹_› ‹_› rfl | exact om1 rfl ‹_› rfl | exact om3 ‹_› ‹_› rfl | exact om3 rfl ‹_› rfl | exact om2 ‹_› ‹_› rfl | exact om2 rfl ‹_› rfl | exact om14 ‹_› rfl | exact om15 ‹_› | exact om16 ‹_› ‹_› | exact om17 ‹_› ‹_› rfl | exact om9 ‹_› ‹_› | exact om24 ‹_› ‹_› | ((try refine And.intro ?_ ?_); (all_goals ((try show _ + 1 ≤ _); (iterate 20 (try first | exact Nat.le_refl _ | exact Nat.zero_le _ | assumption | refine om20 (by k_asm) ?_ | refine om21 (by k_asm) ?_ | (with_reducible show _ + 1 ≤ _ + 1; refine Nat.succ_le_succ ?_) | (with_reducible show _ ≤ _ + _; refine Nat.le_succ_of_le ?_) | refine om20 (om13 (by k_asm)) ?_ | refine om21 (om13 (by k_asm)) ?_ | refine om20 (A1 (by k_asm)) ?_ | refine om21 (A1 (by k_asm)) ?_)); done))) | omega))
theorem law_C2 {Q : Flow → Shared → Prop} {qn : Str} {L a : Addr} {cdv : Value} {zs : List Int} {n : Nat} (hnn : IsN zs n) (hS : St1 zs n m news s.toks) (hS2 : St2 zs n m news)
   (G : Gd w mean mg mb callerA base [] h₀) (F₀ : Fr h₀ L s.heap m) (N₀ : News h₀ L s.heap news)
   (hQ : ∀ h₁ h' (tk' : Nat), Gd w mean mg mb callerA base [] h₁ → (∀ b o, h₀.get? b = some o → h₁.get? b = some o) → Fr h₁ L h' m → News h₁ L h' news → s.toks ≤ tk' → Q .next { s with heap := h', toks := tk' }) :
   wpAny (model Challenge.rw_ij0174_01.row.prog w) (callerA.deeper (lawEnv qn L a cdv)) (execs ((lawCode.1.drop 10).take 1) (lawEnv qn L a cdv)) Q E s := by
  have hn12 : n < 12 ∧ 5 ≤ n := hnn.five
  obtain ⟨NV, SV, WV, PV, nv, sv, wv, pv, mN, mS, mW, mP, iN, iS, iW, iP, cN, cS, cW, cP⟩ := hS
  obtain ⟨OV, ov, T, t1, t2, lo, hi, tlo, thi, tl, kk, mO, iO, hov, hT, mlo, elo, mhi, ehi, hkk, mkk, mlow⟩ := hS2
  have hwvl := cW.len
  have G₀ := G
  have hwlt : ∀ i j, i < n → j < n → decide (nats ((fun i => (wordOf (nums zs i).natAbs).toArray) i) < nats ((fun i => (wordOf (nums zs i).natAbs).toArray) j)) = decide ((fun i => kap (nums zs i).natAbs) i < (fun i => kap (nums zs i).natAbs) j) := fun i j _ _ => word_lt (nums_lt zs i) (nums_lt zs j)
  have hweq : ∀ i j, i < n → j < n → (fun i => kap (nums zs i).natAbs) i = (fun i => kap (nums zs i).natAbs) j → (fun i => (wordOf (nums zs i).natAbs).toArray) i = (fun i => (wordOf (nums zs i).natAbs).toArray) j := fun i j _ _ e => by
    have := kap_inj e
    show (wordOf (nums zs i).natAbs).toArray = _
    rw [this]
  have B := G.B; have X := G.X; have T' := G.T; have XB := G.XB; have TB := G.TB; have D' := G.D
  unfold lawEnv
  rw [lawCode_eq ?zo]
  case zo => rfl
  dsimp only [List.drop, List.take]
  revert X
  k_fill
  intro X
  subst elo ehi
  have hpar : n % 2 = 1 ∨ n % 2 = 0 := (Nat.mod_two_eq_zero_or_one n).symm
  rcases hpar with hp | hp
  · k_steps
    show wpAny _ _ _ _ _ _
    with_unfolding_all refine' lawmed_odd ?y1 ?y2 ?y3 ?y4 ?y5 ?z1 ?z2 ?z3 ?z4 ?z5 ?_
    case z2 => k_asm
    case z3 => k_asm
    case y5 => exact iW
    case y1 => first | exact om31 hwvl hp | ((try dsimp only); first | assumption | exact om1 ‹_› ‹_› rfl | exact om1 rfl ‹_› rfl | exact om3 ‹_› ‹_› rfl | exact om3 rfl ‹_› rfl | exact om2 ‹_› ‹_› rfl | exact om2 rfl ‹_› rfl | exact om14 ‹_› rfl | exact om15 ‹_› | exact om16 ‹_› ‹_› | exact om17 ‹_› ‹_› rfl | exact om9 ‹_› ‹_› | exact om24 ‹_› ‹_› | ((try refine And.intro ?_ ?_); (all_goals ((try show _ + 1 ≤ _); (iterate 20 (try first | exact Nat.le_refl _ | exact Nat.zero_le _ | assumption | refine om20 (by k_asm) ?_ | refine om21 (by k_asm) ?_ | (with_reducible show _ + 1 ≤ _ + 1; refine Nat.succ_le_succ ?_) | (with_reducible show _ ≤ _ + _; refine Nat.le_succ_of_le ?_) | refine om20 (om13 (by k_asm)) ?_ | refine om21 (om13 (by k_asm)) ?_ | refine om20 (A1 (by k_asm)) ?_ | refine om21 (A1 (by k_asm)) ?_)); done))) | omega)
    case y2 => first | exact om31 hwvl hp | ((try dsimp only); first | assumption | exact om1 ‹_› ‹_› rfl | exact om1 rfl ‹_› rfl | exact om3 ‹_› ‹_› rfl | exact om3 rfl ‹_› rfl | exact om2 ‹_› ‹_› rfl | exact om2 rfl ‹_› rfl | exact om14 ‹_› rfl | exact om15 ‹_› | exact om16 ‹_› ‹_› | exact om17 ‹_› ‹_› rfl | exact om9 ‹_› ‹_› | exact om24 ‹_› ‹_› | ((try refine And.intro ?_ ?_); (all_goals ((try show _ + 1 ≤ _); (iterate 20 (try first | exact Nat.le_refl _ | exact Nat.zero_le _ | assumption | refine om20 (by k_asm) ?_ | refine om21 (by k_asm) ?_ | (with_reducible show _ + 1 ≤ _ + 1; refine Nat.succ_le_succ ?_) | (with_reducible show _ ≤ _ + _; refine Nat.le_succ_of_le ?_) | refine om20 (om13 (by k_asm)) ?_ | refine om21 (om13 (by k_asm)) ?_ | refine om20 (A1 (by k_asm)) ?_ | refine om21 (A1 (by k_asm)) ?_)); done))) | omega)
    case y3 => first | exact om31 hwvl hp | ((try dsimp only); first | assumption | exact om1 ‹_› ‹_› rfl | exact om1 rfl ‹_› rfl | exact om3 ‹_› ‹_› rfl | exact om3 rfl ‹_› rfl | exact om2 ‹_› ‹_› rfl | exact om2 rfl ‹_› rfl | exact om14 ‹_› rfl | exact om15 ‹_› | exact om16 ‹_› ‹_› | exact om17 ‹_› ‹_› rfl | exact om9 ‹_› ‹_› | exact om24 ‹_› ‹_› | ((try refine And.intro ?_ ?_); (all_goals ((try show _ + 1 ≤ _); (iterate 20 (try first | exact Nat.le_refl _ | exact Nat.zero_le _ | assumption | refine om20 (by k_asm) ?_ | refine om21 (by k_asm) ?_ | (with_reducible show _ + 1 ≤ _ + 1; refine Nat.succ_le_succ ?_) | (with_reducible show _ ≤ _ + _; refine Nat.le_succ_of_le ?_) | refine om20 (om13 (by k_asm)) ?_ | refine om21 (om13 (by k_asm)) ?_ | refine om20 (A1 (by k_asm)) ?_ | refine om21 (A1 (by k_asm)) ?_)); done))) | omega)
    case y4 => exact row_allB cW.row
    case z1 => exact ⟨by assumption, by assumption, by assumption, by assumption, by assumption, by assumption⟩
    case z4 => k_room
    case z5 => k_units
    intro x v h5 g5 tk5 hx hm5 G5 T5 F5 N5 ht5
    have hm5' : midOk (bLt wv) (bGt wv) wv.length ((n - 1) / 2) x = true := by rw [show (n - 1) / 2 = wv.length / 2 by rw [hwvl]; exact (om26 hp).symm]; exact hm5
    obtain ⟨tv, rfl⟩ := row_mid cW.row hwlt hweq hx hm5' hkk mkk
    have G5' := G5
    have B5 := G5.B; have X5 := G5.X; have P5 := G5.T; have XB5 := G5.XB; have TB5 := G5.TB; have D5 := G5.D
    k_steps
    all_goals first | (exfalso; ((try dsimp only); first | assumption | exact om1 ‹_› ‹_› rfl | exact om1 rfl ‹_› rfl | exact om3 ‹_› ‹_› rfl | exact om3 rfl ‹_› rfl | exact om2 ‹_› ‹_› rfl | exact om2 rfl ‹_› rfl | exact om14 ‹_› rfl | exact om15 ‹_› | exact om16 ‹_› ‹_› | exact om17 ‹_› ‹_› rfl | exact om9 ‹_› ‹_› | exact om24 ‹_› ‹_› | ((try refine And.intro ?_ ?_); (all_goals ((try show _ + 1 ≤ _); (iterate 20 (try first | exact Nat.le_refl _ | exact Nat.zero_le _ | assumption | refine om20 (by k_asm) ?_ | refine om21 (by k_asm) ?_ | (with_reducible show _ + 1 ≤ _ + 1; refine Nat.succ_le_succ ?_) | (with_reducible show _ ≤ _ + _; refine Nat.le_succ_of_le ?_) | refine om20 (om13 (by k_asm)) ?_ | refine om21 (om13 (by k_asm)) ?_ | refine om20 (A1 (by k_asm)) ?_ | refine om21 (A1 (by k_asm)) ?_)); done))) | omega)) | exact hQ _ _ _ G5' (kt_keeps T5) (by k_asm) (by assumption) (by dsimp only at *; ((try dsimp only); first | assumption | exact om1 ‹_› ‹_› rfl | exact om1 rfl ‹_› rfl | exact om3 ‹_› ‹_› rfl | exact om3 rfl ‹_› rfl | exact om2 ‹_› ‹_› rfl | exact om2 rfl ‹_› rfl | exact om14 ‹_› rfl | exact om15 ‹_› | exact om16 ‹_› ‹_› | exact om17 ‹_› ‹_› rfl | exact om9 ‹_› ‹_› | exact om24 ‹_› ‹_› | ((try refine And.intro ?_ ?_); (all_goals ((try show _ + 1 ≤ _); (iterate 20 (try first | exact Nat.le_refl _ | exact Nat.zero_le _ | assumption | refine om20 (by k_asm) ?_ | refine om21 (by k_asm) ?_ | (with_reducible show _ + 1 ≤ _ + 1; refine Nat.succ_le_succ ?_) | (with_reducible show _ ≤ _ + _; refine Nat.le_succ_of_le ?_) | refine om20 (om13 (by k_asm)) ?_ | refine om21 (om13 (by k_asm)) ?_ | refine om20 (A1 (by k_asm)) ?_ | refine om21 (A1 (by k_asm)) ?_)); done))) | omega))
  · k_steps
    show wpAny _ _ _ _ _ _
    with_unfolding_all refine' lawmed_even ?y1 ?y2 ?y3 ?y4 ?y6 ?y5 ?z1 ?z2 ?z3 ?z4 ?z5 ?_
    case z2 => k_asm
    case z3 => k_asm
    case y5 => exact iW
    case y1 => first | exact om31 hwvl hp | ((try dsimp only); first | assumption | exact om1 ‹_› ‹_› rfl | exact om1 rfl ‹_› rfl | exact om3 ‹_› ‹_› rfl | exact om3 rfl ‹_› rfl | exact om2 ‹_› ‹_› rfl | exact om2 rfl ‹_› rfl | exact om14 ‹_› rfl | exact om15 ‹_› | exact om16 ‹_› ‹_› | exact om17 ‹_› ‹_› rfl | exact om9 ‹_› ‹_› | exact om24 ‹_› ‹_› | ((try refine And.intro ?_ ?_); (all_goals ((try show _ + 1 ≤ _); (iterate 20 (try first | exact Nat.le_refl _ | exact Nat.zero_le _ | assumption | refine om20 (by k_asm) ?_ | refine om21 (by k_asm) ?_ | (with_reducible show _ + 1 ≤ _ + 1; refine Nat.succ_le_succ ?_) | (with_reducible show _ ≤ _ + _; refine Nat.le_succ_of_le ?_) | refine om20 (om13 (by k_asm)) ?_ | refine om21 (om13 (by k_asm)) ?_ | refine om20 (A1 (by k_asm)) ?_ | refine om21 (A1 (by k_asm)) ?_)); done))) | omega)
    case y2 => first | exact om31 hwvl hp | ((try dsimp only); first | assumption | exact om1 ‹_› ‹_› rfl | exact om1 rfl ‹_› rfl | exact om3 ‹_› ‹_› rfl | exact om3 rfl ‹_› rfl | exact om2 ‹_› ‹_› rfl | exact om2 rfl ‹_› rfl | exact om14 ‹_› rfl | exact om15 ‹_› | exact om16 ‹_› ‹_› | exact om17 ‹_› ‹_› rfl | exact om9 ‹_› ‹_› | exact om24 ‹_› ‹_› | ((try refine And.intro ?_ ?_); (all_goals ((try show _ + 1 ≤ _); (iterate 20 (try first | exact Nat.le_refl _ | exact Nat.zero_le _ | assumption | refine om20 (by k_asm) ?_ | refine om21 (by k_asm) ?_ | (with_reducible show _ + 1 ≤ _ + 1; refine Nat.succ_le_succ ?_) | (with_reducible show _ ≤ _ + _; refine Nat.le_succ_of_le ?_) | refine om20 (om13 (by k_asm)) ?_ | refine om21 (om13 (by k_asm)) ?_ | refine om20 (A1 (by k_asm)) ?_ | refine om21 (A1 (by k_asm)) ?_)); done))) | omega)
    case y3 => first | exact om31 hwvl hp | ((try dsimp only); first | assumption | exact om1 ‹_› ‹_› rfl | exact om1 rfl ‹_› rfl | exact om3 ‹_› ‹_› rfl | exact om3 rfl ‹_› rfl | exact om2 ‹_› ‹_› rfl | exact om2 rfl ‹_› rfl | exact om14 ‹_› rfl | exact om15 ‹_› | exact om16 ‹_› ‹_› | exact om17 ‹_› ‹_› rfl | exact om9 ‹_› ‹_› | exact om24 ‹_› ‹_› | ((try refine And.intro ?_ ?_); (all_goals ((try show _ + 1 ≤ _); (iterate 20 (try first | exact Nat.le_refl _ | exact Nat.zero_le _ | assumption | refine om20 (by k_asm) ?_ | refine om21 (by k_asm) ?_ | (with_reducible show _ + 1 ≤ _ + 1; refine Nat.succ_le_succ ?_) | (with_reducible show _ ≤ _ + _; refine Nat.le_succ_of_le ?_) | refine om20 (om13 (by k_asm)) ?_ | refine om21 (om13 (by k_asm)) ?_ | refine om20 (A1 (by k_asm)) ?_ | refine om21 (A1 (by k_asm)) ?_)); done))) | omega)
    case y4 => exact row_allB cW.row
    case y6 =>
      obtain ⟨τ, rfl⟩ := cW.row
      intro b t hb
      obtain ⟨i, _, e⟩ := List.mem_map.mp hb
      injection e with e
      rw [← e]
      show (wordOf _).length ≤ 3
      unfold wordOf
      rw [lets_len]; exact plc_le _
    case z1 => exact ⟨by assumption, by assumption, by assumption, by assumption, by assumption, by assumption⟩
    case z4 => k_room
    case z5 => k_units
    intro h5 g5 tk5 G5 T5 F5 N5 ht5
    have G5' := G5
    have B5 := G5.B; have X5 := G5.X; have P5 := G5.T; have XB5 := G5.XB; have TB5 := G5.TB; have D5 := G5.D
    k_steps
    all_goals first | (exfalso; ((try dsimp only); first | assumption | exact om1 ‹_› ‹_› rfl | exact om1 rfl ‹_› rfl | exact om3 ‹_› ‹_› rfl | exact om3 rfl ‹_› rfl | exact om2 ‹_› ‹_› rfl | exact om2 rfl ‹_› rfl | exact om14 ‹_› rfl | exact om15 ‹_› | exact om16 ‹_› ‹_› | exact om17 ‹_› ‹_› rfl | exact om9 ‹_› ‹_› | exact om24 ‹_› ‹_› | ((try refine And.intro ?_ ?_); (all_goals ((try show _ + 1 ≤ _); (iterate 20 (try first | exact Nat.le_refl _ | exact Nat.zero_le _ | assumption | refine om20 (by k_asm) ?_ | refine om21 (by k_asm) ?_ | (with_reducible show _ + 1 ≤ _ + 1; refine Nat.succ_le_succ ?_) | (with_reducible show _ ≤ _ + _; refine Nat.le_succ_of_le ?_) | refine om20 (om13 (by k_asm)) ?_ | refine om21 (om13 (by k_asm)) ?_ | refine om20 (A1 (by k_asm)) ?_ | refine om21 (A1 (by k_asm)) ?_)); done))) | omega)) | exact hQ _ _ _ G5' (kt_keeps T5) (by k_asm) (by assumption) (by dsimp only at *; ((try dsimp only); first | assumption | exact om1 ‹_› ‹_› rfl | exact om1 rfl ‹_› rfl | exact om3 ‹_› ‹_› rfl | exact om3 rfl ‹_› rfl | exact om2 ‹_› ‹_› rfl | exact om2 rfl ‹_› rfl | exact om14 ‹_› rfl | exact om15 ‹_› | exact om16 ‹_› ‹_› | exact om17 ‹_› ‹_› rfl | exact om9 ‹_› ‹_› | exact om24 ‹_› ‹_› | ((try refine And.intro ?_ ?_); (all_goals ((try show _ + 1 ≤ _); (iterate 20 (try first | exact Nat.le_refl _ | exact Nat.zero_le _ | assumption | refine om20 (by k_asm) ?_ | refine om21 (by k_asm) ?_ | (with_reducible show _ + 1 ≤ _ + 1; refine Nat.succ_le_succ ?_) | (with_reducible show _ ≤ _ + _; refine Nat.le_succ_of_le ?_) | refine om20 (om13 (by k_asm)) ?_ | refine om21 (om13 (by k_asm)) ?_ | refine om20 (A1 (by k_asm)) ?_ | refine om21 (A1 (by k_asm)) ?_)); done))) | omega))
end
end Mine
end
section
local macro_rules | `(tactic| walk_at "compareOp NotEq bytes bytes") => `(tactic| (k_here; refine ne_self rfl ?_))
local macro_rules | `(tactic| walk_at "call type:zip") => `(tactic| (k_here; refine stop_here ?_))
local macro_rules | `(tactic| walk_at "call builtin:sum") => `(tactic| (k_here; refine stop_here ?_))
local macro_rules | `(tactic| walk_at "exec For Name Tuple cons nil") => `(tactic| (k_here; refine stop_here ?_))
-- WLd
section
namespace Mine
theorem rstWLd : True := by (w_top off); trivial
section
variable {w : World} {mean : ExcName → Option Value} {mg mb : Str → Option Value}
   {dp un : Nat} {gd : Option (List Code)} {cn : Str} {nm : List (Str × NameKind)} {ig ic : Bool} {mo : List (Str × Const)} {a : Addr} {ccd : Value} {outer : List Env} {A₀ : Around} {base h₀ : Heap} {L : Addr} {m : Str → Option Value} {s : Shared} {Q E : Value → Shared → Prop} {news : List (Addr × Obj)}
theorem len_word {prog : Program} {A : Around} {k : Nat} {t : Tok} (h : Q (.int ((plc k : Nat) : Int) (s.toks + 1)) { s with toks := s.toks + 1 + 1 }) : wpAny (model prog w) A (call (.builtin "len") [.bytes (wordOf k).toArray t]) Q E s := by
  have e : (wordOf k).toArray.size = plc k := by unfold wordOf; simp [lets_len]
  refine len_bytes (by rw [e]; have := plc_le k; ((try dsimp only); first | assumption | exact om1 ‹_› ‹_› rfl | exact om1 rfl ‹_› rfl | exact om3 ‹_› ‹_› rfl | exact om3 rfl ‹_› rfl | exact om2 ‹_› ‹_› rfl | exact om2 rfl ‹_› rfl | exact om14 ‹_› rfl | exact om15 ‹_› | exact om16 ‹_› ‹_› | exact om17 ‹_› ‹_› rfl | exact om9 ‹_› ‹_› | exact om24 ‹_› ‹_› | ((try refine And.intro ?_ ?_); (all_goals ((try show _ + 1 ≤ _); (iterate 20 (try first | exact Nat.le_refl _ | exact Nat.zero_le _ | assumption | refine om20 (by k_asm) ?_ | refine om21 (by k_asm) ?_ | (with_reducible show _ + 1 ≤ _ + 1; refine Nat.succ_le_succ ?_) | (with_reducible show _ ≤ _ + _; refine Nat.le_succ_of_le ?_) | refine om20 (om13 (by k_asm)) ?_ | refine om21 (om13 (by k_asm)) ?_ | refine om20 (A1 (by k_asm)) ?_ | refine om21 (A1 (by k_asm)) ?_)); done))) | omega)) ?_
  rw [e]; exact h
theorem rep65 : ∀ n : Fin 4, Builtin.Bytes.repeated #[65] n.val = (List.replicate n.val (65 : UInt8)).toArray ∧ (Builtin.Bytes.repeated #[65] n.val).size = n.val := by decide +kernel
theorem fill_mul {prog : Program} {A : Around} {k : Nat} {i : Int} {t : Nat} {u : Tok} (hi : i = 3 - ((plc k : Nat) : Int))
   (h : ∀ (t' tk : Nat), s.toks ≤ tk → (t' = t ∨ (s.toks ≤ t' ∧ t' < tk)) → Q (.bytes (List.replicate (3 - plc k) (65 : UInt8)).toArray t') { s with toks := tk }) :
   wpAny (model prog w) A (binaryOp .Mult (.bytes #[65] t) (.int i u)) Q E s := by
  have hpl := plc_le k
  have r := rep65 ⟨3 - plc k, by ((try dsimp only); first | assumption | exact om1 ‹_› ‹_› rfl | exact om1 rfl ‹_› rfl | exact om3 ‹_› ‹_› rfl | exact om3 rfl ‹_› rfl | exact om2 ‹_› ‹_› rfl | exact om2 rfl ‹_› rfl | exact om14 ‹_› rfl | exact om15 ‹_› | exact om16 ‹_› ‹_› | exact om17 ‹_› ‹_› rfl | exact om9 ‹_› ‹_› | exact om24 ‹_› ‹_› | ((try refine And.intro ?_ ?_); (all_goals ((try show _ + 1 ≤ _); (iterate 20 (try first | exact Nat.le_refl _ | exact Nat.zero_le _ | assumption | refine om20 (by k_asm) ?_ | refine om21 (by k_asm) ?_ | (with_reducible show _ + 1 ≤ _ + 1; refine Nat.succ_le_succ ?_) | (with_reducible show _ ≤ _ + _; refine Nat.le_succ_of_le ?_) | refine om20 (om13 (by k_asm)) ?_ | refine om21 (om13 (by k_asm)) ?_ | refine om20 (A1 (by k_asm)) ?_ | refine om21 (A1 (by k_asm)) ?_)); done))) | omega)⟩
  dsimp only at r
  refine mul_bytesG (n := 3 - plc k) (by ((try dsimp only); first | assumption | exact om1 ‹_› ‹_› rfl | exact om1 rfl ‹_› rfl | exact om3 ‹_› ‹_› rfl | exact om3 rfl ‹_› rfl | exact om2 ‹_› ‹_› rfl | exact om2 rfl ‹_› rfl | exact om14 ‹_› rfl | exact om15 ‹_› | exact om16 ‹_› ‹_› | exact om17 ‹_› ‹_› rfl | exact om9 ‹_› ‹_› | exact om24 ‹_› ‹_› | ((try refine And.intro ?_ ?_); (all_goals ((try show _ + 1 ≤ _); (iterate 20 (try first | exact Nat.le_refl _ | exact Nat.zero_le _ | assumption | refine om20 (by k_asm) ?_ | refine om21 (by k_asm) ?_ | (with_reducible show _ + 1 ≤ _ + 1; refine Nat.succ_le_succ ?_) | (with_reducible show _ ≤ _ + _; refine Nat.le_succ_of_le ?_) | refine om20 (om13 (by k_asm)) ?_ | refine om21 (om13 (by k_asm)) ?_ | refine om20 (A1 (by k_asm)) ?_ | refine om21 (A1 (by k_asm)) ?_)); done))) | omega)) rfl (by ((try dsimp only); first | assumption | exact om1 ‹_› ‹_› rfl | exact om1 rfl ‹_› rfl | exact om3 ‹_› ‹_› rfl | exact om3 rfl ‹_› rfl | exact om2 ‹_› ‹_› rfl | exact om2 rfl ‹_› rfl | exact om14 ‹_› rfl | exact om15 ‹_› | exact om16 ‹_› ‹_› | exact om17 ‹_› ‹_› rfl | exact om9 ‹_› ‹_› | exact om24 ‹_› ‹_› | ((try refine And.intro ?_ ?_); (all_goals ((try show _ + 1 ≤ _); (iterate 20 (try first | exact Nat.le_refl _ | exact Nat.zero_le _ | assumption | refine om20 (by k_asm) ?_ | refine om21 (by k_asm) ?_ | (with_reducible show _ + 1 ≤ _ + 1; refine Nat.succ_le_succ ?_) | (with_reducible show _ ≤ _ + _; refine Nat.le_succ_of_le ?_) | refine om20 (om13 (by k_asm)) ?_ | refine om21 (om13 (by k_asm)) ?_ | refine om20 (A1 (by k_asm)) ?_ | refine om21 (A1 (by k_asm)) ?_)); done))) | omega)) (fun t' k' hk' ht' => ?_) (by decide +kernel) (by rw [r.2, sizeLine_eq]; ((try dsimp only); first | assumption | exact om1 ‹_› ‹_› rfl | exact om1 rfl ‹_› rfl | exact om3 ‹_› ‹_› rfl | exact om3 rfl ‹_› rfl | exact om2 ‹_› ‹_› rfl | exact om2 rfl ‹_› rfl | exact om14 ‹_› rfl | exact om15 ‹_› | exact om16 ‹_› ‹_› | exact om17 ‹_› ‹_› rfl | exact om9 ‹_› ‹_› | exact om24 ‹_› ‹_› | ((try refine And.intro ?_ ?_); (all_goals ((try show _ + 1 ≤ _); (iterate 20 (try first | exact Nat.le_refl _ | exact Nat.zero_le _ | assumption | refine om20 (by k_asm) ?_ | refine om21 (by k_asm) ?_ | (with_reducible show _ + 1 ≤ _ + 1; refine Nat.succ_le_succ ?_) | (with_reducible show _ ≤ _ + _; refine Nat.le_succ_of_le ?_) | refine om20 (om13 (by k_asm)) ?_ | refine om21 (om13 (by k_asm)) ?_ | refine om20 (A1 (by k_asm)) ?_ | refine om21 (A1 (by k_asm)) ?_)); done))) | omega))
  rw [r.1]
  exact h t' k' hk' (ht'.elim (fun q => .inl q.1) .inr)
theorem fill_add {prog : Program} {A : Around} {k : Nat} {t tw : Nat} (hk : k < 4096)
   (h : ∀ (t' tk : Nat), s.toks ≤ tk → (t' = tw ∨ t' = t ∨ (s.toks ≤ t' ∧ t' < tk)) → Q (.bytes (lets 3 k).toArray t') { s with toks := tk }) :
   wpAny (model prog w) A (binaryOp .Add (.bytes (List.replicate (3 - plc k) (65 : UInt8)).toArray t) (.bytes (wordOf k).toArray tw)) Q E s := by
  have hpl := plc_le k
  have hws : (wordOf k).toArray.size = plc k := by unfold wordOf; simp [lets_len]
  refine add_bytesT (by rw [hws]; simp; ((try dsimp only); first | assumption | exact om1 ‹_› ‹_› rfl | exact om1 rfl ‹_› rfl | exact om3 ‹_› ‹_› rfl | exact om3 rfl ‹_› rfl | exact om2 ‹_› ‹_› rfl | exact om2 rfl ‹_› rfl | exact om14 ‹_› rfl | exact om15 ‹_› | exact om16 ‹_› ‹_› | exact om17 ‹_› ‹_› rfl | exact om9 ‹_› ‹_› | exact om24 ‹_› ‹_› | ((try refine And.intro ?_ ?_); (all_goals ((try show _ + 1 ≤ _); (iterate 20 (try first | exact Nat.le_refl _ | exact Nat.zero_le _ | assumption | refine om20 (by k_asm) ?_ | refine om21 (by k_asm) ?_ | (with_reducible show _ + 1 ≤ _ + 1; refine Nat.succ_le_succ ?_) | (with_reducible show _ ≤ _ + _; refine Nat.le_succ_of_le ?_) | refine om20 (om13 (by k_asm)) ?_ | refine om21 (om13 (by k_asm)) ?_ | refine om20 (A1 (by k_asm)) ?_ | refine om21 (A1 (by k_asm)) ?_)); done))) | omega)) fun t2 k2 hk2 ht2 => ?_
  have e : (List.replicate (3 - plc k) (65 : UInt8)).toArray ++ (wordOf k).toArray = (lets 3 k).toArray := by
    rw [← fill_eq hk]
    unfold wordOf
    simp
  rw [e]
  refine h t2 k2 hk2 ?_
  rcases ht2 with ⟨_, q⟩ | ⟨hc, q⟩ | q
  · exact .inl q
  · exact .inr (.inl q)
  · exact .inr (.inr q)
local macro_rules | `(tactic| walk_at "binaryOp Add bytes bytes") => `(tactic| (k_here; refine stop_here ?_))
local macro_rules | `(tactic| walk_at "call builtin:len") => `(tactic| (k_here; refine len_word ?_))
local macro_rules | `(tactic| walk_at "binaryOp Mult bytes int") => `(tactic| (k_here; refine stop_here ?_))
theorem St1.set {zs : List Int} {n tk tk' : Nat} {m : Str → Option Value} {news news' : List (Addr × Obj)} {y : Str} {v : Option Value} (S : St1 zs n m news tk) (hsub : ∀ q ∈ news, q ∈ news') (ht : tk ≤ tk') (h1 : Str.ofString "numbers" ≠ y) (h2 : Str.ofString "sizes" ≠ y) (h3 : Str.ofString "words" ≠ y) (h4 : Str.ofString "plain" ≠ y) :
    St1 zs n (fun z => if z = y then v else m z) news' tk' := by
  obtain ⟨NV, SV, WV, PV, nv, sv, wv, pv, mN, mS, mW, mP, iN, iS, iW, iP, cN, cS, cW, cP⟩ := S
  exact ⟨NV, SV, WV, PV, nv, sv, wv, pv, (if_neg h1).trans mN, (if_neg h2).trans mS, (if_neg h3).trans mW, (if_neg h4).trans mP, hsub _ iN, hsub _ iS, hsub _ iW, hsub _ iP, cN.mono ht, cS.mono ht, cW.mono ht, cP⟩
theorem St1.mono {zs : List Int} {n tk tk' : Nat} {m : Str → Option Value} {news : List (Addr × Obj)} (S : St1 zs n m news tk) (ht : tk ≤ tk') : St1 zs n m news tk' := by
  obtain ⟨NV, SV, WV, PV, nv, sv, wv, pv, mN, mS, mW, mP, iN, iS, iW, iP, cN, cS, cW, cP⟩ := S
  exact ⟨NV, SV, WV, PV, nv, sv, wv, pv, mN, mS, mW, mP, iN, iS, iW, iP, cN.mono ht, cS.mono ht, cW.mono ht, cP⟩
theorem St2.set {zs : List Int} {n : Nat} {m : Str → Option Value} {news news' : List (Addr × Obj)} {y : Str} {v : Option Value} (S : St2 zs n m news) (hsub : ∀ q ∈ news, q ∈ news') (h1 : Str.ofString "orders" ≠ y) (h2 : Str.ofString "low" ≠ y) (h3 : Str.ofString "high" ≠ y) (h4 : Str.ofString "lower" ≠ y) :
    St2 zs n (fun z => if z = y then v else m z) news' := by
  obtain ⟨OV, ov, T, t1, t2, lo, hi, tlo, thi, tl, kk, mO, iO, hov, hT, mlo, elo, mhi, ehi, hkk, mkk, mlow⟩ := S
  exact ⟨OV, ov, T, t1, t2, lo, hi, tlo, thi, tl, kk, (if_neg h1).trans mO, hsub _ iO, hov, fun i hi => hsub _ (hT i hi), (if_neg h2).trans mlo, elo, (if_neg h3).trans mhi, ehi, hkk, mkk, (if_neg h4).trans mlow⟩
inductive St3 (zs : List Int) (n : Nat) (m : Str → Option Value) (news : List (Addr × Obj)) (tk : Nat) : Prop
  | mk (FV : Addr) (fv : List Value) (p1 : m (Str.ofString "filled") = some (.ref FV)) (p2 : (FV, listOf fv.toArray n) ∈ news) (p3 : Col (fun i t => .bytes (lets 3 (nums zs i).natAbs).toArray t) n fv tk) : St3 zs n m news tk
theorem St3.mono {zs : List Int} {n tk tk' : Nat} {m : Str → Option Value} {news : List (Addr × Obj)} (S : St3 zs n m news tk) (ht : tk ≤ tk') : St3 zs n m news tk' := by
  obtain ⟨FV, fv, a, b, c⟩ := S
  exact ⟨FV, fv, a, b, c.mono ht⟩
theorem law_D {Q : Flow → Shared → Prop} {qn : Str} {L a : Addr} {cdv : Value} {zs : List Int} {n : Nat} (hnn : IsN zs n) (hS : St1 zs n m news s.toks) (ht0 : 0 < s.toks)
   (G : Gd w mean mg mb callerA base [] h₀) (F₀ : Fr h₀ L s.heap m) (N₀ : News h₀ L s.heap news)
   (hQ : ∀ h' (tk' : Nat) v news', Fr h₀ L h' (fun z => if z = Str.ofString "filled" then some v else m z) → News h₀ L h' news' → (∀ q ∈ news, q ∈ news') → St3 zs n (fun z => if z = Str.ofString "filled" then some v else m z) news' tk' → s.toks ≤ tk' → Q .next { s with heap := h', toks := tk' }) :
   wpAny (model Challenge.rw_ij0174_01.row.prog w) (callerA.deeper (lawEnv qn L a cdv)) (execs ((lawCode.1.drop 11).take 1) (lawEnv qn L a cdv)) Q E s := by
  have hn12 : n < 12 ∧ 5 ≤ n := hnn.five
  obtain ⟨NV, SV, WV, PV, nv, sv, wv, pv, mN, mS, mW, mP, iN, iS, iW, iP, cN, cS, cW, cP⟩ := hS
  have hwvl := cW.len
  obtain ⟨τw, hwv, hwb, hwi⟩ := cW
  have G₀ := G
  have B := G.B; have X := G.X; have T' := G.T; have XB := G.XB; have TB := G.TB; have D' := G.D
  unfold lawEnv
  rw [lawCode_eq ?zo]
  case zo => rfl
  dsimp only [List.drop, List.take]
  revert X
  k_fill
  intro X
  refine let_ar ?_; intro ar9
  k_steps
  show wpAny _ _ _ _ _ _
  refine pyIter_N (its := wv.toArray) (c := n) F₀ N₀ iW ?_
  intro I4 h14 F14 N14 l14
  refine compIn_listF (ws := wv) (CJ news (fun i t => .bytes (lets 3 (nums zs i).natAbs).toArray t) τw s.toks n) (fun _ _ _ _ h => h) rfl (by ((try dsimp only); first | assumption | exact om1 ‹_› ‹_› rfl | exact om1 rfl ‹_› rfl | exact om3 ‹_› ‹_› rfl | exact om3 rfl ‹_› rfl | exact om2 ‹_› ‹_› rfl | exact om2 rfl ‹_› rfl | exact om14 ‹_› rfl | exact om15 ‹_› | exact om16 ‹_› ‹_› | exact om17 ‹_› ‹_› rfl | exact om9 ‹_› ‹_› | exact om24 ‹_› ‹_› | ((try refine And.intro ?_ ?_); (all_goals ((try show _ + 1 ≤ _); (iterate 20 (try first | exact Nat.le_refl _ | exact Nat.zero_le _ | assumption | refine om20 (by k_asm) ?_ | refine om21 (by k_asm) ?_ | (with_reducible show _ + 1 ≤ _ + 1; refine Nat.succ_le_succ ?_) | (with_reducible show _ ≤ _ + _; refine Nat.le_succ_of_le ?_) | refine om20 (om13 (by k_asm)) ?_ | refine om21 (om13 (by k_asm)) ?_ | refine om20 (A1 (by k_asm)) ?_ | refine om21 (A1 (by k_asm)) ?_)); done))) | omega)) (fun j ys tk hj => ⟨by rw [hj.2.col.len]; exact Nat.le_refl _, by have := hj.1; ((try dsimp only); first | assumption | exact om1 ‹_› ‹_› rfl | exact om1 rfl ‹_› rfl | exact om3 ‹_› ‹_› rfl | exact om3 rfl ‹_› rfl | exact om2 ‹_› ‹_› rfl | exact om2 rfl ‹_› rfl | exact om14 ‹_› rfl | exact om15 ‹_› | exact om16 ‹_› ‹_› | exact om17 ‹_› ‹_› rfl | exact om9 ‹_› ‹_› | exact om24 ‹_› ‹_› | ((try refine And.intro ?_ ?_); (all_goals ((try show _ + 1 ≤ _); (iterate 20 (try first | exact Nat.le_refl _ | exact Nat.zero_le _ | assumption | refine om20 (by k_asm) ?_ | refine om21 (by k_asm) ?_ | (with_reducible show _ + 1 ≤ _ + 1; refine Nat.succ_le_succ ?_) | (with_reducible show _ ≤ _ + _; refine Nat.le_succ_of_le ?_) | refine om20 (om13 (by k_asm)) ?_ | refine om21 (om13 (by k_asm)) ?_ | refine om20 (A1 (by k_asm)) ?_ | refine om21 (A1 (by k_asm)) ?_)); done))) | omega)⟩) (by exact iW) F14 N14 (fun q hq => Nat.ne_of_lt (l14 q hq)) ⟨rfl, Nat.zero_le _, by exact ColB.start⟩ ?turn ?fin
  case turn =>
    intro C D3 j ys h tk oC m₁ x E' hJ hx F2 hoC N2 off2 offI hCD hCL hDL hCI hDI
    have hj := hJ.1; have hC := hJ.2; clear hJ
    rw [hwv] at hx
    obtain ⟨hjn, rfl⟩ := map_at hx
    refine bind_name (by rfl) rfl hoC N2 (off_of hCD hCI off2) F2 ?_
    intro h3 oC3 m3 F3 hoC3 hm3 N3
    refine no_test rfl ?_
    have hz := hwb j hjn
    have hz2 : ∀ i, i < j → τw i ≠ τw j := fun i hi' => hwi i j hi' hjn
    k_steps
    show wpAny _ _ _ _ _ _
    refine fill_mul rfl ?_
    intro t5 tk5 htk5 ht5
    k_steps
    show wpAny _ _ _ _ _ _
    refine fill_add (nums_lt zs j) ?_
    intro t6 tk6 htk6 ht6
    k_steps
    refine CBack.fin F3 hoC3 N3 (fun q hq => hq) off2 hCI hDI ⟨_, rfl, offI, rfl, by ((try dsimp only); first | assumption | exact om1 ‹_› ‹_› rfl | exact om1 rfl ‹_› rfl | exact om3 ‹_› ‹_› rfl | exact om3 rfl ‹_› rfl | exact om2 ‹_› ‹_› rfl | exact om2 rfl ‹_› rfl | exact om14 ‹_› rfl | exact om15 ‹_› | exact om16 ‹_› ‹_› | exact om17 ‹_› ‹_› rfl | exact om9 ‹_› ‹_› | exact om24 ‹_› ‹_› | ((try refine And.intro ?_ ?_); (all_goals ((try show _ + 1 ≤ _); (iterate 20 (try first | exact Nat.le_refl _ | exact Nat.zero_le _ | assumption | refine om20 (by k_asm) ?_ | refine om21 (by k_asm) ?_ | (with_reducible show _ + 1 ≤ _ + 1; refine Nat.succ_le_succ ?_) | (with_reducible show _ ≤ _ + _; refine Nat.le_succ_of_le ?_) | refine om20 (om13 (by k_asm)) ?_ | refine om21 (om13 (by k_asm)) ?_ | refine om20 (A1 (by k_asm)) ?_ | refine om21 (A1 (by k_asm)) ?_)); done))) | omega), ColB.next (u := t6) ht0 hC rfl (by dsimp only at *; ((try dsimp only); first | assumption | exact om1 ‹_› ‹_› rfl | exact om1 rfl ‹_› rfl | exact om3 ‹_› ‹_› rfl | exact om3 rfl ‹_› rfl | exact om2 ‹_› ‹_› rfl | exact om2 rfl ‹_› rfl | exact om14 ‹_› rfl | exact om15 ‹_› | exact om16 ‹_› ‹_› | exact om17 ‹_› ‹_› rfl | exact om9 ‹_› ‹_› | exact om24 ‹_› ‹_› | ((try refine And.intro ?_ ?_); (all_goals ((try show _ + 1 ≤ _); (iterate 20 (try first | exact Nat.le_refl _ | exact Nat.zero_le _ | assumption | refine om20 (by k_asm) ?_ | refine om21 (by k_asm) ?_ | (with_reducible show _ + 1 ≤ _ + 1; refine Nat.succ_le_succ ?_) | (with_reducible show _ ≤ _ + _; refine Nat.le_succ_of_le ?_) | refine om20 (om13 (by k_asm)) ?_ | refine om21 (om13 (by k_asm)) ?_ | refine om20 (A1 (by k_asm)) ?_ | refine om21 (A1 (by k_asm)) ?_)); done))) | omega)) ?_⟩
    rcases ht6 with q | q | q
    · exact .inl ⟨q, hz.1, hz.2, hz2⟩
    · refine .inr ?_
      dsimp only at *
      ((try dsimp only); first | assumption | exact om1 ‹_› ‹_› rfl | exact om1 rfl ‹_› rfl | exact om3 ‹_› ‹_› rfl | exact om3 rfl ‹_› rfl | exact om2 ‹_› ‹_› rfl | exact om2 rfl ‹_› rfl | exact om14 ‹_› rfl | exact om15 ‹_› | exact om16 ‹_› ‹_› | exact om17 ‹_› ‹_› rfl | exact om9 ‹_› ‹_› | exact om24 ‹_› ‹_› | ((try refine And.intro ?_ ?_); (all_goals ((try show _ + 1 ≤ _); (iterate 20 (try first | exact Nat.le_refl _ | exact Nat.zero_le _ | assumption | refine om20 (by k_asm) ?_ | refine om21 (by k_asm) ?_ | (with_reducible show _ + 1 ≤ _ + 1; refine Nat.succ_le_succ ?_) | (with_reducible show _ ≤ _ + _; refine Nat.le_succ_of_le ?_) | refine om20 (om13 (by k_asm)) ?_ | refine om21 (om13 (by k_asm)) ?_ | refine om20 (A1 (by k_asm)) ?_ | refine om21 (A1 (by k_asm)) ?_)); done))) | omega)
    · refine .inr ?_
      dsimp only at *
      ((try dsimp only); first | assumption | exact om1 ‹_› ‹_› rfl | exact om1 rfl ‹_› rfl | exact om3 ‹_› ‹_› rfl | exact om3 rfl ‹_› rfl | exact om2 ‹_› ‹_› rfl | exact om2 rfl ‹_› rfl | exact om14 ‹_› rfl | exact om15 ‹_› | exact om16 ‹_› ‹_› | exact om17 ‹_› ‹_› rfl | exact om9 ‹_› ‹_› | exact om24 ‹_› ‹_› | ((try refine And.intro ?_ ?_); (all_goals ((try show _ + 1 ≤ _); (iterate 20 (try first | exact Nat.le_refl _ | exact Nat.zero_le _ | assumption | refine om20 (by k_asm) ?_ | refine om21 (by k_asm) ?_ | (with_reducible show _ + 1 ≤ _ + 1; refine Nat.succ_le_succ ?_) | (with_reducible show _ ≤ _ + _; refine Nat.le_succ_of_le ?_) | refine om20 (om13 (by k_asm)) ?_ | refine om21 (om13 (by k_asm)) ?_ | refine om20 (A1 (by k_asm)) ?_ | refine om21 (A1 (by k_asm)) ?_)); done))) | omega)
  case fin =>
    intro ys tk hJ
    have hj := hJ.1; have hC := hJ.2; clear hJ
    intro D' h F3 N3 offD
    k_steps
    rw [hwvl] at hC
    have hfl := hC.col.len
    refine hQ _ _ _ _ (by k_asm) N3 (fun q hq => .tail _ hq) ⟨D', ys, if_pos rfl, by rw [← hfl]; exact .head _, hC.col.mono ?o1⟩ ?o2
    all_goals (obtain ⟨q, _⟩ := hC; dsimp only at *; ((try dsimp only); first | assumption | exact om1 ‹_› ‹_› rfl | exact om1 rfl ‹_› rfl | exact om3 ‹_› ‹_› rfl | exact om3 rfl ‹_› rfl | exact om2 ‹_› ‹_› rfl | exact om2 rfl ‹_› rfl | exact om14 ‹_› rfl | exact om15 ‹_› | exact om16 ‹_› ‹_› | exact om17 ‹_› ‹_› rfl | exact om9 ‹_› ‹_› | exact om24 ‹_› ‹_› | ((try refine And.intro ?_ ?_); (all_goals ((try show _ + 1 ≤ _); (iterate 20 (try first | exact Nat.le_refl _ | exact Nat.zero_le _ | assumption | refine om20 (by k_asm) ?_ | refine om21 (by k_asm) ?_ | (with_reducible show _ + 1 ≤ _ + 1; refine Nat.succ_le_succ ?_) | (with_reducible show _ ≤ _ + _; refine Nat.le_succ_of_le ?_) | refine om20 (om13 (by k_asm)) ?_ | refine om21 (om13 (by k_asm)) ?_ | refine om20 (A1 (by k_asm)) ?_ | refine om21 (A1 (by k_asm)) ?_)); done))) | omega))
theorem int_lt {news : List (Addr × Obj)} {sz : Nat → Nat} {n : Nat} {τ : Nat → Nat} {ov : List Value} (hov : ov = (List.range n).map fun i => Value.int ((sz i : Nat) : Int) (τ i)) :
    (∀ i v j x, ov[i]? = some v → ov[j]? = some x → Cmp w news .Lt x v (kLt sz j i)) ∧ (∀ i v j x, ov[i]? = some v → ov[j]? = some x → Cmp w news .Gt x v (kGt sz j i)) := by
  subst hov
  constructor
  · intro i v j x hi hj A s' Q' E' hu k hq
    obtain ⟨h1, rfl⟩ := map_at hi
    obtain ⟨h2, rfl⟩ := map_at hj
    refine PyProof.Rows.lt_int ?_
    have : decide (((sz j : Nat) : Int) < ((sz i : Nat) : Int)) = kLt sz j i := by unfold kLt; exact decide_eq_decide.mpr (by ((try dsimp only); first | assumption | exact om1 ‹_› ‹_› rfl | exact om1 rfl ‹_› rfl | exact om3 ‹_› ‹_› rfl | exact om3 rfl ‹_› rfl | exact om2 ‹_› ‹_› rfl | exact om2 rfl ‹_› rfl | exact om14 ‹_› rfl | exact om15 ‹_› | exact om16 ‹_› ‹_› | exact om17 ‹_› ‹_› rfl | exact om9 ‹_› ‹_› | exact om24 ‹_› ‹_› | ((try refine And.intro ?_ ?_); (all_goals ((try show _ + 1 ≤ _); (iterate 20 (try first | exact Nat.le_refl _ | exact Nat.zero_le _ | assumption | refine om20 (by k_asm) ?_ | refine om21 (by k_asm) ?_ | (with_reducible show _ + 1 ≤ _ + 1; refine Nat.succ_le_succ ?_) | (with_reducible show _ ≤ _ + _; refine Nat.le_succ_of_le ?_) | refine om20 (om13 (by k_asm)) ?_ | refine om21 (om13 (by k_asm)) ?_ | refine om20 (A1 (by k_asm)) ?_ | refine om21 (A1 (by k_asm)) ?_)); done))) | omega))
    rw [this]; exact hq
  · intro i v j x hi hj A s' Q' E' hu k hq
    obtain ⟨h1, rfl⟩ := map_at hi
    obtain ⟨h2, rfl⟩ := map_at hj
    refine PyProof.Rows.gt_int ?_
    have : decide (((sz i : Nat) : Int) < ((sz j : Nat) : Int)) = kGt sz j i := by unfold kGt; exact decide_eq_decide.mpr (by ((try dsimp only); first | assumption | exact om1 ‹_› ‹_› rfl | exact om1 rfl ‹_› rfl | exact om3 ‹_› ‹_› rfl | exact om3 rfl ‹_› rfl | exact om2 ‹_› ‹_› rfl | exact om2 rfl ‹_› rfl | exact om14 ‹_› rfl | exact om15 ‹_› | exact om16 ‹_› ‹_› | exact om17 ‹_› ‹_› rfl | exact om9 ‹_› ‹_› | exact om24 ‹_› ‹_› | ((try refine And.intro ?_ ?_); (all_goals ((try show _ + 1 ≤ _); (iterate 20 (try first | exact Nat.le_refl _ | exact Nat.zero_le _ | assumption | refine om20 (by k_asm) ?_ | refine om21 (by k_asm) ?_ | (with_reducible show _ + 1 ≤ _ + 1; refine Nat.succ_le_succ ?_) | (with_reducible show _ ≤ _ + _; refine Nat.le_succ_of_le ?_) | refine om20 (om13 (by k_asm)) ?_ | refine om21 (om13 (by k_asm)) ?_ | refine om20 (A1 (by k_asm)) ?_ | refine om21 (A1 (by k_asm)) ?_)); done))) | omega))
    rw [this]; exact hq
theorem law_D2 {Q : Flow → Shared → Prop} {qn : Str} {L a : Addr} {cdv : Value} {zs : List Int} {n : Nat} (hnn : IsN zs n) (hS : St1 zs n m news s.toks) (hS2 : St2 zs n m news) (hS3 : St3 zs n m news s.toks)
   (G : Gd w mean mg mb callerA base [] h₀) (F₀ : Fr h₀ L s.heap m) (N₀ : News h₀ L s.heap news)
   (hQ : ∀ h' (tk' : Nat), Fr h₀ L h' m → News h₀ L h' news → s.toks ≤ tk' → Q .next { s with heap := h', toks := tk' }) :
   wpAny (model Challenge.rw_ij0174_01.row.prog w) (callerA.deeper (lawEnv qn L a cdv)) (execs ((lawCode.1.drop 12).take 2) (lawEnv qn L a cdv)) Q E s := by
  have hn12 : n < 12 ∧ 5 ≤ n := hnn.five
  obtain ⟨NV, SV, WV, PV, nv, sv, wv, pv, mN, mS, mW, mP, iN, iS, iW, iP, cN, cS, cW, cP⟩ := hS
  obtain ⟨OV, ov, T, t1, t2, lo, hi, tlo, thi, tl, kk, mO, iO, hov, hT, mlo, elo, mhi, ehi, hkk, mkk, mlow⟩ := hS2
  obtain ⟨FV, fv, mF, iF, cF⟩ := hS3
  have hfvl := cF.len
  have hsvl := cS.len
  obtain ⟨τs, hsv, hsb, hsi⟩ := cS
  have G₀ := G
  have hwlt : ∀ i j, i < n → j < n → decide (nats ((fun i => (lets 3 (nums zs i).natAbs).toArray) i) < nats ((fun i => (lets 3 (nums zs i).natAbs).toArray) j)) = decide ((fun i => (nums zs i).natAbs) i < (fun i => (nums zs i).natAbs) j) := fun i j _ _ => fill_lt (nums_lt zs i) (nums_lt zs j)
  have hweq : ∀ i j, i < n → j < n → (fun i => (nums zs i).natAbs) i = (fun i => (nums zs i).natAbs) j → (fun i => (lets 3 (nums zs i).natAbs).toArray) i = (fun i => (lets 3 (nums zs i).natAbs).toArray) j := fun i j _ _ e => by
    have e' : (nums zs i).natAbs = (nums zs j).natAbs := e
    show (lets 3 (nums zs i).natAbs).toArray = _
    rw [e']
  refine x1c3 (midI_at (fun i => (nums zs i).natAbs) (n := n) (p := (n - 1) / 2) (lt := kLt fun i => (nums zs i).natAbs) (gt := kGt fun i => (nums zs i).natAbs) (fun _ _ _ _ => rfl) (fun _ _ _ _ => rfl) (by first | exact om28 hn12 | exact om15 hn12 | ((try dsimp only); first | assumption | exact om1 ‹_› ‹_› rfl | exact om1 rfl ‹_› rfl | exact om3 ‹_› ‹_› rfl | exact om3 rfl ‹_› rfl | exact om2 ‹_› ‹_› rfl | exact om2 rfl ‹_› rfl | exact om14 ‹_› rfl | exact om15 ‹_› | exact om16 ‹_› ‹_› | exact om17 ‹_› ‹_› rfl | exact om9 ‹_› ‹_› | exact om24 ‹_› ‹_› | ((try refine And.intro ?_ ?_); (all_goals ((try show _ + 1 ≤ _); (iterate 20 (try first | exact Nat.le_refl _ | exact Nat.zero_le _ | assumption | refine om20 (by k_asm) ?_ | refine om21 (by k_asm) ?_ | (with_reducible show _ + 1 ≤ _ + 1; refine Nat.succ_le_succ ?_) | (with_reducible show _ ≤ _ + _; refine Nat.le_succ_of_le ?_) | refine om20 (om13 (by k_asm)) ?_ | refine om21 (om13 (by k_asm)) ?_ | refine om20 (A1 (by k_asm)) ?_ | refine om21 (A1 (by k_asm)) ?_)); done))) | omega))) fun k1 hk1 ek1 mk1 => ?_
  refine x1c3 (midI_at (fun i => (nums zs i).natAbs) (n := n) (p := n / 2) (lt := kLt fun i => (nums zs i).natAbs) (gt := kGt fun i => (nums zs i).natAbs) (fun _ _ _ _ => rfl) (fun _ _ _ _ => rfl) (by first | exact om28 hn12 | exact om15 hn12 | ((try dsimp only); first | assumption | exact om1 ‹_› ‹_› rfl | exact om1 rfl ‹_› rfl | exact om3 ‹_› ‹_› rfl | exact om3 rfl ‹_› rfl | exact om2 ‹_› ‹_› rfl | exact om2 rfl ‹_› rfl | exact om14 ‹_› rfl | exact om15 ‹_› | exact om16 ‹_› ‹_› | exact om17 ‹_› ‹_› rfl | exact om9 ‹_› ‹_› | exact om24 ‹_› ‹_› | ((try refine And.intro ?_ ?_); (all_goals ((try show _ + 1 ≤ _); (iterate 20 (try first | exact Nat.le_refl _ | exact Nat.zero_le _ | assumption | refine om20 (by k_asm) ?_ | refine om21 (by k_asm) ?_ | (with_reducible show _ + 1 ≤ _ + 1; refine Nat.succ_le_succ ?_) | (with_reducible show _ ≤ _ + _; refine Nat.le_succ_of_le ?_) | refine om20 (om13 (by k_asm)) ?_ | refine om21 (om13 (by k_asm)) ?_ | refine om20 (A1 (by k_asm)) ?_ | refine om21 (A1 (by k_asm)) ?_)); done))) | omega))) fun k2 hk2 ek2 mk2 => ?_
  have hsl : ∀ i, i < n → sv[i]? = some (.int (((nums zs i).natAbs : Nat) : Int) (τs i)) := fun i hi => by rw [hsv]; simp [hi]
  have B := G.B; have X := G.X; have T' := G.T; have XB := G.XB; have TB := G.TB; have D' := G.D
  unfold lawEnv
  rw [lawCode_eq ?zo]
  case zo => rfl
  dsimp only [List.drop, List.take]
  revert X
  k_fill
  intro X
  subst elo ehi
  k_steps
  show wpAny _ _ _ _ _ _
  with_unfolding_all refine' low_call ?y1 ?y2 ?y3 ?y4 ?z1 ?z2 ?z3 ?z4 ?z5 ?z6 ?z7 ?_
  case z2 => k_asm
  case z4 => k_asm
  case y4 => exact iF
  case y1 => ((try dsimp only); first | assumption | exact om1 ‹_› ‹_› rfl | exact om1 rfl ‹_› rfl | exact om3 ‹_› ‹_› rfl | exact om3 rfl ‹_› rfl | exact om2 ‹_› ‹_› rfl | exact om2 rfl ‹_› rfl | exact om14 ‹_› rfl | exact om15 ‹_› | exact om16 ‹_› ‹_› | exact om17 ‹_› ‹_› rfl | exact om9 ‹_› ‹_› | exact om24 ‹_› ‹_› | ((try refine And.intro ?_ ?_); (all_goals ((try show _ + 1 ≤ _); (iterate 20 (try first | exact Nat.le_refl _ | exact Nat.zero_le _ | assumption | refine om20 (by k_asm) ?_ | refine om21 (by k_asm) ?_ | (with_reducible show _ + 1 ≤ _ + 1; refine Nat.succ_le_succ ?_) | (with_reducible show _ ≤ _ + _; refine Nat.le_succ_of_le ?_) | refine om20 (om13 (by k_asm)) ?_ | refine om21 (om13 (by k_asm)) ?_ | refine om20 (A1 (by k_asm)) ?_ | refine om21 (A1 (by k_asm)) ?_)); done))) | omega)
  case y2 => ((try dsimp only); first | assumption | exact om1 ‹_› ‹_› rfl | exact om1 rfl ‹_› rfl | exact om3 ‹_› ‹_› rfl | exact om3 rfl ‹_› rfl | exact om2 ‹_› ‹_› rfl | exact om2 rfl ‹_› rfl | exact om14 ‹_› rfl | exact om15 ‹_› | exact om16 ‹_› ‹_› | exact om17 ‹_› ‹_› rfl | exact om9 ‹_› ‹_› | exact om24 ‹_› ‹_› | ((try refine And.intro ?_ ?_); (all_goals ((try show _ + 1 ≤ _); (iterate 20 (try first | exact Nat.le_refl _ | exact Nat.zero_le _ | assumption | refine om20 (by k_asm) ?_ | refine om21 (by k_asm) ?_ | (with_reducible show _ + 1 ≤ _ + 1; refine Nat.succ_le_succ ?_) | (with_reducible show _ ≤ _ + _; refine Nat.le_succ_of_le ?_) | refine om20 (om13 (by k_asm)) ?_ | refine om21 (om13 (by k_asm)) ?_ | refine om20 (A1 (by k_asm)) ?_ | refine om21 (A1 (by k_asm)) ?_)); done))) | omega)
  case y3 => exact row_allB cF.row
  case z1 => assumption
  case z3 => assumption
  case z5 => assumption
  case z6 => k_room
  case z7 => k_units
  intro x v h5 tk5 hx hm5 F5 N5 ht5
  obtain ⟨tv, rfl⟩ := row_mid cF.row hwlt hweq hx (by rw [hfvl] at hm5 ⊢; exact hm5) hk1 mk1
  k_steps
  show wpAny _ _ _ _ _ _
  with_unfolding_all refine' middle_call (lt := kLt fun i => (nums zs i).natAbs) (gt := kGt fun i => (nums zs i).natAbs) (ws := sv) ?y1 ?y2 ?y3 ?y4 ?y5 ?z1 ?z2 ?z3 ?z4 ?z5 ?z6 ?z7 ?_
  case z2 => k_asm
  case z4 => k_asm
  case y1 => ((try dsimp only); first | assumption | exact om1 ‹_› ‹_› rfl | exact om1 rfl ‹_› rfl | exact om3 ‹_› ‹_› rfl | exact om3 rfl ‹_› rfl | exact om2 ‹_› ‹_› rfl | exact om2 rfl ‹_› rfl | exact om14 ‹_› rfl | exact om15 ‹_› | exact om16 ‹_› ‹_› | exact om17 ‹_› ‹_› rfl | exact om9 ‹_› ‹_› | exact om24 ‹_› ‹_› | ((try refine And.intro ?_ ?_); (all_goals ((try show _ + 1 ≤ _); (iterate 20 (try first | exact Nat.le_refl _ | exact Nat.zero_le _ | assumption | refine om20 (by k_asm) ?_ | refine om21 (by k_asm) ?_ | (with_reducible show _ + 1 ≤ _ + 1; refine Nat.succ_le_succ ?_) | (with_reducible show _ ≤ _ + _; refine Nat.le_succ_of_le ?_) | refine om20 (om13 (by k_asm)) ?_ | refine om21 (om13 (by k_asm)) ?_ | refine om20 (A1 (by k_asm)) ?_ | refine om21 (A1 (by k_asm)) ?_)); done))) | omega)
  case y2 => ((try dsimp only); first | assumption | exact om1 ‹_› ‹_› rfl | exact om1 rfl ‹_› rfl | exact om3 ‹_› ‹_› rfl | exact om3 rfl ‹_› rfl | exact om2 ‹_› ‹_› rfl | exact om2 rfl ‹_› rfl | exact om14 ‹_› rfl | exact om15 ‹_› | exact om16 ‹_› ‹_› | exact om17 ‹_› ‹_› rfl | exact om9 ‹_› ‹_› | exact om24 ‹_› ‹_› | ((try refine And.intro ?_ ?_); (all_goals ((try show _ + 1 ≤ _); (iterate 20 (try first | exact Nat.le_refl _ | exact Nat.zero_le _ | assumption | refine om20 (by k_asm) ?_ | refine om21 (by k_asm) ?_ | (with_reducible show _ + 1 ≤ _ + 1; refine Nat.succ_le_succ ?_) | (with_reducible show _ ≤ _ + _; refine Nat.le_succ_of_le ?_) | refine om20 (om13 (by k_asm)) ?_ | refine om21 (om13 (by k_asm)) ?_ | refine om20 (A1 (by k_asm)) ?_ | refine om21 (A1 (by k_asm)) ?_)); done))) | omega)
  case y3 => exact iS
  case y4 => exact (int_lt hsv).1
  case y5 => exact (int_lt hsv).2
  case z1 => assumption
  case z3 => assumption
  case z5 => assumption
  case z6 => k_room
  case z7 => k_units
  intro h7 tk7 tv7 F7 N7 ht7
  refine (((congrArg (fun z => midI (kLt fun i => (nums zs i).natAbs) (kGt fun i => (nums zs i).natAbs) z ((n - 1) / 2)) hsvl).trans ek1 : midI (kLt fun i => (nums zs i).natAbs) (kGt fun i => (nums zs i).natAbs) sv.length ((n - 1) / 2) = _)) ▸ ?_
  k_steps
  show wpAny _ _ _ _ _ _
  refine sub_list N7 iS (hsl k1 hk1) (by ((try dsimp only); first | assumption | exact om1 ‹_› ‹_› rfl | exact om1 rfl ‹_› rfl | exact om3 ‹_› ‹_› rfl | exact om3 rfl ‹_› rfl | exact om2 ‹_› ‹_› rfl | exact om2 rfl ‹_› rfl | exact om14 ‹_› rfl | exact om15 ‹_› | exact om16 ‹_› ‹_› | exact om17 ‹_› ‹_› rfl | exact om9 ‹_› ‹_› | exact om24 ‹_› ‹_› | ((try refine And.intro ?_ ?_); (all_goals ((try show _ + 1 ≤ _); (iterate 20 (try first | exact Nat.le_refl _ | exact Nat.zero_le _ | assumption | refine om20 (by k_asm) ?_ | refine om21 (by k_asm) ?_ | (with_reducible show _ + 1 ≤ _ + 1; refine Nat.succ_le_succ ?_) | (with_reducible show _ ≤ _ + _; refine Nat.le_succ_of_le ?_) | refine om20 (om13 (by k_asm)) ?_ | refine om21 (om13 (by k_asm)) ?_ | refine om20 (A1 (by k_asm)) ?_ | refine om21 (A1 (by k_asm)) ?_)); done))) | omega)) ?_
  k_steps
  show wpAny _ _ _ _ _ _
  with_unfolding_all refine' letters_call (p := 3) (nums_lt zs k1) (by decide) ?z1 ?z2 ?z3 ?z4 ?z5 ?z6 ?z7 ?_
  case z2 => k_asm
  case z4 => k_asm
  case z1 => assumption
  case z3 => assumption
  case z5 => assumption
  case z6 => k_room
  case z7 => k_units
  intro h8 tk8 tv8 F8 N8 ht8
  k_steps
  show wpAny _ _ _ _ _ _
  with_unfolding_all refine' high_call ?y1 ?y2 ?y3 ?y4 ?z1 ?z2 ?z3 ?z4 ?z5 ?z6 ?z7 ?_
  case z2 => k_asm
  case z4 => k_asm
  case y4 => exact iF
  case y1 => ((try dsimp only); first | assumption | exact om1 ‹_› ‹_› rfl | exact om1 rfl ‹_› rfl | exact om3 ‹_› ‹_› rfl | exact om3 rfl ‹_› rfl | exact om2 ‹_› ‹_› rfl | exact om2 rfl ‹_› rfl | exact om14 ‹_› rfl | exact om15 ‹_› | exact om16 ‹_› ‹_› | exact om17 ‹_› ‹_› rfl | exact om9 ‹_› ‹_› | exact om24 ‹_› ‹_› | ((try refine And.intro ?_ ?_); (all_goals ((try show _ + 1 ≤ _); (iterate 20 (try first | exact Nat.le_refl _ | exact Nat.zero_le _ | assumption | refine om20 (by k_asm) ?_ | refine om21 (by k_asm) ?_ | (with_reducible show _ + 1 ≤ _ + 1; refine Nat.succ_le_succ ?_) | (with_reducible show _ ≤ _ + _; refine Nat.le_succ_of_le ?_) | refine om20 (om13 (by k_asm)) ?_ | refine om21 (om13 (by k_asm)) ?_ | refine om20 (A1 (by k_asm)) ?_ | refine om21 (A1 (by k_asm)) ?_)); done))) | omega)
  case y2 => ((try dsimp only); first | assumption | exact om1 ‹_› ‹_› rfl | exact om1 rfl ‹_› rfl | exact om3 ‹_› ‹_› rfl | exact om3 rfl ‹_› rfl | exact om2 ‹_› ‹_› rfl | exact om2 rfl ‹_› rfl | exact om14 ‹_› rfl | exact om15 ‹_› | exact om16 ‹_› ‹_› | exact om17 ‹_› ‹_› rfl | exact om9 ‹_› ‹_› | exact om24 ‹_› ‹_› | ((try refine And.intro ?_ ?_); (all_goals ((try show _ + 1 ≤ _); (iterate 20 (try first | exact Nat.le_refl _ | exact Nat.zero_le _ | assumption | refine om20 (by k_asm) ?_ | refine om21 (by k_asm) ?_ | (with_reducible show _ + 1 ≤ _ + 1; refine Nat.succ_le_succ ?_) | (with_reducible show _ ≤ _ + _; refine Nat.le_succ_of_le ?_) | refine om20 (om13 (by k_asm)) ?_ | refine om21 (om13 (by k_asm)) ?_ | refine om20 (A1 (by k_asm)) ?_ | refine om21 (A1 (by k_asm)) ?_)); done))) | omega)
  case y3 => exact row_allB cF.row
  case z1 => assumption
  case z3 => assumption
  case z5 => assumption
  case z6 => k_room
  case z7 => k_units
  intro x2 v2 h15 tk15 hx2 hm15 F15 N15 ht15
  obtain ⟨tv15, rfl⟩ := row_mid cF.row hwlt hweq hx2 (by rw [hfvl] at hm15 ⊢; exact hm15) hk2 mk2
  k_steps
  show wpAny _ _ _ _ _ _
  with_unfolding_all refine' middle_call (lt := kLt fun i => (nums zs i).natAbs) (gt := kGt fun i => (nums zs i).natAbs) (ws := sv) ?y1 ?y2 ?y3 ?y4 ?y5 ?z1 ?z2 ?z3 ?z4 ?z5 ?z6 ?z7 ?_
  case z2 => k_asm
  case z4 => k_asm
  case y1 => ((try dsimp only); first | assumption | exact om1 ‹_› ‹_› rfl | exact om1 rfl ‹_› rfl | exact om3 ‹_› ‹_› rfl | exact om3 rfl ‹_› rfl | exact om2 ‹_› ‹_› rfl | exact om2 rfl ‹_› rfl | exact om14 ‹_› rfl | exact om15 ‹_› | exact om16 ‹_› ‹_› | exact om17 ‹_› ‹_› rfl | exact om9 ‹_› ‹_› | exact om24 ‹_› ‹_› | ((try refine And.intro ?_ ?_); (all_goals ((try show _ + 1 ≤ _); (iterate 20 (try first | exact Nat.le_refl _ | exact Nat.zero_le _ | assumption | refine om20 (by k_asm) ?_ | refine om21 (by k_asm) ?_ | (with_reducible show _ + 1 ≤ _ + 1; refine Nat.succ_le_succ ?_) | (with_reducible show _ ≤ _ + _; refine Nat.le_succ_of_le ?_) | refine om20 (om13 (by k_asm)) ?_ | refine om21 (om13 (by k_asm)) ?_ | refine om20 (A1 (by k_asm)) ?_ | refine om21 (A1 (by k_asm)) ?_)); done))) | omega)
  case y2 => ((try dsimp only); first | assumption | exact om1 ‹_› ‹_› rfl | exact om1 rfl ‹_› rfl | exact om3 ‹_› ‹_› rfl | exact om3 rfl ‹_› rfl | exact om2 ‹_› ‹_› rfl | exact om2 rfl ‹_› rfl | exact om14 ‹_› rfl | exact om15 ‹_› | exact om16 ‹_› ‹_› | exact om17 ‹_› ‹_› rfl | exact om9 ‹_› ‹_› | exact om24 ‹_› ‹_› | ((try refine And.intro ?_ ?_); (all_goals ((try show _ + 1 ≤ _); (iterate 20 (try first | exact Nat.le_refl _ | exact Nat.zero_le _ | assumption | refine om20 (by k_asm) ?_ | refine om21 (by k_asm) ?_ | (with_reducible show _ + 1 ≤ _ + 1; refine Nat.succ_le_succ ?_) | (with_reducible show _ ≤ _ + _; refine Nat.le_succ_of_le ?_) | refine om20 (om13 (by k_asm)) ?_ | refine om21 (om13 (by k_asm)) ?_ | refine om20 (A1 (by k_asm)) ?_ | refine om21 (A1 (by k_asm)) ?_)); done))) | omega)
  case y3 => exact iS
  case y4 => exact (int_lt hsv).1
  case y5 => exact (int_lt hsv).2
  case z1 => assumption
  case z3 => assumption
  case z5 => assumption
  case z6 => k_room
  case z7 => k_units
  intro h17 tk17 tv17 F17 N17 ht17
  refine (((congrArg (fun z => midI (kLt fun i => (nums zs i).natAbs) (kGt fun i => (nums zs i).natAbs) z (n / 2)) hsvl).trans ek2 : midI (kLt fun i => (nums zs i).natAbs) (kGt fun i => (nums zs i).natAbs) sv.length (n / 2) = _)) ▸ ?_
  k_steps
  show wpAny _ _ _ _ _ _
  refine sub_list N17 iS (hsl k2 hk2) (by ((try dsimp only); first | assumption | exact om1 ‹_› ‹_› rfl | exact om1 rfl ‹_› rfl | exact om3 ‹_› ‹_› rfl | exact om3 rfl ‹_› rfl | exact om2 ‹_› ‹_› rfl | exact om2 rfl ‹_› rfl | exact om14 ‹_› rfl | exact om15 ‹_› | exact om16 ‹_› ‹_› | exact om17 ‹_› ‹_› rfl | exact om9 ‹_› ‹_› | exact om24 ‹_› ‹_› | ((try refine And.intro ?_ ?_); (all_goals ((try show _ + 1 ≤ _); (iterate 20 (try first | exact Nat.le_refl _ | exact Nat.zero_le _ | assumption | refine om20 (by k_asm) ?_ | refine om21 (by k_asm) ?_ | (with_reducible show _ + 1 ≤ _ + 1; refine Nat.succ_le_succ ?_) | (with_reducible show _ ≤ _ + _; refine Nat.le_succ_of_le ?_) | refine om20 (om13 (by k_asm)) ?_ | refine om21 (om13 (by k_asm)) ?_ | refine om20 (A1 (by k_asm)) ?_ | refine om21 (A1 (by k_asm)) ?_)); done))) | omega)) ?_
  k_steps
  show wpAny _ _ _ _ _ _
  with_unfolding_all refine' letters_call (p := 3) (nums_lt zs k2) (by decide) ?z1 ?z2 ?z3 ?z4 ?z5 ?z6 ?z7 ?_
  case z2 => k_asm
  case z4 => k_asm
  case z1 => assumption
  case z3 => assumption
  case z5 => assumption
  case z6 => k_room
  case z7 => k_units
  intro h18 tk18 tv18 F18 N18 ht18
  k_steps
  exact hQ _ _ (by k_asm) (by assumption) (by dsimp only at *; ((try dsimp only); first | assumption | exact om1 ‹_› ‹_› rfl | exact om1 rfl ‹_› rfl | exact om3 ‹_› ‹_› rfl | exact om3 rfl ‹_› rfl | exact om2 ‹_› ‹_› rfl | exact om2 rfl ‹_› rfl | exact om14 ‹_› rfl | exact om15 ‹_› | exact om16 ‹_› ‹_› | exact om17 ‹_› ‹_› rfl | exact om9 ‹_› ‹_› | exact om24 ‹_› ‹_› | ((try refine And.intro ?_ ?_); (all_goals ((try show _ + 1 ≤ _); (iterate 20 (try first | exact Nat.le_refl _ | exact Nat.zero_le _ | assumption | refine om20 (by k_asm) ?_ | refine om21 (by k_asm) ?_ | (with_reducible show _ + 1 ≤ _ + 1; refine Nat.succ_le_succ ?_) | (with_reducible show _ ≤ _ + _; refine Nat.le_succ_of_le ?_) | refine om20 (om13 (by k_asm)) ?_ | refine om21 (om13 (by k_asm)) ?_ | refine om20 (A1 (by k_asm)) ?_ | refine om21 (A1 (by k_asm)) ?_)); done))) | omega))
end
end Mine
end
-- WZl
section
namespace Mine
theorem rstWZl : True := by (w_top off); trivial
section
variable {w : World} {mean : ExcName → Option Value} {mg mb : Str → Option Value}
   {dp un : Nat} {gd : Option (List Code)} {cn : Str} {nm : List (Str × NameKind)} {ig ic : Bool} {mo : List (Str × Const)} {a : Addr} {ccd : Value} {outer : List Env} {A₀ : Around} {base h₀ : Heap} {L : Addr} {m : Str → Option Value} {s : Shared} {Q E : Value → Shared → Prop} {news : List (Addr × Obj)}
theorem code_zip2_new {prog : Program} {A : Around} {D1 D2 : Addr} {xs ys : List Value} {k1 k2 : Nat} {Q₁ : Value → Shared → Prop} (F : Fr h₀ L s.heap m) (N : News h₀ L s.heap news) (m1 : (D1, listOf xs.toArray k1) ∈ news) (m2 : (D2, listOf ys.toArray k2) ∈ news)
   (h : ∀ h' I1 I2 TI TO Z, Fr h₀ L h' m → News h₀ L h' ((Z, zpObj .none false TI TO) :: (TO, tupO [.none, .none]) :: (TI, tupO [.ref I1, .ref I2]) :: (I2, liObj D2 0) :: (I1, liObj D1 0) :: news) → (∀ q ∈ news, @LT.lt Nat _ q.1 I1) → @LT.lt Nat _ I1 I2 → @LT.lt Nat _ I2 TI → @LT.lt Nat _ TI TO → @LT.lt Nat _ TO Z → Q₁ (.ref Z) { s with heap := h' }) :
   codeAny (model prog w) A (.call (.builtin "zip.__new__") ⟨[.type "zip", .ref D1, .ref D2], []⟩) (wants Q₁ E) s := by
  refine codeAny_of_tree ?_
  show wpAny _ _ (do checkBuiltinCall "zip.__new__" ⟨[.type "zip", .ref D1, .ref D2], []⟩; again (.builtin "zip.__new__" ⟨[.type "zip", .ref D1, .ref D2], []⟩)) _ _ s
  refine wpAny_bind (wpAny_of_eq (PySem.F.newCall_zip_2 _ _) (wpAny_pure ⟨plainId_quiet plain_zip_new _, codeAny_builtin PySem.F.entry_zip_new ?_⟩))
  rw [Around.under_plainId plain_zip_new _]
  have hsub := sub_zip
  have hty := isType_zip
  unfold Builtin.«zip.__new__»
  refine wpAny_bind ?_
  unfold Builtin.SmallTypes.newClass
  dsimp only
  rw [hty, hsub]
  simp only [pure_bind]
  simp only [Bool.not_true, Bool.false_eq_true, if_false]
  refine wpAny_pure ?_
  rw [if_neg (by simp)]
  dsimp only
  refine wpAny_bind ?_
  unfold Builtin.SmallTypes.iterAll
  simp only [List.forIn_cons, List.forIn_nil]
  refine wpAny_bind ?_
  refine wpAny_bind (wpAny_bind (wpAny_holding ?_))
  refine pyIter_N F N m1 fun I1 h₁ F₁ N₁ q₁ => ?_
  refine wpAny_pure ?_
  dsimp only
  refine wpAny_bind (wpAny_bind (wpAny_holding ?_))
  refine pyIter_N F₁ N₁ (.tail _ m2) fun I2 h₂ F₂ N₂ q₂ => ?_
  refine wpAny_pure (wpAny_pure (wpAny_pure ?_))
  refine wpAny_bind (wpAny_newTuple ?_ (by show (2 : Nat) ≤ sizeLine; rw [sizeLine_eq]; decide))
  refine wpAny_bind (wpAny_newTuple ?_ (by show (2 : Nat) ≤ sizeLine; rw [sizeLine_eq]; decide))
  have l2 := fun q hq => Heap.lt_size (N₂ q hq).1
  have F₃ := F₂.push (tupO [.ref I1, .ref I2])
  have N₃ := N₂.push F₂ (tupO [.ref I1, .ref I2])
  have l3 := fun q hq => Heap.lt_size (N₃ q hq).1
  have F₄ := F₃.push (tupO [.none, .none])
  have N₄ := N₃.push F₃ (tupO [.none, .none])
  have l4 := fun q hq => Heap.lt_size (N₄ q hq).1
  unfold Builtin.SmallTypes.newRecord
  dsimp only
  refine wpAny_bind (wpAny_newObj_type ?_ (by simp [sizeOk, Builtin.SmallTypes.ownedTupleFields, sizeLine_eq]))
  refine wpAny_pure ?_
  exact h _ I1 I2 _ _ _ (F₄.push _) (N₄.push F₄ (zpObj .none false _ _)) q₁ (q₂ _ (.head _)) (l2 _ (.head _)) (l3 _ (.head _)) (l4 _ (.head _))
theorem call_zip2 {prog : Program} {A : Around} {D1 D2 : Addr} {xs ys : List Value} {k1 k2 : Nat} (F : Fr h₀ L s.heap m) (N : News h₀ L s.heap news) (m1 : (D1, listOf xs.toArray k1) ∈ news) (m2 : (D2, listOf ys.toArray k2) ∈ news)
   (h : ∀ h' I1 I2 TI TO Z, Fr h₀ L h' m → News h₀ L h' ((Z, zpObj .none false TI TO) :: (TO, tupO [.none, .none]) :: (TI, tupO [.ref I1, .ref I2]) :: (I2, liObj D2 0) :: (I1, liObj D1 0) :: news) → (∀ q ∈ news, @LT.lt Nat _ q.1 I1) → @LT.lt Nat _ I1 I2 → @LT.lt Nat _ I2 TI → @LT.lt Nat _ TI TO → @LT.lt Nat _ TO Z → Q (.ref Z) { s with heap := h' }) :
   wpAny (model prog w) A (call (.type "zip") [.ref D1, .ref D2]) Q E s := by
  refine callType_codes (Q₁ := fun obj s₁ => s₁.TypeIs obj "zip" ∧ Q obj s₁) PySem.F.called_zip (PySem.F.typeCall_zip_2 _ _) PySem.F.entry_object_init
    (code_zip2_new F N m1 m2 fun h' I1 I2 TI TO Z F' N' l1 l2 l3 l4 l5 => ⟨⟨_, (N' _ (.head _)).1, rfl⟩, h h' I1 I2 TI TO Z F' N' l1 l2 l3 l4 l5⟩) fun obj s₁ hq => ?_
  refine ⟨hq.1, PySem.F.args_object_init_3 obj _ _, ?_⟩
  exact object_init_meets PySem.F.called_zip.init.lookup PySem.F.called_zip.made (by decide) _ _ _ _ _ ⟨hq.1, rfl, hq.2⟩
section
variable {prog : Program} {A : Around} {Z TO I1 I2 TI D1 D2 : Addr} {rest : List (Addr × Obj)} {xs ys : List Value} {i k1 k2 : Nat} {x y a' b' : Value}
theorem zip2_item (nd : ZipNd Z TO I1 I2 rest) (mTI : (TI, tupO [.ref I1, .ref I2]) ∈ rest) (m1 : (D1, listOf xs.toArray k1) ∈ rest) (m2 : (D2, listOf ys.toArray k2) ∈ rest) (hx : xs[i]? = some x) (hy : ys[i]? = some y)
   (F : Fr h₀ L s.heap m) (N : News h₀ L s.heap ((Z, zpObj .none false TI TO) :: (TO, tupO [a', b']) :: (I1, liObj D1 i) :: (I2, liObj D2 i) :: rest))
   (hQ : ∀ h' T, Fr h₀ L h' m → News h₀ L h' ((T, tupO [x, y]) :: (Z, zpObj (rawInt T) false TI TO) :: (TO, tupO [x, y]) :: (I1, liObj D1 (i + 1)) :: (I2, liObj D2 (i + 1)) :: rest) →
     @LT.lt Nat _ Z T → @LT.lt Nat _ TO T → @LT.lt Nat _ I1 T → @LT.lt Nat _ I2 T → (∀ q ∈ rest, @LT.lt Nat _ q.1 T) → Q (.ref T) { s with heap := h' }) :
   wpAny (model prog w) A (Builtin.«zip.__next__» ⟨[.ref Z], []⟩) (fun fin s' => ∃ v, fin = .done (.ret v) ∧ Q v s') E s := by
  have hz := (N _ (.head _)).1
  have hTI := (N _ (.tail _ (.tail _ (.tail _ (.tail _ mTI))))).1
  show wpAny _ _ (field (.ref Z) 2 >>= _) _ _ _
  refine wpAny_bind (wpAny_field hz rfl (x := .bool false) rfl ?_)
  show wpAny _ _ (field (.ref Z) 3 >>= _) _ _ _
  refine wpAny_bind (wpAny_field hz rfl (x := .ref TI) rfl ?_)
  refine wpAny_bind (wpAny_seqItems hTI rfl ?_)
  show wpAny _ _ (Builtin.SmallTypes.ownedTupleIsFree (.ref Z) >>= _) _ _ _
  refine wpAny_bind ?_
  unfold Builtin.SmallTypes.ownedTupleIsFree
  refine wpAny_bind (wpAny_field hz rfl (x := .none) rfl (wpAny_pure ?_))
  simp only [if_true]
  refine wpAny_bind (wpAny_rule ?_)
  refine wpAny_bind (wpAny_field hz rfl (x := .ref TO) rfl ?_)
  have u1 := upd_split (f := Obj.mapFields (·.setIfInBounds 0 Value.ellipsis)) (o' := zpObj .ellipsis false TI TO) F N nd.uZ (by simp [Obj.mapFields]) rfl
  refine wpAny_bind (wpAny_setField hz rfl (by simp) ?_)
  refine wpAny_bind ?_
  simp only [List.zipIdx_cons, List.zipIdx_nil, List.forIn_cons, List.forIn_nil]
  refine wpAny_bind (wpAny_bind (wpAny_onRaise ?_))
  show wpAny _ _ (Builtin.SmallTypes.nextOf (.ref I1) >>= _) _ _ _
  refine wpAny_bind (nextOf_li u1.1 u1.2 nd.uI (.tail _ (.tail _ (.tail _ (.tail _ m1)))) hx fun h₂ F₂ N₂ => wpAny_pure ?_)
  refine wpAny_bind (wpAny_seqItems (N₂ _ (.tail _ (.head _))).1 rfl ?_)
  have u2 := upd_split (f := Obj.mapSeq (·.setIfInBounds 0 x)) (o' := tupO [x, b']) F₂ N₂ nd.uTO (by simp [Obj.mapSeq]) rfl
  refine wpAny_bind (wpAny_updateSeq (N₂ _ (.tail _ (.head _))).1 rfl ?_)
  refine wpAny_bind (wpAny_letGo (wpAny_pure ?_))
  refine wpAny_bind (wpAny_bind (wpAny_onRaise ?_))
  show wpAny _ _ (Builtin.SmallTypes.nextOf (.ref I2) >>= _) _ _ _
  refine wpAny_bind (nextOf_li u2.1 u2.2 nd.uC (.tail _ (.tail _ (.tail _ (.tail _ m2)))) hy fun h₃ F₃ N₃ => wpAny_pure ?_)
  refine wpAny_bind (wpAny_seqItems (N₃ _ (.tail _ (.head _))).1 rfl ?_)
  have u3 := upd_split (f := Obj.mapSeq (·.setIfInBounds 1 y)) (o' := tupO [x, y]) F₃ N₃ nd.uTO (by simp [Obj.mapSeq]) rfl
  refine wpAny_bind (wpAny_updateSeq (N₃ _ (.tail _ (.head _))).1 rfl ?_)
  refine wpAny_bind (wpAny_letGo (wpAny_pure (wpAny_pure ?_)))
  refine wpAny_bind (wpAny_seqItems (u3.2 _ (.tail _ (.head _))).1 rfl ?_)
  refine wpAny_bind (wpAny_newTuple ?_)
  have F₄ := u3.1.push (tupO [x, y])
  have N₄ := u3.2.push u3.1 (tupO [x, y])
  have lt4 := fun q hq => Heap.lt_size (u3.2 q hq).1
  generalize hh : (h₃.update TO (Obj.mapSeq (·.setIfInBounds 1 y))) = h₄ at F₄ N₄ lt4
  have lZ := lt4 _ (.head _)
  have lTO := lt4 _ (.tail _ (.head _))
  have lI := lt4 _ (.tail _ (.tail _ (.head _)))
  have lC := lt4 _ (.tail _ (.tail _ (.tail _ (.head _))))
  have lr : ∀ q ∈ rest, @LT.lt Nat _ q.1 h₄.objs.size := fun q hq => lt4 q (.tail _ (.tail _ (.tail _ (.tail _ hq))))
  have hh' : h₃.update TO (Obj.mapSeq fun xs => xs.setIfInBounds 1 y) = h₄ := hh
  simp only [hh']
  generalize hT : h₄.objs.size = T at *
  show wpAny _ _ (Builtin.SmallTypes.ownedTupleHandOut (.ref Z) (.ref T) >>= _) _ _ _
  refine wpAny_bind ?_
  unfold Builtin.SmallTypes.ownedTupleHandOut
  have uZ4 : ∀ {o}, UpdF Z o ((T, tupO [x, y]) :: (Z, o) :: (TO, tupO [x, y]) :: (I1, liObj D1 (i + 1)) :: (I2, liObj D2 (i + 1)) :: rest) (fun o => (T, tupO [x, y]) :: (Z, o) :: (TO, tupO [x, y]) :: (I1, liObj D1 (i + 1)) :: (I2, liObj D2 (i + 1)) :: rest) := .tail (p := (T, _)) (Nat.ne_of_gt lZ) nd.uZ
  have u5 := upd_split (f := Obj.mapFields (·.setIfInBounds 0 (rawInt T))) (o' := zpObj (rawInt T) false TI TO) F₄ N₄ uZ4 (by simp [Obj.mapFields]) rfl
  refine wpAny_bind (wpAny_setField (N₄ _ (.tail _ (.head _))).1 rfl (by simp) ?_)
  have u6 := upd_split (f := Obj.mapFields (·.setIfInBounds 1 (.bool false))) (o' := zpObj (rawInt T) false TI TO) u5.1 u5.2 uZ4 (by simp [Obj.mapFields]) rfl
  refine wpAny_setField (u5.2 _ (.tail _ (.head _))).1 rfl (by simp) ?_
  refine wpAny_pure ⟨_, rfl, ?_⟩
  exact hQ _ T u6.1 u6.2 lZ lTO lI lC lr
theorem zip2_end {Q : PySem.Fin → Shared → Prop} (hh : A.handled = none) (nd : ZipNd Z TO I1 I2 rest) (mTI : (TI, tupO [.ref I1, .ref I2]) ∈ rest) (m1 : (D1, listOf xs.toArray k1) ∈ rest) (hx : xs[i]? = none)
   (F : Fr h₀ L s.heap m) (N : News h₀ L s.heap ((Z, zpObj .none false TI TO) :: (TO, tupO [a', b']) :: (I1, liObj D1 i) :: (I2, liObj D2 i) :: rest))
   (hE : ∀ h' e, Fr h₀ L h' m → News h₀ L h' rest → (∃ o, h'.get? e = some o ∧ o.cls = .type "StopIteration") → E (.ref e) { s with heap := h' }) :
   wpAny (model prog w) A (Builtin.«zip.__next__» ⟨[.ref Z], []⟩) Q E s := by
  have hz := (N _ (.head _)).1
  have hTI := (N _ (.tail _ (.tail _ (.tail _ (.tail _ mTI))))).1
  show wpAny _ _ (field (.ref Z) 2 >>= _) _ _ _
  refine wpAny_bind (wpAny_field hz rfl (x := .bool false) rfl ?_)
  show wpAny _ _ (field (.ref Z) 3 >>= _) _ _ _
  refine wpAny_bind (wpAny_field hz rfl (x := .ref TI) rfl ?_)
  refine wpAny_bind (wpAny_seqItems hTI rfl ?_)
  show wpAny _ _ (Builtin.SmallTypes.ownedTupleIsFree (.ref Z) >>= _) _ _ _
  refine wpAny_bind ?_
  unfold Builtin.SmallTypes.ownedTupleIsFree
  refine wpAny_bind (wpAny_field hz rfl (x := .none) rfl (wpAny_pure ?_))
  simp only [if_true]
  refine wpAny_bind (wpAny_rule ?_)
  refine wpAny_bind (wpAny_field hz rfl (x := .ref TO) rfl ?_)
  have u1 := upd_split (f := Obj.mapFields (·.setIfInBounds 0 Value.ellipsis)) (o' := zpObj .ellipsis false TI TO) F N nd.uZ (by simp [Obj.mapFields]) rfl
  refine wpAny_bind (wpAny_setField hz rfl (by simp) ?_)
  refine wpAny_bind ?_
  simp only [List.zipIdx_cons, List.zipIdx_nil, List.forIn_cons, List.forIn_nil]
  refine wpAny_bind (wpAny_bind (wpAny_onRaise ?_))
  show wpAny _ _ (Builtin.SmallTypes.nextOf (.ref I1) >>= _) _ _ _
  have hm := u1.2 _ (UpdF.mem nd.uI)
  unfold Builtin.SmallTypes.nextOf
  refine wpAny_bind (wpAny_bind (wpAny_callSpecial?_slot (name := Str.ofString "__next__") (show Shared.TypeIs _ (.ref I1) "list_iterator" from ⟨_, hm.1, rfl⟩) slot_listiter_next (listiter_end hh u1.1 u1.2 nd.uI (.tail _ (.tail _ (.tail _ (.tail _ m1)))) hx fun h₂ h' e F₂ N₂ X₂ => ?_)))
  obtain ⟨ob, tp, he, hc, _⟩ := X₂.there
  have N₃ : News h₀ L h' _ := fun q hq => ⟨X₂.keeps _ _ (N₂ q hq).1, (N₂ q hq).2⟩
  have u3 := upd_split (f := Obj.mapFields (·.setIfInBounds 0 Value.none)) (o' := zpObj .none false TI TO) (F₂.keeps X₂.keeps) N₃ nd.uZ (by simp [Obj.mapFields]) rfl
  refine wpAny_setField (N₃ _ (.head _)).1 rfl (by simp) ?_
  refine hE _ e u3.1 (fun q hq => u3.2 q (.tail _ (.tail _ (.tail _ (.tail _ hq))))) ⟨ob, ?_, hc⟩
  have hne : Z ≠ e := fun q => by
    have h1 := X₂.new
    have h2 := (N₂ _ (.head _)).1
    rw [← q] at h1
    rw [h2] at h1; cases h1
  exact (Heap.get?_update_other _ _ hne).trans he
end
theorem assign_pair {prog : Program} {A : Around} {env : Env} {x y : Str} {px py pp : Pos} {k : Nat} {scope : Scope} {cl : List (Str × Addr)} {C T : Addr} {v1 v2 : Value} {oC : Obj} {m₁ : Str → Option Value} {rest : List (Addr × Obj)} {h : Heap} {tk : Nat} {K : Shared → Prop} (hh : A.handled = none) (hx : scope.names.lookup x = some .local) (hy : scope.names.lookup y = some .local) (hxy : x ≠ y) (hkind : scope.kind = .function) (hoC : LCg.NsObj oC m₁)
    (N : News h₀ L h ((C, oC) :: rest)) (off : ∀ q ∈ rest, q.1 ≠ C) (F : Fr h₀ L h m) (mT : (T, tupO [v1, v2]) ∈ rest)
    (h1 : ∀ h' oC' m₂, Fr h₀ L h' m → LCg.NsObj oC' m₂ → m₂ x = some v1 → m₂ y = some v2 → News h₀ L h' ((C, oC') :: rest) → K { s with heap := h', toks := tk + 1 + 1 }) :
    wpAny (model prog w) A (assign (.Tuple [.Name x px, .Name y py] k pp) (compEnvC scope cl C env) (.ref T)) (fun _ s₂ => K s₂) E { s with heap := h, toks := tk } := by
  refine unpackN_ (items := #[v1, v2]) F N ⟨_, (N _ (.tail _ mT)).1, rfl, _, rfl⟩ hh (by rfl) (by rfl) fun h₂ F₂ N₂ => ?_
  refine assignInOrder_cons ?_
  have zC := N₂ _ (.head _)
  show wpAny _ _ (assign (.Name x px) _ v1) _ _ _
  refine wpAny_assign_Name (wpAny_storeName_local (lookup_relabel_local hx) (hoC.ns zC.1) (fun h₃ hn₃ hs₃ => ?_) (by simp [compEnvC, relabel, hkind]))
  obtain ⟨oC', heC, hoC'⟩ := LCg.ns_obj hn₃
  refine assignInOrder_cons ?_
  show wpAny _ _ (assign (.Name y py) _ v2) _ _ _
  refine wpAny_assign_Name (wpAny_storeName_local (lookup_relabel_local hy) (hoC'.ns heC) (fun h₄ hn₄ hs₄ => ?_) (by simp [compEnvC, relabel, hkind]))
  obtain ⟨oC'', heC', hoC''⟩ := LCg.ns_obj hn₄
  refine assignInOrder_nil (h1 h₄ oC'' _ ((F₂.change hs₃ zC.2.1 zC.2.2).change hs₄ zC.2.1 zC.2.2) hoC'' (by simp [hxy]) (by simp) (fa_cons ⟨heC', zC.2⟩ fun q hq => ⟨hs₄.extBut _ _ (off q hq) (hs₃.extBut _ _ (off q hq) (N₂ q (.tail _ hq)).1), (N₂ q (.tail _ hq)).2⟩))
theorem letGo_zip {M : Model} {A : Around} {elts : List Expr} {x1 : _} {pos : Pos} {Z T TI TO : Addr} {f1 : Bool} {Q : Unit → Shared → Prop} (hz : s.heap.get? Z = some (zpObj (rawInt T) f1 TI TO)) (h : Q () { s with heap := s.heap.update Z (Obj.mapFields (·.setIfInBounds 0 .none)) }) :
    wpAny M A (letOwnedTupleGo (.Tuple elts x1 pos) (.ref Z) (.ref T)) Q E s := by
  unfold letOwnedTupleGo
  refine wpAny_bind (wpAny_load hz ?_)
  dsimp only
  rw [if_pos (by simp)]
  refine wpAny_bind (wpAny_rule ?_)
  unfold updateField
  refine wpAny_bind (wpAny_load hz ?_)
  show wpAny _ _ (if 0 < 5 then _ else _) _ _ _
  rw [if_pos (by decide)]
  exact wpAny_update hz h
noncomputable def ZJ (Z TO TI I1 I2 D1 D2 : Addr) (J : Nat → List Value → List (Addr × Obj) → Nat → Prop) (j : Nat) (zs : List Value) (nw' : List (Addr × Obj)) (tk : Nat) : Prop :=
  ∃ nw'' a b, nw' = (Z, zpObj .none false TI TO) :: (TO, tupO [a, b]) :: (I1, liObj D1 j) :: (I2, liObj D2 j) :: nw'' ∧ ZipNd Z TO I1 I2 nw'' ∧ J j zs nw'' tk
theorem compIn_zip {prog : Program} {A : Around} {env : Env} {elt : Expr} {x y : Str} {px py pp : Pos} {kx : Nat} {ifs : List Expr} {scope : Scope} {cl : List (Str × Addr)} {Fin : Shared → List Value → List (Addr × Obj) → Nat → Prop} {Z TO TI I1 I2 D1 D2 : Addr} {k1 k2 n : Nat} {xs ys' : List Value} (J : Nat → List Value → List (Addr × Obj) → Nat → Prop)
    (hh : A.handled = none) (h64 : n < 64) (hl1 : xs.length = n) (hl2 : ys'.length = n) (hx : scope.names.lookup x = some .local) (hy : scope.names.lookup y = some .local) (hxy : x ≠ y) (hkind : scope.kind = .function)
    (hJ : ∀ j ys nw tk, J j ys nw tk → ys.length ≤ j ∧ j ≤ n ∧ (TI, tupO [.ref I1, .ref I2]) ∈ nw ∧ (D1, listOf xs.toArray k1) ∈ nw ∧ (D2, listOf ys'.toArray k2) ∈ nw)
    (F : Fr h₀ L s.heap m) (N : News h₀ L s.heap ((Z, zpObj .none false TI TO) :: (TO, tupO [.none, .none]) :: (I1, liObj D1 0) :: (I2, liObj D2 0) :: news)) (nd : ZipNd Z TO I1 I2 news) (J0 : J 0 [] news s.toks)
    (turn : ∀ C D j ys nw h tk oC m₁ v1 v2 E', J j ys nw tk → xs[j]? = some v1 → ys'[j]? = some v2 → Fr h₀ L h m → LCg.NsObj oC m₁ → m₁ x = some v1 → m₁ y = some v2 → News h₀ L h ((C, oC) :: (D, LCg.lst ys) :: (Z, zpObj .none false TI TO) :: (TO, tupO [v1, v2]) :: (I1, liObj D1 (j + 1)) :: (I2, liObj D2 (j + 1)) :: nw) →
      (∀ h' tk' zs, Fr h₀ L h' m → News h₀ L h' ((C, oC) :: (D, LCg.lst ys) :: (Z, zpObj .none false TI TO) :: (TO, tupO [v1, v2]) :: (I1, liObj D1 (j + 1)) :: (I2, liObj D2 (j + 1)) :: nw) → J (j + 1) zs nw tk' → CBack h₀ L m C D (ZJ Z TO TI I1 I2 D1 D2 J) s (j + 1) ys zs { s with heap := h', toks := tk' }) →
      wpAny (model prog w) A (testsOf ifs (compEnvC scope cl C env)) (fun ok s₃ =>
        if ok = true then wpAny (model prog w) A (eval elt (compEnvC scope cl C env)) (fun y s₄ => CBack h₀ L m C D (ZJ Z TO TI I1 I2 D1 D2 J) s (j + 1) ys (ys ++ [y]) s₄) E' s₃
        else CBack h₀ L m C D (ZJ Z TO TI I1 I2 D1 D2 J) s (j + 1) ys ys s₃) E' { s with heap := h, toks := tk + 1 + 1 })
    (fin : ∀ ys nw tk, J n ys nw tk → Fin s ys nw tk) :
    CompIn prog w A h₀ L m env elt (.Tuple [.Name x px, .Name y py] kx pp) ifs scope cl Fin (.ref Z) s := by
  refine CompIn.mk n (ZJ Z TO TI I1 I2 D1 D2 J) (fun zs nw tk => J n zs nw tk) _ hh ?_ F N ⟨news, _, _, rfl, nd, J0⟩ (.head _) ?_ ?_ fin
  · rintro j ys nw tk ⟨nw'', a, b, rfl, _, hj⟩
    have := hJ _ _ _ _ hj
    omega
  · intro s' e Q' E' q
    exact wpAny_pyIter_zip e q
  · rintro C D j ys nw h tk oC m₁ E' ⟨nw'', a, b, rfl, nd', hj⟩ F' hoC N' off' hCD hCL hDL
    obtain ⟨_, hjn, mTI, m1, m2⟩ := hJ _ _ _ _ hj
    have oZ := off' _ (.head _)
    have oTO := off' _ (.tail _ (.head _))
    have oI1 := off' _ (.tail _ (.tail _ (.head _)))
    have oI2 := off' _ (.tail _ (.tail _ (.tail _ (.head _))))
    have ndr : ZipNd Z TO I1 I2 ((C, oC) :: (D, LCg.lst ys) :: nw'') :=
      ⟨nd'.a1, nd'.a2, nd'.a3, nd'.a4, nd'.a5, nd'.a6, List.forall_mem_cons.mpr ⟨Ne.symm oZ.1, List.forall_mem_cons.mpr ⟨Ne.symm oZ.2, nd'.r1⟩⟩, List.forall_mem_cons.mpr ⟨Ne.symm oTO.1, List.forall_mem_cons.mpr ⟨Ne.symm oTO.2, nd'.r2⟩⟩,
        List.forall_mem_cons.mpr ⟨Ne.symm oI1.1, List.forall_mem_cons.mpr ⟨Ne.symm oI1.2, nd'.r3⟩⟩, List.forall_mem_cons.mpr ⟨Ne.symm oI2.1, List.forall_mem_cons.mpr ⟨Ne.symm oI2.2, nd'.r4⟩⟩⟩
    have Nr : News h₀ L h ((Z, zpObj .none false TI TO) :: (TO, tupO [a, b]) :: (I1, liObj D1 j) :: (I2, liObj D2 j) :: (C, oC) :: (D, LCg.lst ys) :: nw'') := fun q hq => N' q (mem_rot [_, _] [_, _, _, _] hq)
    have hT : Shared.TypeIs ({ s with heap := h, toks := tk } : Shared) (.ref Z) "zip" := ⟨_, (Nr _ (.head _)).1, rfl⟩
    unfold pyNext
    refine wpAny_bind (wpAny_attempt (wpAny_callSpecial?_slot (name := Str.ofString "__next__") hT PySem.F.slot_zip_next (wpAny_call_entry PySem.F.slot_zip_next hT PySem.F.entry_zip_next ?_ (PySem.F.args_zip_next_1 _))))
    rcases Nat.lt_or_ge j n with hlt | hge
    · obtain ⟨v1, e1⟩ : ∃ v, xs[j]? = some v := ⟨xs[j]'(by omega), List.getElem?_eq_getElem _⟩
      obtain ⟨v2, e2⟩ : ∃ v, ys'[j]? = some v := ⟨ys'[j]'(by omega), List.getElem?_eq_getElem _⟩
      refine zip2_item ndr (.tail _ (.tail _ mTI)) (.tail _ (.tail _ m1)) (.tail _ (.tail _ m2)) e1 e2 F' Nr fun h₁ T F₁ N₁ l1 l2 l3 l4 l5 => ?_
      refine wpAny_pure ⟨hlt, ?_⟩
      refine letGo_zip (N₁ _ (.tail _ (.head _))).1 ?_
      have uZ4 : ∀ {o}, UpdF Z o ((T, tupO [v1, v2]) :: (Z, o) :: (TO, tupO [v1, v2]) :: (I1, liObj D1 (j + 1)) :: (I2, liObj D2 (j + 1)) :: (C, oC) :: (D, LCg.lst ys) :: nw'') (fun o => (T, tupO [v1, v2]) :: (Z, o) :: (TO, tupO [v1, v2]) :: (I1, liObj D1 (j + 1)) :: (I2, liObj D2 (j + 1)) :: (C, oC) :: (D, LCg.lst ys) :: nw'') := .tail (p := (T, _)) (Nat.ne_of_gt l1) ndr.uZ
      have u5 := upd_split (f := Obj.mapFields (·.setIfInBounds 0 .none)) (o' := zpObj .none false TI TO) F₁ N₁ uZ4 (by simp [Obj.mapFields]) rfl
      have N6 : News h₀ L _ ((C, oC) :: (D, LCg.lst ys) :: (T, tupO [v1, v2]) :: (Z, zpObj .none false TI TO) :: (TO, tupO [v1, v2]) :: (I1, liObj D1 (j + 1)) :: (I2, liObj D2 (j + 1)) :: nw'') := fun q hq => u5.2 q (mem_rot [_, _, _, _, _] [_, _] hq)
      have hCT : T ≠ C := Ne.symm (Nat.ne_of_lt (l5 _ (.head _)))
      refine assign_pair (s := s) (tk := tk) hh hx hy hxy hkind hoC N6 ?_ u5.1 (.tail _ (.head _)) ?_
      · exact fa_cons (Ne.symm hCD) (fa_cons (hCT) (fa_cons (oZ.1) (fa_cons (oTO.1) (fa_cons (oI1.1) (fa_cons (oI2.1) (fun q hq => (off' q (.tail _ (.tail _ (.tail _ (.tail _ hq))))).1))))))
      · intro h₇ oC7 m7 F7 hoC7 e7 e8 N7
        refine turn C D j ys nw'' h₇ tk oC7 m7 v1 v2 E' hj e1 e2 F7 hoC7 e7 e8 (fun q hq => N7 q ?_) ?_
        · exact mem_ins [_, _] hq
        · intro h' tk' zs F8 N8 J8
          refine CBack.mk F8 hoC7 N8 ?_ ⟨nw'', v1, v2, rfl, nd', J8⟩
          exact fa_cons (oZ) (fa_cons (oTO) (fa_cons (oI1) (fa_cons (oI2) (fun q hq => off' q (.tail _ (.tail _ (.tail _ (.tail _ hq))))))))
    · have hje : j = n := by omega
      subst hje
      refine zip2_end hh ndr (.tail _ (.tail _ mTI)) (.tail _ (.tail _ m1)) (List.getElem?_eq_none_iff.mpr (by omega)) F' Nr fun h' e F₂ N₂ he => ?_
      obtain ⟨ob, he, hc⟩ := he
      refine wpAny_bind (wpAny_isInstance (T := "StopIteration") (b := true) ⟨ob, he, hc⟩ stop_subC ?_)
      exact wpAny_pure ⟨h', tk, nw'', oC, m₁, rfl, F₂, hoC, N₂, fun q hq => off' q (.tail _ (.tail _ (.tail _ (.tail _ hq)))), hj⟩
end
end Mine
end
-- WLe
section
namespace Mine
theorem rstWLe : True := by (w_top off); trivial
section
variable {w : World} {mean : ExcName → Option Value} {mg mb : Str → Option Value}
   {dp un : Nat} {gd : Option (List Code)} {cn : Str} {nm : List (Str × NameKind)} {ig ic : Bool} {mo : List (Str × Const)} {a : Addr} {ccd : Value} {outer : List Env} {A₀ : Around} {base h₀ : Heap} {L : Addr} {m : Str → Option Value} {s : Shared} {Q E : Value → Shared → Prop} {news : List (Addr × Obj)}
theorem ints_row {f : Nat → Int} : ∀ {n : Nat} {ys : List Value}, IntsAre ys ((List.range n).map f) → Row (fun i t => .int (f i) t) n ys := by
  intro n ys h
  have hl := h.length
  simp at hl
  have hg : ∀ i, i < n → ∃ t, ys[i]? = some (Value.int (f i) t) := fun i hi => by
    have key : ∀ {vs : List Value} {ns : List Int}, IntsAre vs ns → ∀ (i : Nat) (k : Int), ns[i]? = some k → ∃ t, vs[i]? = some (Value.int k t) := by
      intro vs ns hv
      induction hv with
      | nil => intro i k hk; simp at hk
      | cons a t r ih =>
        intro i k hk
        cases i with
        | zero => simp at hk; subst hk; exact ⟨t, rfl⟩
        | succ i => simpa using ih i k (by simpa using hk)
    exact key h i (f i) (by simp [hi])
  refine ⟨fun i => if hi : i < n then (hg i hi).choose else 0, ?_⟩
  apply List.ext_getElem?
  intro i
  by_cases hi : i < n
  · rw [List.getElem?_map, List.getElem?_range hi]
    simp only [Option.map_some, dif_pos hi]
    exact (hg i hi).choose_spec
  · rw [List.getElem?_eq_none (by ((try dsimp only); first | assumption | exact om1 ‹_› ‹_› rfl | exact om1 rfl ‹_› rfl | exact om3 ‹_› ‹_› rfl | exact om3 rfl ‹_› rfl | exact om2 ‹_› ‹_› rfl | exact om2 rfl ‹_› rfl | exact om14 ‹_› rfl | exact om15 ‹_› | exact om16 ‹_› ‹_› | exact om17 ‹_› ‹_› rfl | exact om9 ‹_› ‹_› | exact om24 ‹_› ‹_› | ((try refine And.intro ?_ ?_); (all_goals ((try show _ + 1 ≤ _); (iterate 20 (try first | exact Nat.le_refl _ | exact Nat.zero_le _ | assumption | refine om20 (by k_asm) ?_ | refine om21 (by k_asm) ?_ | (with_reducible show _ + 1 ≤ _ + 1; refine Nat.succ_le_succ ?_) | (with_reducible show _ ≤ _ + _; refine Nat.le_succ_of_le ?_) | refine om20 (om13 (by k_asm)) ?_ | refine om21 (om13 (by k_asm)) ?_ | refine om20 (A1 (by k_asm)) ?_ | refine om21 (A1 (by k_asm)) ?_)); done))) | omega)), List.getElem?_eq_none (by rw [List.length_map, List.length_range]; ((try dsimp only); first | assumption | exact om1 ‹_› ‹_› rfl | exact om1 rfl ‹_› rfl | exact om3 ‹_› ‹_› rfl | exact om3 rfl ‹_› rfl | exact om2 ‹_› ‹_› rfl | exact om2 rfl ‹_› rfl | exact om14 ‹_› rfl | exact om15 ‹_› | exact om16 ‹_› ‹_› | exact om17 ‹_› ‹_› rfl | exact om9 ‹_› ‹_› | exact om24 ‹_› ‹_› | ((try refine And.intro ?_ ?_); (all_goals ((try show _ + 1 ≤ _); (iterate 20 (try first | exact Nat.le_refl _ | exact Nat.zero_le _ | assumption | refine om20 (by k_asm) ?_ | refine om21 (by k_asm) ?_ | (with_reducible show _ + 1 ≤ _ + 1; refine Nat.succ_le_succ ?_) | (with_reducible show _ ≤ _ + _; refine Nat.le_succ_of_le ?_) | refine om20 (om13 (by k_asm)) ?_ | refine om21 (om13 (by k_asm)) ?_ | refine om20 (A1 (by k_asm)) ?_ | refine om21 (A1 (by k_asm)) ?_)); done))) | omega))]
theorem row_ints {f : Nat → Int} {n : Nat} {ys : List Value} (h : Row (fun i t => .int (f i) t) n ys) : IntsAre ys ((List.range n).map f) := by
  obtain ⟨τ, rfl⟩ := h
  induction n with
  | zero => exact .nil
  | succ n ih =>
    rw [List.range_succ, List.map_append, List.map_append]
    exact IntsAre.append ih (.cons _ _ .nil)
theorem sum_psum (f : Nat → Int) : ∀ n : Nat, ((List.range n).map f).sum = psum f n
  | 0 => rfl
  | n + 1 => by
    rw [List.range_succ, List.map_append, List.sum_append, sum_psum f n]
    show psum f n + (f n + 0) = psum f n + f n
    ((try dsimp only); first | assumption | exact om1 ‹_› ‹_› rfl | exact om1 rfl ‹_› rfl | exact om3 ‹_› ‹_› rfl | exact om3 rfl ‹_› rfl | exact om2 ‹_› ‹_› rfl | exact om2 rfl ‹_› rfl | exact om14 ‹_› rfl | exact om15 ‹_› | exact om16 ‹_› ‹_› | exact om17 ‹_› ‹_› rfl | exact om9 ‹_› ‹_› | exact om24 ‹_› ‹_› | ((try refine And.intro ?_ ?_); (all_goals ((try show _ + 1 ≤ _); (iterate 20 (try first | exact Nat.le_refl _ | exact Nat.zero_le _ | assumption | refine om20 (by k_asm) ?_ | refine om21 (by k_asm) ?_ | (with_reducible show _ + 1 ≤ _ + 1; refine Nat.succ_le_succ ?_) | (with_reducible show _ ≤ _ + _; refine Nat.le_succ_of_le ?_) | refine om20 (om13 (by k_asm)) ?_ | refine om21 (om13 (by k_asm)) ?_ | refine om20 (A1 (by k_asm)) ?_ | refine om21 (A1 (by k_asm)) ?_)); done))) | omega)
theorem row_at {v : Nat → Tok → Value} {n j : Nat} {ys : List Value} {x : Value} (h : Row v n ys) (hx : ys[j]? = some x) : j < n ∧ ∃ t, x = v j t := by
  obtain ⟨τ, rfl⟩ := h
  obtain ⟨a, b⟩ := map_at hx
  exact ⟨a, _, b⟩
noncomputable def dueOf (zs : List Int) (n : Nat) : UInt64 := Float64.ofFrac (decide (psum (fun i => mgn (fun i => (nums zs i).natAbs) n i * mgn (fun i => kap (nums zs i).natAbs) n i) n < 0) != decide (sq3 (fun i => (nums zs i).natAbs) n < 0)) (psum (fun i => mgn (fun i => (nums zs i).natAbs) n i * mgn (fun i => kap (nums zs i).natAbs) n i) n).natAbs (sq3 (fun i => (nums zs i).natAbs) n).natAbs
theorem sq3_nums {zs : List Int} {n : Nat} (hnn : n = min 6 zs.length + 5) : 0 < sq3 (fun i => (nums zs i).natAbs) n := by
  refine sq3_pos (i := min 6 zs.length + 0) (j := min 6 zs.length + 1) (by ((try dsimp only); first | assumption | exact om1 ‹_› ‹_› rfl | exact om1 rfl ‹_› rfl | exact om3 ‹_› ‹_› rfl | exact om3 rfl ‹_› rfl | exact om2 ‹_› ‹_› rfl | exact om2 rfl ‹_› rfl | exact om14 ‹_› rfl | exact om15 ‹_› | exact om16 ‹_› ‹_› | exact om17 ‹_› ‹_› rfl | exact om9 ‹_› ‹_› | exact om24 ‹_› ‹_› | ((try refine And.intro ?_ ?_); (all_goals ((try show _ + 1 ≤ _); (iterate 20 (try first | exact Nat.le_refl _ | exact Nat.zero_le _ | assumption | refine om20 (by k_asm) ?_ | refine om21 (by k_asm) ?_ | (with_reducible show _ + 1 ≤ _ + 1; refine Nat.succ_le_succ ?_) | (with_reducible show _ ≤ _ + _; refine Nat.le_succ_of_le ?_) | refine om20 (om13 (by k_asm)) ?_ | refine om21 (om13 (by k_asm)) ?_ | refine om20 (A1 (by k_asm)) ?_ | refine om21 (A1 (by k_asm)) ?_)); done))) | omega)) (by ((try dsimp only); first | assumption | exact om1 ‹_› ‹_› rfl | exact om1 rfl ‹_› rfl | exact om3 ‹_› ‹_› rfl | exact om3 rfl ‹_› rfl | exact om2 ‹_› ‹_› rfl | exact om2 rfl ‹_› rfl | exact om14 ‹_› rfl | exact om15 ‹_› | exact om16 ‹_› ‹_› | exact om17 ‹_› ‹_› rfl | exact om9 ‹_› ‹_› | exact om24 ‹_› ‹_› | ((try refine And.intro ?_ ?_); (all_goals ((try show _ + 1 ≤ _); (iterate 20 (try first | exact Nat.le_refl _ | exact Nat.zero_le _ | assumption | refine om20 (by k_asm) ?_ | refine om21 (by k_asm) ?_ | (with_reducible show _ + 1 ≤ _ + 1; refine Nat.succ_le_succ ?_) | (with_reducible show _ ≤ _ + _; refine Nat.le_succ_of_le ?_) | refine om20 (om13 (by k_asm)) ?_ | refine om21 (om13 (by k_asm)) ?_ | refine om20 (A1 (by k_asm)) ?_ | refine om21 (A1 (by k_asm)) ?_)); done))) | omega)) ?_
  show (nums zs (min 6 zs.length + 0)).natAbs ≠ (nums zs (min 6 zs.length + 1)).natAbs
  rw [nums_out, nums_out]
  decide
theorem mul_ok (a : Int) {b : Int} (h : b.natAbs ≤ 11) : IntMulOk a b := IntMulOk.of_right (intBits_le_64 (by ((try dsimp only); first | assumption | exact om1 ‹_› ‹_› rfl | exact om1 rfl ‹_› rfl | exact om3 ‹_› ‹_› rfl | exact om3 rfl ‹_› rfl | exact om2 ‹_› ‹_› rfl | exact om2 rfl ‹_› rfl | exact om14 ‹_› rfl | exact om15 ‹_› | exact om16 ‹_› ‹_› | exact om17 ‹_› ‹_› rfl | exact om9 ‹_› ‹_› | exact om24 ‹_› ‹_› | ((try refine And.intro ?_ ?_); (all_goals ((try show _ + 1 ≤ _); (iterate 20 (try first | exact Nat.le_refl _ | exact Nat.zero_le _ | assumption | refine om20 (by k_asm) ?_ | refine om21 (by k_asm) ?_ | (with_reducible show _ + 1 ≤ _ + 1; refine Nat.succ_le_succ ?_) | (with_reducible show _ ≤ _ + _; refine Nat.le_succ_of_le ?_) | refine om20 (om13 (by k_asm)) ?_ | refine om21 (om13 (by k_asm)) ?_ | refine om20 (A1 (by k_asm)) ?_ | refine om21 (A1 (by k_asm)) ?_)); done))) | omega)) (by ((try dsimp only); first | assumption | exact om1 ‹_› ‹_› rfl | exact om1 rfl ‹_› rfl | exact om3 ‹_› ‹_› rfl | exact om3 rfl ‹_› rfl | exact om2 ‹_› ‹_› rfl | exact om2 rfl ‹_› rfl | exact om14 ‹_› rfl | exact om15 ‹_› | exact om16 ‹_› ‹_› | exact om17 ‹_› ‹_› rfl | exact om9 ‹_› ‹_› | exact om24 ‹_› ‹_› | ((try refine And.intro ?_ ?_); (all_goals ((try show _ + 1 ≤ _); (iterate 20 (try first | exact Nat.le_refl _ | exact Nat.zero_le _ | assumption | refine om20 (by k_asm) ?_ | refine om21 (by k_asm) ?_ | (with_reducible show _ + 1 ≤ _ + 1; refine Nat.succ_le_succ ?_) | (with_reducible show _ ≤ _ + _; refine Nat.le_succ_of_le ?_) | refine om20 (om13 (by k_asm)) ?_ | refine om21 (om13 (by k_asm)) ?_ | refine om20 (A1 (by k_asm)) ?_ | refine om21 (A1 (by k_asm)) ?_)); done))) | omega)))
theorem law_E {Q : Flow → Shared → Prop} {qn : Str} {L a : Addr} {cdv : Value} {zs : List Int} {n : Nat} (hnn : IsN zs n) (hS : St1 zs n m news s.toks) (hS2 : St2 zs n m news)
   (G : Gd w mean mg mb callerA base [] h₀) (F₀ : Fr h₀ L s.heap m) (N₀ : News h₀ L s.heap news)
   (hQ : ∀ h' (tk' : Nat) m' td, (∀ x, x ≠ Str.ofString "a" → x ≠ Str.ofString "b" → x ≠ Str.ofString "due" → m' x = m x) → m' (Str.ofString "due") = some (.float (dueOf zs n) td) → Fr h₀ L h' m' → News h₀ L h' news → s.toks ≤ tk' → Q .next { s with heap := h', toks := tk' }) :
   wpAny (model Challenge.rw_ij0174_01.row.prog w) (callerA.deeper (lawEnv qn L a cdv)) (execs ((lawCode.1.drop 14).take 3) (lawEnv qn L a cdv)) Q E s := by
  have hn12 : n < 12 ∧ 5 ≤ n := hnn.five
  obtain ⟨NV, SV, WV, PV, nv, sv, wv, pv, mN, mS, mW, mP, iN, iS, iW, iP, cN, cS, cW, cP⟩ := hS
  obtain ⟨OV, ov, T, t1, t2, lo, hi, tlo, thi, tl, kk, mO, iO, hov, hT, mlo, elo, mhi, ehi, hkk, mkk, mlow⟩ := hS2
  have hsvl := cS.len
  have hovl : ov.length = n := by rw [hov]; simp
  obtain ⟨τs, hsv, hsb, hsi⟩ := cS
  have G₀ := G
  have B := G.B; have X := G.X; have T' := G.T; have XB := G.XB; have TB := G.TB; have D' := G.D
  unfold lawEnv
  rw [lawCode_eq ?zo]
  case zo => rfl
  dsimp only [List.drop, List.take]
  revert X
  k_fill
  intro X
  refine let_ar ?_; intro ar9
  k_steps
  show wpAny _ _ _ _ _ _
  with_unfolding_all refine' margins_call (lt := kLt fun i => (nums zs i).natAbs) (gt := kGt fun i => (nums zs i).natAbs) (ws := sv) ?y1 ?y3 ?y4 ?y5 ?z1 ?z2 ?z3 ?z4 ?z5 ?z6 ?z7 ?_
  case z2 => k_asm
  case z4 => k_asm
  case y1 => ((try dsimp only); first | assumption | exact om1 ‹_› ‹_› rfl | exact om1 rfl ‹_› rfl | exact om3 ‹_› ‹_› rfl | exact om3 rfl ‹_› rfl | exact om2 ‹_› ‹_› rfl | exact om2 rfl ‹_› rfl | exact om14 ‹_› rfl | exact om15 ‹_› | exact om16 ‹_› ‹_› | exact om17 ‹_› ‹_› rfl | exact om9 ‹_› ‹_› | exact om24 ‹_› ‹_› | ((try refine And.intro ?_ ?_); (all_goals ((try show _ + 1 ≤ _); (iterate 20 (try first | exact Nat.le_refl _ | exact Nat.zero_le _ | assumption | refine om20 (by k_asm) ?_ | refine om21 (by k_asm) ?_ | (with_reducible show _ + 1 ≤ _ + 1; refine Nat.succ_le_succ ?_) | (with_reducible show _ ≤ _ + _; refine Nat.le_succ_of_le ?_) | refine om20 (om13 (by k_asm)) ?_ | refine om21 (om13 (by k_asm)) ?_ | refine om20 (A1 (by k_asm)) ?_ | refine om21 (A1 (by k_asm)) ?_)); done))) | omega)
  case y3 => exact iS
  case y4 => exact (int_lt hsv).1
  case y5 => exact (int_lt hsv).2
  case z1 => assumption
  case z3 => assumption
  case z5 => assumption
  case z6 => k_room
  case z7 => k_units
  intro AV av h5 tk5 F5 N5 off5 hA ht5
  k_steps
  show wpAny _ _ _ _ _ _
  with_unfolding_all refine' margins_call (lt := kLt fun i => kap (nums zs i).natAbs) (gt := kGt fun i => kap (nums zs i).natAbs) (ws := ov) ?y1 ?y3 ?y4 ?y5 ?z1 ?z2 ?z3 ?z4 ?z5 ?z6 ?z7 ?_
  case z2 => k_asm
  case z4 => k_asm
  case y1 => ((try dsimp only); first | assumption | exact om1 ‹_› ‹_› rfl | exact om1 rfl ‹_› rfl | exact om3 ‹_› ‹_› rfl | exact om3 rfl ‹_› rfl | exact om2 ‹_› ‹_› rfl | exact om2 rfl ‹_› rfl | exact om14 ‹_› rfl | exact om15 ‹_› | exact om16 ‹_› ‹_› | exact om17 ‹_› ‹_› rfl | exact om9 ‹_› ‹_› | exact om24 ‹_› ‹_› | ((try refine And.intro ?_ ?_); (all_goals ((try show _ + 1 ≤ _); (iterate 20 (try first | exact Nat.le_refl _ | exact Nat.zero_le _ | assumption | refine om20 (by k_asm) ?_ | refine om21 (by k_asm) ?_ | (with_reducible show _ + 1 ≤ _ + 1; refine Nat.succ_le_succ ?_) | (with_reducible show _ ≤ _ + _; refine Nat.le_succ_of_le ?_) | refine om20 (om13 (by k_asm)) ?_ | refine om21 (om13 (by k_asm)) ?_ | refine om20 (A1 (by k_asm)) ?_ | refine om21 (A1 (by k_asm)) ?_)); done))) | omega)
  case y3 => exact .tail _ iO
  case y4 => exact fun i v j x hi hj => Cmp.mono ((ord_lt hov hT).1 i v j x hi hj) fun q hq => .tail _ hq
  case y5 => exact fun i v j x hi hj => Cmp.mono ((ord_lt hov hT).2 i v j x hi hj) fun q hq => .tail _ hq
  case z1 => assumption
  case z3 => assumption
  case z5 => assumption
  case z6 => k_room
  case z7 => k_units
  intro BV bv h6 tk6 F6 N6 off6 hB ht6
  rw [hsvl] at hA
  rw [hovl] at hB
  have rA : Row (fun i t => .int (mgn (fun i => (nums zs i).natAbs) n i) t) n av := ints_row hA
  have rB : Row (fun i t => .int (mgn (fun i => kap (nums zs i).natAbs) n i) t) n bv := ints_row hB
  clear hA hB
  have hal := rA.len
  have hbl := rB.len
  k_steps
  show wpAny _ _ _ _ _ _
  rename News h₀ L _ _ => kN7
  have kN8 : News h₀ L _ ((BV, listOf bv.toArray bv.length) :: (AV, listOf av.toArray av.length) :: news) := kN7
  refine call_zip2 (xs := av) (ys := bv) (k1 := av.length) (k2 := bv.length) (by k_asm) kN8 (.tail _ (.head _)) (.head _) ?_
  intro h9 I1 I2 TI TO Z F9 N9 l1 l2 l3 l4 l5
  k_steps
  show wpAny _ _ _ _ _ _
  refine wpAny_pyIter_zip (N9 _ (.head _)).1 ?_
  have la : AV ≠ I1 ∧ BV ≠ I1 := ⟨Nat.ne_of_lt (l1 _ (.tail _ (.head _))), Nat.ne_of_lt (l1 _ (.head _))⟩
  refine compIn_zip (xs := av) (ys' := bv) (k1 := av.length) (k2 := bv.length) (n := n) (D1 := AV) (D2 := BV) (I1 := I1) (I2 := I2) (TI := TI) (TO := TO) (RJ ((TI, tupO [.ref I1, .ref I2]) :: (BV, listOf bv.toArray bv.length) :: (AV, listOf av.toArray av.length) :: news) (fun i t => .int (mgn (fun i => (nums zs i).natAbs) n i * mgn (fun i => kap (nums zs i).natAbs) n i) t) n) rfl (by ((try dsimp only); first | assumption | exact om1 ‹_› ‹_› rfl | exact om1 rfl ‹_› rfl | exact om3 ‹_› ‹_› rfl | exact om3 rfl ‹_› rfl | exact om2 ‹_› ‹_› rfl | exact om2 rfl ‹_› rfl | exact om14 ‹_› rfl | exact om15 ‹_› | exact om16 ‹_› ‹_› | exact om17 ‹_› ‹_› rfl | exact om9 ‹_› ‹_› | exact om24 ‹_› ‹_› | ((try refine And.intro ?_ ?_); (all_goals ((try show _ + 1 ≤ _); (iterate 20 (try first | exact Nat.le_refl _ | exact Nat.zero_le _ | assumption | refine om20 (by k_asm) ?_ | refine om21 (by k_asm) ?_ | (with_reducible show _ + 1 ≤ _ + 1; refine Nat.succ_le_succ ?_) | (with_reducible show _ ≤ _ + _; refine Nat.le_succ_of_le ?_) | refine om20 (om13 (by k_asm)) ?_ | refine om21 (om13 (by k_asm)) ?_ | refine om20 (A1 (by k_asm)) ?_ | refine om21 (A1 (by k_asm)) ?_)); done))) | omega)) hal hbl rfl rfl (by decide) rfl
    (fun j ys nw tk hj => ⟨by rw [hj.2.2.len]; exact Nat.le_refl _, hj.2.1, by rw [hj.1]; exact .head _, by rw [hj.1]; exact .tail _ (.tail _ (.head _)), by rw [hj.1]; exact .tail _ (.head _)⟩) F9
    (fun q hq => N9 q (mem_sk (mem_sk mem_p3) hq))
    ?nd ⟨rfl, Nat.zero_le _, ⟨fun _ => 0, rfl⟩⟩ ?turn ?fin
  case nd =>
    have f1 : ∀ q ∈ news, q.1 < I1 := fun q hq => l1 q (.tail _ (.tail _ hq))
    have a1 := l1 _ (.head _)
    have a2 := l1 _ (.tail _ (.head _))
    dsimp only at a1 a2
    have mk : ∀ x : Addr, @LE.le Nat _ I1 x → x ≠ TI → ∀ q ∈ (TI, tupO [.ref I1, .ref I2]) :: (BV, listOf bv.toArray bv.length) :: (AV, listOf av.toArray av.length) :: news, q.1 ≠ x := by
      intro x hx hxT q hq
      rcases List.mem_cons.mp hq with rfl | hq
      · exact Ne.symm hxT
      exact Nat.ne_of_lt (Nat.lt_of_lt_of_le (l1 q hq) hx)
    have o2 : @LT.lt Nat _ I1 TI := Nat.lt_trans l2 l3
    have o3 : @LT.lt Nat _ I1 TO := Nat.lt_trans o2 l4
    have o4 : @LT.lt Nat _ I1 Z := Nat.lt_trans o3 l5
    have o5 : @LT.lt Nat _ I2 TO := Nat.lt_trans l3 l4
    have o6 : @LT.lt Nat _ I2 Z := Nat.lt_trans o5 l5
    have o7 : @LT.lt Nat _ TI Z := Nat.lt_trans l4 l5
    exact ⟨Nat.ne_of_gt l5, Nat.ne_of_gt o4, Nat.ne_of_gt o6, Nat.ne_of_gt o3, Nat.ne_of_gt o5, Nat.ne_of_lt l2, mk _ (Nat.le_of_lt o4) (Nat.ne_of_gt o7), mk _ (Nat.le_of_lt o3) (Nat.ne_of_gt l4), mk _ (Nat.le_refl _) (Nat.ne_of_lt o2), mk _ (Nat.le_of_lt l2) (Nat.ne_of_lt l3)⟩
  case turn =>
    rintro C D j ys nw h tk oC m₁ v1 v2 E' ⟨rfl, hj, hC⟩ hv1 hv2 F2 hoC hx1 hx2 N2 back
    obtain ⟨hjn, u1, rfl⟩ := row_at rA hv1
    obtain ⟨_, u2, rfl⟩ := row_at rB hv2
    refine no_test rfl ?_
    have hmo := mul_ok (mgn (fun i => (nums zs i).natAbs) n j) (mgn_bound (fun i => kap (nums zs i).natAbs) n j (by ((try dsimp only); first | assumption | exact om1 ‹_› ‹_› rfl | exact om1 rfl ‹_› rfl | exact om3 ‹_› ‹_› rfl | exact om3 rfl ‹_› rfl | exact om2 ‹_› ‹_› rfl | exact om2 rfl ‹_› rfl | exact om14 ‹_› rfl | exact om15 ‹_› | exact om16 ‹_› ‹_› | exact om17 ‹_› ‹_› rfl | exact om9 ‹_› ‹_› | exact om24 ‹_› ‹_› | ((try refine And.intro ?_ ?_); (all_goals ((try show _ + 1 ≤ _); (iterate 20 (try first | exact Nat.le_refl _ | exact Nat.zero_le _ | assumption | refine om20 (by k_asm) ?_ | refine om21 (by k_asm) ?_ | (with_reducible show _ + 1 ≤ _ + 1; refine Nat.succ_le_succ ?_) | (with_reducible show _ ≤ _ + _; refine Nat.le_succ_of_le ?_) | refine om20 (om13 (by k_asm)) ?_ | refine om21 (om13 (by k_asm)) ?_ | refine om20 (A1 (by k_asm)) ?_ | refine om21 (A1 (by k_asm)) ?_)); done))) | omega)))
    k_steps
    refine back _ _ _ (by k_asm) (by assumption) ⟨rfl, by ((try dsimp only); first | assumption | exact om1 ‹_› ‹_› rfl | exact om1 rfl ‹_› rfl | exact om3 ‹_› ‹_› rfl | exact om3 rfl ‹_› rfl | exact om2 ‹_› ‹_› rfl | exact om2 rfl ‹_› rfl | exact om14 ‹_› rfl | exact om15 ‹_› | exact om16 ‹_› ‹_› | exact om17 ‹_› ‹_› rfl | exact om9 ‹_› ‹_› | exact om24 ‹_› ‹_› | ((try refine And.intro ?_ ?_); (all_goals ((try show _ + 1 ≤ _); (iterate 20 (try first | exact Nat.le_refl _ | exact Nat.zero_le _ | assumption | refine om20 (by k_asm) ?_ | refine om21 (by k_asm) ?_ | (with_reducible show _ + 1 ≤ _ + 1; refine Nat.succ_le_succ ?_) | (with_reducible show _ ≤ _ + _; refine Nat.le_succ_of_le ?_) | refine om20 (om13 (by k_asm)) ?_ | refine om21 (om13 (by k_asm)) ?_ | refine om20 (A1 (by k_asm)) ?_ | refine om21 (A1 (by k_asm)) ?_)); done))) | omega), Row.next hC rfl⟩
  case fin =>
    rintro ys nw tk ⟨rfl, hj, hC⟩
    intro D3 h F3 N3 offD
    k_steps
    show wpAny _ _ _ _ _ _
    have hyl := hC.len
    refine LSm.sum_ints (vs := ys) F3 N3 rfl (News.isList (items := ys.toArray) (n := ys.length) N3 (.head _)) (row_ints hC) ?_
    intro h10 tk10 t10 F10 N10
    rw [sum_psum]
    k_steps
    show wpAny _ _ _ _ _ _
    refine pyIter_N (its := av.toArray) (c := av.length) F10 N10 (by k_mem) ?_
    intro I3 h13 F13 N13 l13
    refine compIn_listF (ws := av) (RJ _ (fun i t => .int (mgn (fun i => (nums zs i).natAbs) n i * mgn (fun i => (nums zs i).natAbs) n i) t) n) (fun _ _ _ _ h => h) rfl (by ((try dsimp only); first | assumption | exact om1 ‹_› ‹_› rfl | exact om1 rfl ‹_› rfl | exact om3 ‹_› ‹_› rfl | exact om3 rfl ‹_› rfl | exact om2 ‹_› ‹_› rfl | exact om2 rfl ‹_› rfl | exact om14 ‹_› rfl | exact om15 ‹_› | exact om16 ‹_› ‹_› | exact om17 ‹_› ‹_› rfl | exact om9 ‹_› ‹_› | exact om24 ‹_› ‹_› | ((try refine And.intro ?_ ?_); (all_goals ((try show _ + 1 ≤ _); (iterate 20 (try first | exact Nat.le_refl _ | exact Nat.zero_le _ | assumption | refine om20 (by k_asm) ?_ | refine om21 (by k_asm) ?_ | (with_reducible show _ + 1 ≤ _ + 1; refine Nat.succ_le_succ ?_) | (with_reducible show _ ≤ _ + _; refine Nat.le_succ_of_le ?_) | refine om20 (om13 (by k_asm)) ?_ | refine om21 (om13 (by k_asm)) ?_ | refine om20 (A1 (by k_asm)) ?_ | refine om21 (A1 (by k_asm)) ?_)); done))) | omega)) (fun j ys tk hj => ⟨by rw [hj.2.len]; exact Nat.le_refl _, by have := hj.1; ((try dsimp only); first | assumption | exact om1 ‹_› ‹_› rfl | exact om1 rfl ‹_› rfl | exact om3 ‹_› ‹_› rfl | exact om3 rfl ‹_› rfl | exact om2 ‹_› ‹_› rfl | exact om2 rfl ‹_› rfl | exact om14 ‹_› rfl | exact om15 ‹_› | exact om16 ‹_› ‹_› | exact om17 ‹_› ‹_› rfl | exact om9 ‹_› ‹_› | exact om24 ‹_› ‹_› | ((try refine And.intro ?_ ?_); (all_goals ((try show _ + 1 ≤ _); (iterate 20 (try first | exact Nat.le_refl _ | exact Nat.zero_le _ | assumption | refine om20 (by k_asm) ?_ | refine om21 (by k_asm) ?_ | (with_reducible show _ + 1 ≤ _ + 1; refine Nat.succ_le_succ ?_) | (with_reducible show _ ≤ _ + _; refine Nat.le_succ_of_le ?_) | refine om20 (om13 (by k_asm)) ?_ | refine om21 (om13 (by k_asm)) ?_ | refine om20 (A1 (by k_asm)) ?_ | refine om21 (A1 (by k_asm)) ?_)); done))) | omega)⟩) (by k_mem) F13 N13 (fun q hq => Nat.ne_of_lt (l13 q hq)) ⟨rfl, Nat.zero_le _, ⟨fun _ => 0, rfl⟩⟩ ?turn ?fin
    case turn =>
      intro C D'' j ys h tk oC m₁ x E' hJ hx F2 hoC N2 off2 offI hCD hCL hDL hCI hDI
      have hj := hJ.1; have hC := hJ.2; clear hJ
      obtain ⟨hjn, u1, rfl⟩ := row_at rA hx
      refine bind_name (by rfl) rfl hoC N2 (off_of hCD hCI off2) F2 ?_
      intro h3 oC3 m3 F3 hoC3 hm3 N3
      refine no_test rfl ?_
      have hmo := mul_ok (mgn (fun i => (nums zs i).natAbs) n j) (mgn_bound (fun i => (nums zs i).natAbs) n j (by ((try dsimp only); first | assumption | exact om1 ‹_› ‹_› rfl | exact om1 rfl ‹_› rfl | exact om3 ‹_› ‹_› rfl | exact om3 rfl ‹_› rfl | exact om2 ‹_› ‹_› rfl | exact om2 rfl ‹_› rfl | exact om14 ‹_› rfl | exact om15 ‹_› | exact om16 ‹_› ‹_› | exact om17 ‹_› ‹_› rfl | exact om9 ‹_› ‹_› | exact om24 ‹_› ‹_› | ((try refine And.intro ?_ ?_); (all_goals ((try show _ + 1 ≤ _); (iterate 20 (try first | exact Nat.le_refl _ | exact Nat.zero_le _ | assumption | refine om20 (by k_asm) ?_ | refine om21 (by k_asm) ?_ | (with_reducible show _ + 1 ≤ _ + 1; refine Nat.succ_le_succ ?_) | (with_reducible show _ ≤ _ + _; refine Nat.le_succ_of_le ?_) | refine om20 (om13 (by k_asm)) ?_ | refine om21 (om13 (by k_asm)) ?_ | refine om20 (A1 (by k_asm)) ?_ | refine om21 (A1 (by k_asm)) ?_)); done))) | omega)))
      k_steps
      refine CBack.fin (by k_asm) hoC3 (by assumption) (fun q hq => hq) off2 hCI hDI ⟨_, rfl, offI, rfl, by ((try dsimp only); first | assumption | exact om1 ‹_› ‹_› rfl | exact om1 rfl ‹_› rfl | exact om3 ‹_› ‹_› rfl | exact om3 rfl ‹_› rfl | exact om2 ‹_› ‹_› rfl | exact om2 rfl ‹_› rfl | exact om14 ‹_› rfl | exact om15 ‹_› | exact om16 ‹_› ‹_› | exact om17 ‹_› ‹_› rfl | exact om9 ‹_› ‹_› | exact om24 ‹_› ‹_› | ((try refine And.intro ?_ ?_); (all_goals ((try show _ + 1 ≤ _); (iterate 20 (try first | exact Nat.le_refl _ | exact Nat.zero_le _ | assumption | refine om20 (by k_asm) ?_ | refine om21 (by k_asm) ?_ | (with_reducible show _ + 1 ≤ _ + 1; refine Nat.succ_le_succ ?_) | (with_reducible show _ ≤ _ + _; refine Nat.le_succ_of_le ?_) | refine om20 (om13 (by k_asm)) ?_ | refine om21 (om13 (by k_asm)) ?_ | refine om20 (A1 (by k_asm)) ?_ | refine om21 (A1 (by k_asm)) ?_)); done))) | omega), Row.next hC rfl⟩
    case fin =>
      intro ys2 tk hJ
      have hj := hJ.1; have hC2 := hJ.2; clear hJ
      intro D4 h14 F14 N14 offD4
      k_steps
      show wpAny _ _ _ _ _ _
      have hyl2 := hC2.len
      rw [hal] at hC2
      refine LSm.sum_ints (vs := ys2) F14 N14 rfl (News.isList (items := ys2.toArray) (n := ys2.length) N14 (.head _)) (row_ints hC2) ?_
      intro h15 tk15 t15 F15 N15
      rw [sum_psum]
      have hpos : 0 < psum (fun i => mgn (fun i => (nums zs i).natAbs) n i * mgn (fun i => (nums zs i).natAbs) n i) n := sq3_nums hnn
      have hnz : psum (fun i => mgn (fun i => (nums zs i).natAbs) n i * mgn (fun i => (nums zs i).natAbs) n i) n ≠ 0 := by ((try dsimp only); first | assumption | exact om1 ‹_› ‹_› rfl | exact om1 rfl ‹_› rfl | exact om3 ‹_› ‹_› rfl | exact om3 rfl ‹_› rfl | exact om2 ‹_› ‹_› rfl | exact om2 rfl ‹_› rfl | exact om14 ‹_› rfl | exact om15 ‹_› | exact om16 ‹_› ‹_› | exact om17 ‹_› ‹_› rfl | exact om9 ‹_› ‹_› | exact om24 ‹_› ‹_› | ((try refine And.intro ?_ ?_); (all_goals ((try show _ + 1 ≤ _); (iterate 20 (try first | exact Nat.le_refl _ | exact Nat.zero_le _ | assumption | refine om20 (by k_asm) ?_ | refine om21 (by k_asm) ?_ | (with_reducible show _ + 1 ≤ _ + 1; refine Nat.succ_le_succ ?_) | (with_reducible show _ ≤ _ + _; refine Nat.le_succ_of_le ?_) | refine om20 (om13 (by k_asm)) ?_ | refine om21 (om13 (by k_asm)) ?_ | refine om20 (A1 (by k_asm)) ?_ | refine om21 (A1 (by k_asm)) ?_)); done))) | omega)
      have hinf : ¬ Float64.isInf (Float64.ofFrac (decide (psum (fun i => mgn (fun i => (nums zs i).natAbs) n i * mgn (fun i => kap (nums zs i).natAbs) n i) n < 0) != decide (psum (fun i => mgn (fun i => (nums zs i).natAbs) n i * mgn (fun i => (nums zs i).natAbs) n i) n < 0)) (psum (fun i => mgn (fun i => (nums zs i).natAbs) n i * mgn (fun i => kap (nums zs i).natAbs) n i) n).natAbs (psum (fun i => mgn (fun i => (nums zs i).natAbs) n i * mgn (fun i => (nums zs i).natAbs) n i) n).natAbs) = true := by
        have hb := psum_bound (f := fun i => mgn (fun i => (nums zs i).natAbs) n i * mgn (fun i => kap (nums zs i).natAbs) n i) (B := 121) (n := n) fun j _ => mul_bound (mgn_bound _ n j (om29 hn12)) (mgn_bound _ n j (om29 hn12))
        have hb2 : n * 121 ≤ 11 * 121 := Nat.mul_le_mul_right _ (om29 hn12)
        exact Flt.quot_fits (by ((try dsimp only); first | assumption | exact om1 ‹_› ‹_› rfl | exact om1 rfl ‹_› rfl | exact om3 ‹_› ‹_› rfl | exact om3 rfl ‹_› rfl | exact om2 ‹_› ‹_› rfl | exact om2 rfl ‹_› rfl | exact om14 ‹_› rfl | exact om15 ‹_› | exact om16 ‹_› ‹_› | exact om17 ‹_› ‹_› rfl | exact om9 ‹_› ‹_› | exact om24 ‹_› ‹_› | ((try refine And.intro ?_ ?_); (all_goals ((try show _ + 1 ≤ _); (iterate 20 (try first | exact Nat.le_refl _ | exact Nat.zero_le _ | assumption | refine om20 (by k_asm) ?_ | refine om21 (by k_asm) ?_ | (with_reducible show _ + 1 ≤ _ + 1; refine Nat.succ_le_succ ?_) | (with_reducible show _ ≤ _ + _; refine Nat.le_succ_of_le ?_) | refine om20 (om13 (by k_asm)) ?_ | refine om21 (om13 (by k_asm)) ?_ | refine om20 (A1 (by k_asm)) ?_ | refine om21 (A1 (by k_asm)) ?_)); done))) | omega)) (Nat.lt_of_lt_of_le (m := 2 ^ 11) (Nat.lt_of_le_of_lt (Nat.le_trans hb hb2) (by decide)) (Nat.pow_le_pow_right (by decide) (by decide)))
      k_steps
      rename News h₀ L _ _ => kN16
      exact hQ _ _ _ _ (fun x hx1 hx2 hx3 => (if_neg hx3).trans ((if_neg hx2).trans (if_neg hx1))) (if_pos rfl) (by k_asm) (fun q hq => kN16 q (by repeat (first | exact hq | refine List.Mem.tail _ ?_))) (by dsimp only at *; ((try dsimp only); first | assumption | exact om1 ‹_› ‹_› rfl | exact om1 rfl ‹_› rfl | exact om3 ‹_› ‹_› rfl | exact om3 rfl ‹_› rfl | exact om2 ‹_› ‹_› rfl | exact om2 rfl ‹_› rfl | exact om14 ‹_› rfl | exact om15 ‹_› | exact om16 ‹_› ‹_› | exact om17 ‹_› ‹_› rfl | exact om9 ‹_› ‹_› | exact om24 ‹_› ‹_› | ((try refine And.intro ?_ ?_); (all_goals ((try show _ + 1 ≤ _); (iterate 20 (try first | exact Nat.le_refl _ | exact Nat.zero_le _ | assumption | refine om20 (by k_asm) ?_ | refine om21 (by k_asm) ?_ | (with_reducible show _ + 1 ≤ _ + 1; refine Nat.succ_le_succ ?_) | (with_reducible show _ ≤ _ + _; refine Nat.le_succ_of_le ?_) | refine om20 (om13 (by k_asm)) ?_ | refine om21 (om13 (by k_asm)) ?_ | refine om20 (A1 (by k_asm)) ?_ | refine om21 (A1 (by k_asm)) ?_)); done))) | omega))
end
end Mine
end
-- WLf0
section
namespace Mine
theorem rstWLf0 : True := by (w_top off); trivial
section
variable {w : World} {mean : ExcName → Option Value} {mg mb : Str → Option Value}
   {dp un : Nat} {gd : Option (List Code)} {cn : Str} {nm : List (Str × NameKind)} {ig ic : Bool} {mo : List (Str × Const)} {a : Addr} {ccd : Value} {outer : List Env} {A₀ : Around} {base h₀ : Heap} {L : Addr} {m : Str → Option Value} {s : Shared} {Q E : Value → Shared → Prop} {news : List (Addr × Obj)}
theorem lg_mgn {key : Nat → Key × Tok} {k : Nat → Nat} (h : ∀ i j, (key i).1.lt (key j).1 = decide (k i < k j)) (n i : Nat) : lg key n i = mgn k n i := by
  unfold lg mgn
  rw [cnt_congr (g := fun j => kLt k j i) fun j _ => h j i, cnt_congr (g := fun j => kGt k j i) fun j _ => h i j]
theorem corr_kap {D1 D2 : Addr} {c1 c2 n : Nat} {tm : Tok} {k1 k2 : Nat → Key × Tok} {ka kb : Nat → Nat} (h2 : 2 ≤ n) (hn : n ≤ 11) (ht1 : ∀ i j, i < n → j < n → (k1 i).1.ty = (k1 j).1.ty) (hp1 : ∀ i j, i < n → j < n → KeyPair (k1 i) (k1 j)) (ht2 : ∀ i j, i < n → j < n → (k2 i).1.ty = (k2 j).1.ty) (hp2 : ∀ i j, i < n → j < n → KeyPair (k2 i) (k2 j))
   (hk1 : ∀ i j, (k1 i).1.lt (k1 j).1 = decide (ka i < ka j)) (hk2 : ∀ i j, (k2 i).1.lt (k2 j).1 = decide (kb i < kb j)) (hties : ∀ i j, i < n → j < n → (ka i = ka j ↔ kb i = kb j)) (hpos : 0 < sq3 ka n)
   (m1 : (D1, listOf (col k1 n).toArray c1) ∈ news) (m2 : (D2, listOf (col k2 n).toArray c2) ∈ news)
   (G : Gd w mean mg mb A₀ base outer h₀) (F : Fr h₀ L s.heap m) (N : News h₀ L s.heap news)
   (hd : dp + 50 < recursionLimit) (hu : un + 500 < cLine)
   (hQ : ∀ h₁ h' (tk' : Nat) t, Gd w mean mg mb A₀ base outer h₁ → KtsTurn (Fs outer) h₀ h₁ → Fr h₁ L h' m → News h₁ L h' news → s.toks ≤ tk' →
      Q (.float (Float64.ofFrac (decide (psum (fun i => mgn ka n i * mgn kb n i) n < 0) != decide (sq3 ka n < 0)) (psum (fun i => mgn ka n i * mgn kb n i) n).natAbs (sq3 ka n).natAbs) t) { s with heap := h', toks := tk' }) :
   wpAny (model Challenge.rw_ij0174_01.row.prog w) (AT dp un gd cn nm ig ic mo L a ccd outer) (call (.ref 312) [.ref D1, .ref D2] [("method", .str (Str.ofString "ranked") tm)]) Q E s := by
  have e1 : ∀ i, lg k1 n i = mgn ka n i := lg_mgn hk1 n
  have e2 : ∀ i, lg k2 n i = mgn kb n i := lg_mgn hk2 n
  have hb := sq3_bound ka hn
  have ha : (((sq3 ka n).natAbs : Nat) : Int) = sq3 ka n := by ((try dsimp only); first | assumption | exact om1 ‹_› ‹_› rfl | exact om1 rfl ‹_› rfl | exact om3 ‹_› ‹_› rfl | exact om3 rfl ‹_› rfl | exact om2 ‹_› ‹_› rfl | exact om2 rfl ‹_› rfl | exact om14 ‹_› rfl | exact om15 ‹_› | exact om16 ‹_› ‹_› | exact om17 ‹_› ‹_› rfl | exact om9 ‹_› ‹_› | exact om24 ‹_› ‹_› | ((try refine And.intro ?_ ?_); (all_goals ((try show _ + 1 ≤ _); (iterate 20 (try first | exact Nat.le_refl _ | exact Nat.zero_le _ | assumption | refine om20 (by k_asm) ?_ | refine om21 (by k_asm) ?_ | (with_reducible show _ + 1 ≤ _ + 1; refine Nat.succ_le_succ ?_) | (with_reducible show _ ≤ _ + _; refine Nat.le_succ_of_le ?_) | refine om20 (om13 (by k_asm)) ?_ | refine om21 (om13 (by k_asm)) ?_ | refine om20 (A1 (by k_asm)) ?_ | refine om21 (A1 (by k_asm)) ?_)); done))) | omega)
  refine corr_both (Aa := (sq3 ka n).natAbs) h2 hn ht1 hp1 ht2 hp2 m1 m2 G F N hd hu (.inl ⟨by ((try dsimp only); first | assumption | exact om1 ‹_› ‹_› rfl | exact om1 rfl ‹_› rfl | exact om3 ‹_› ‹_› rfl | exact om3 rfl ‹_› rfl | exact om2 ‹_› ‹_› rfl | exact om2 rfl ‹_› rfl | exact om14 ‹_› rfl | exact om15 ‹_› | exact om16 ‹_› ‹_› | exact om17 ‹_› ‹_› rfl | exact om9 ‹_› ‹_› | exact om24 ‹_› ‹_› | ((try refine And.intro ?_ ?_); (all_goals ((try show _ + 1 ≤ _); (iterate 20 (try first | exact Nat.le_refl _ | exact Nat.zero_le _ | assumption | refine om20 (by k_asm) ?_ | refine om21 (by k_asm) ?_ | (with_reducible show _ + 1 ≤ _ + 1; refine Nat.succ_le_succ ?_) | (with_reducible show _ ≤ _ + _; refine Nat.le_succ_of_le ?_) | refine om20 (om13 (by k_asm)) ?_ | refine om21 (om13 (by k_asm)) ?_ | refine om20 (A1 (by k_asm)) ?_ | refine om21 (A1 (by k_asm)) ?_)); done))) | omega), hb, ?_, ?_, ?_⟩)
  · rw [ha]; exact psum_congr fun i _ => by rw [e1]
  · rw [ha, sq3_ties hties]; exact psum_congr fun i _ => by rw [e2]
  · intro h₁ h' tk' t G₁ T₁ F₁ N₁ ht
    have := hQ h₁ h' tk' t G₁ T₁ F₁ N₁ ht
    rw [ha, show psum (fun i => lg k1 n i * lg k2 n i) n = psum (fun i => mgn ka n i * mgn kb n i) n from psum_congr fun i _ => by rw [e1, e2]]
    exact this
theorem key_pairs {key : Nat → Key × Tok} {n : Nat} (h0 : ∀ i, i < n → (key i).2 ≠ 0) (hi : ∀ i i', i < i' → i' < n → (key i).2 ≠ (key i').2) (hk : (∀ i, ∃ x, (key i).1 = .i x) ∨ (∀ i, ∃ x, (key i).1 = .b x)) : ∀ i j, i < n → j < n → KeyPair (key i) (key j) := by
  intro i j hin hjn
  refine ⟨h0 i hin, h0 j hjn, fun e => ?_, ?_⟩
  · rcases Nat.lt_trichotomy i j with q | q | q
    · exact absurd e (hi i j q hjn)
    · rw [q]
    · exact absurd e.symm (hi j i q hin)
  · rcases hk with hk | hk
    · obtain ⟨x, hx⟩ := hk i
      obtain ⟨y, hy⟩ := hk j
      exact .inl ⟨x, y, hx, hy⟩
    · obtain ⟨x, hx⟩ := hk i
      obtain ⟨y, hy⟩ := hk j
      exact .inr ⟨x, y, hx, hy⟩
theorem key_ty {key : Nat → Key × Tok} (hk : (∀ i, ∃ x, (key i).1 = .i x) ∨ (∀ i, ∃ x, (key i).1 = .b x)) (i j : Nat) : (key i).1.ty = (key j).1.ty := by
  rcases hk with hk | hk
  · obtain ⟨x, hx⟩ := hk i
    obtain ⟨y, hy⟩ := hk j
    rw [hx, hy]; rfl
  · obtain ⟨x, hx⟩ := hk i
    obtain ⟨y, hy⟩ := hk j
    rw [hx, hy]; rfl
noncomputable def KCol (key : Nat → Key × Tok) (n : Nat) : Prop := (∀ i, i < n → (key i).2 ≠ 0) ∧ (∀ i i', i < i' → i' < n → (key i).2 ≠ (key i').2) ∧ ((∀ i, ∃ x, (key i).1 = .i x) ∨ (∀ i, ∃ x, (key i).1 = .b x))
theorem KCol.of_int {f : Nat → Int} {n tk : Nat} {vs : List Value} (h : Col (fun i t => .int (f i) t) n vs tk) : ∃ key, vs = col key n ∧ KCol key n ∧ ∀ i, (key i).1 = .i (f i) := by
  obtain ⟨τ, e, hb, hi⟩ := h
  exact ⟨fun i => (.i (f i), τ i), e, ⟨fun i hi' => Nat.ne_of_gt (hb i hi').1, hi, .inl fun i => ⟨_, rfl⟩⟩, fun _ => rfl⟩
theorem KCol.of_bytes {f : Nat → Array UInt8} {n tk : Nat} {vs : List Value} (h : Col (fun i t => .bytes (f i) t) n vs tk) : ∃ key, vs = col key n ∧ KCol key n ∧ ∀ i, (key i).1 = .b (f i) := by
  obtain ⟨τ, e, hb, hi⟩ := h
  exact ⟨fun i => (.b (f i), τ i), e, ⟨fun i hi' => Nat.ne_of_gt (hb i hi').1, hi, .inr fun i => ⟨_, rfl⟩⟩, fun _ => rfl⟩
section
variable {zs : List Int} {n : Nat} {D1 D2 : Addr} {c1 c2 : Nat} {tm : Tok} {vs1 vs2 : List Value} {tk1 tk2 : Nat}
theorem kap_ties (i j : Nat) : (nums zs i).natAbs = (nums zs j).natAbs ↔ kap (nums zs i).natAbs = kap (nums zs j).natAbs := ⟨fun e => by rw [e], kap_inj⟩
theorem int_keys {key : Nat → Key × Tok} {f : Nat → Nat} (h : ∀ i, (key i).1 = .i ((f i : Nat) : Int)) (i j : Nat) : (key i).1.lt (key j).1 = decide (f i < f j) := by
  rw [h, h]; exact decide_eq_decide.mpr (by ((try dsimp only); first | assumption | exact om1 ‹_› ‹_› rfl | exact om1 rfl ‹_› rfl | exact om3 ‹_› ‹_› rfl | exact om3 rfl ‹_› rfl | exact om2 ‹_› ‹_› rfl | exact om2 rfl ‹_› rfl | exact om14 ‹_› rfl | exact om15 ‹_› | exact om16 ‹_› ‹_› | exact om17 ‹_› ‹_› rfl | exact om9 ‹_› ‹_› | exact om24 ‹_› ‹_› | ((try refine And.intro ?_ ?_); (all_goals ((try show _ + 1 ≤ _); (iterate 20 (try first | exact Nat.le_refl _ | exact Nat.zero_le _ | assumption | refine om20 (by k_asm) ?_ | refine om21 (by k_asm) ?_ | (with_reducible show _ + 1 ≤ _ + 1; refine Nat.succ_le_succ ?_) | (with_reducible show _ ≤ _ + _; refine Nat.le_succ_of_le ?_) | refine om20 (om13 (by k_asm)) ?_ | refine om21 (om13 (by k_asm)) ?_ | refine om20 (A1 (by k_asm)) ?_ | refine om21 (A1 (by k_asm)) ?_)); done))) | omega))
theorem word_keys {key : Nat → Key × Tok} (h : ∀ i, (key i).1 = .b (wordOf (nums zs i).natAbs).toArray) (i j : Nat) : (key i).1.lt (key j).1 = decide ((fun i => kap (nums zs i).natAbs) i < (fun i => kap (nums zs i).natAbs) j) := by
  rw [h, h]; exact word_lt (nums_lt zs i) (nums_lt zs j)
theorem fill_keys {key : Nat → Key × Tok} (h : ∀ i, (key i).1 = .b (lets 3 (nums zs i).natAbs).toArray) (i j : Nat) : (key i).1.lt (key j).1 = decide ((fun i => (nums zs i).natAbs) i < (fun i => (nums zs i).natAbs) j) := by
  rw [h, h]; exact fill_lt (nums_lt zs i) (nums_lt zs j)
theorem corr_sw (hnn : n = min 6 zs.length + 5) (cS : Col (fun i t => .int (((nums zs i).natAbs : Nat) : Int) t) n vs1 tk1) (cW : Col (fun i t => .bytes (wordOf (nums zs i).natAbs).toArray t) n vs2 tk2)
   (m1 : (D1, listOf vs1.toArray c1) ∈ news) (m2 : (D2, listOf vs2.toArray c2) ∈ news)
   (G : Gd w mean mg mb A₀ base outer h₀) (F : Fr h₀ L s.heap m) (N : News h₀ L s.heap news)
   (hd : dp + 50 < recursionLimit) (hu : un + 500 < cLine)
   (hQ : ∀ h₁ h' (tk' : Nat) t, Gd w mean mg mb A₀ base outer h₁ → KtsTurn (Fs outer) h₀ h₁ → Fr h₁ L h' m → News h₁ L h' news → s.toks ≤ tk' → Q (.float (dueOf zs n) t) { s with heap := h', toks := tk' }) :
   wpAny (model Challenge.rw_ij0174_01.row.prog w) (AT dp un gd cn nm ig ic mo L a ccd outer) (call (.ref 312) [.ref D1, .ref D2] [("method", .str (Str.ofString "ranked") tm)]) Q E s := by
  obtain ⟨key1, rfl, ⟨a1, a2, a3⟩, a4⟩ := KCol.of_int cS
  obtain ⟨key2, rfl, ⟨b1, b2, b3⟩, b4⟩ := KCol.of_bytes cW
  exact corr_kap (ka := fun i => (nums zs i).natAbs) (kb := fun i => kap (nums zs i).natAbs) (by ((try dsimp only); first | assumption | exact om1 ‹_› ‹_› rfl | exact om1 rfl ‹_› rfl | exact om3 ‹_› ‹_› rfl | exact om3 rfl ‹_› rfl | exact om2 ‹_› ‹_› rfl | exact om2 rfl ‹_› rfl | exact om14 ‹_› rfl | exact om15 ‹_› | exact om16 ‹_› ‹_› | exact om17 ‹_› ‹_› rfl | exact om9 ‹_› ‹_› | exact om24 ‹_› ‹_› | ((try refine And.intro ?_ ?_); (all_goals ((try show _ + 1 ≤ _); (iterate 20 (try first | exact Nat.le_refl _ | exact Nat.zero_le _ | assumption | refine om20 (by k_asm) ?_ | refine om21 (by k_asm) ?_ | (with_reducible show _ + 1 ≤ _ + 1; refine Nat.succ_le_succ ?_) | (with_reducible show _ ≤ _ + _; refine Nat.le_succ_of_le ?_) | refine om20 (om13 (by k_asm)) ?_ | refine om21 (om13 (by k_asm)) ?_ | refine om20 (A1 (by k_asm)) ?_ | refine om21 (A1 (by k_asm)) ?_)); done))) | omega)) (by ((try dsimp only); first | assumption | exact om1 ‹_› ‹_› rfl | exact om1 rfl ‹_› rfl | exact om3 ‹_› ‹_› rfl | exact om3 rfl ‹_› rfl | exact om2 ‹_› ‹_› rfl | exact om2 rfl ‹_› rfl | exact om14 ‹_› rfl | exact om15 ‹_› | exact om16 ‹_› ‹_› | exact om17 ‹_› ‹_› rfl | exact om9 ‹_› ‹_› | exact om24 ‹_› ‹_› | ((try refine And.intro ?_ ?_); (all_goals ((try show _ + 1 ≤ _); (iterate 20 (try first | exact Nat.le_refl _ | exact Nat.zero_le _ | assumption | refine om20 (by k_asm) ?_ | refine om21 (by k_asm) ?_ | (with_reducible show _ + 1 ≤ _ + 1; refine Nat.succ_le_succ ?_) | (with_reducible show _ ≤ _ + _; refine Nat.le_succ_of_le ?_) | refine om20 (om13 (by k_asm)) ?_ | refine om21 (om13 (by k_asm)) ?_ | refine om20 (A1 (by k_asm)) ?_ | refine om21 (A1 (by k_asm)) ?_)); done))) | omega)) (fun i j _ _ => key_ty a3 i j) (key_pairs a1 a2 a3) (fun i j _ _ => key_ty b3 i j) (key_pairs b1 b2 b3) (int_keys a4) (word_keys b4) (fun i j _ _ => kap_ties i j) (sq3_nums hnn) m1 m2 G F N hd hu hQ
theorem corr_ws (hnn : n = min 6 zs.length + 5) (cS : Col (fun i t => .int (((nums zs i).natAbs : Nat) : Int) t) n vs1 tk1) (cW : Col (fun i t => .bytes (wordOf (nums zs i).natAbs).toArray t) n vs2 tk2)
   (m1 : (D1, listOf vs1.toArray c1) ∈ news) (m2 : (D2, listOf vs2.toArray c2) ∈ news)
   (G : Gd w mean mg mb A₀ base outer h₀) (F : Fr h₀ L s.heap m) (N : News h₀ L s.heap news)
   (hd : dp + 50 < recursionLimit) (hu : un + 500 < cLine)
   (hQ : ∀ h₁ h' (tk' : Nat) t, Gd w mean mg mb A₀ base outer h₁ → KtsTurn (Fs outer) h₀ h₁ → Fr h₁ L h' m → News h₁ L h' news → s.toks ≤ tk' → Q (.float (dueOf zs n) t) { s with heap := h', toks := tk' }) :
   wpAny (model Challenge.rw_ij0174_01.row.prog w) (AT dp un gd cn nm ig ic mo L a ccd outer) (call (.ref 312) [.ref D2, .ref D1] [("method", .str (Str.ofString "ranked") tm)]) Q E s := by
  obtain ⟨key1, rfl, ⟨a1, a2, a3⟩, a4⟩ := KCol.of_int cS
  obtain ⟨key2, rfl, ⟨b1, b2, b3⟩, b4⟩ := KCol.of_bytes cW
  have hsq : sq3 (fun i => kap (nums zs i).natAbs) n = sq3 (fun i => (nums zs i).natAbs) n := sq3_ties fun i j _ _ => (kap_ties i j).symm
  refine corr_kap (kb := fun i => (nums zs i).natAbs) (ka := fun i => kap (nums zs i).natAbs) (by ((try dsimp only); first | assumption | exact om1 ‹_› ‹_› rfl | exact om1 rfl ‹_› rfl | exact om3 ‹_› ‹_› rfl | exact om3 rfl ‹_› rfl | exact om2 ‹_› ‹_› rfl | exact om2 rfl ‹_› rfl | exact om14 ‹_› rfl | exact om15 ‹_› | exact om16 ‹_› ‹_› | exact om17 ‹_› ‹_› rfl | exact om9 ‹_› ‹_› | exact om24 ‹_› ‹_› | ((try refine And.intro ?_ ?_); (all_goals ((try show _ + 1 ≤ _); (iterate 20 (try first | exact Nat.le_refl _ | exact Nat.zero_le _ | assumption | refine om20 (by k_asm) ?_ | refine om21 (by k_asm) ?_ | (with_reducible show _ + 1 ≤ _ + 1; refine Nat.succ_le_succ ?_) | (with_reducible show _ ≤ _ + _; refine Nat.le_succ_of_le ?_) | refine om20 (om13 (by k_asm)) ?_ | refine om21 (om13 (by k_asm)) ?_ | refine om20 (A1 (by k_asm)) ?_ | refine om21 (A1 (by k_asm)) ?_)); done))) | omega)) (by ((try dsimp only); first | assumption | exact om1 ‹_› ‹_› rfl | exact om1 rfl ‹_› rfl | exact om3 ‹_› ‹_› rfl | exact om3 rfl ‹_› rfl | exact om2 ‹_› ‹_› rfl | exact om2 rfl ‹_› rfl | exact om14 ‹_› rfl | exact om15 ‹_› | exact om16 ‹_› ‹_› | exact om17 ‹_› ‹_› rfl | exact om9 ‹_› ‹_› | exact om24 ‹_› ‹_› | ((try refine And.intro ?_ ?_); (all_goals ((try show _ + 1 ≤ _); (iterate 20 (try first | exact Nat.le_refl _ | exact Nat.zero_le _ | assumption | refine om20 (by k_asm) ?_ | refine om21 (by k_asm) ?_ | (with_reducible show _ + 1 ≤ _ + 1; refine Nat.succ_le_succ ?_) | (with_reducible show _ ≤ _ + _; refine Nat.le_succ_of_le ?_) | refine om20 (om13 (by k_asm)) ?_ | refine om21 (om13 (by k_asm)) ?_ | refine om20 (A1 (by k_asm)) ?_ | refine om21 (A1 (by k_asm)) ?_)); done))) | omega)) (fun i j _ _ => key_ty b3 i j) (key_pairs b1 b2 b3) (fun i j _ _ => key_ty a3 i j) (key_pairs a1 a2 a3) (word_keys b4) (int_keys a4) (fun i j _ _ => (kap_ties i j).symm) (by rw [hsq]; exact sq3_nums hnn) m2 m1 G F N hd hu ?_
  rw [hsq, show psum (fun i => mgn (fun i => kap (nums zs i).natAbs) n i * mgn (fun i => (nums zs i).natAbs) n i) n = psum (fun i => mgn (fun i => (nums zs i).natAbs) n i * mgn (fun i => kap (nums zs i).natAbs) n i) n from psum_congr fun i _ => Int.mul_comm _ _]
  exact hQ
theorem corr_fs (hnn : n = min 6 zs.length + 5) (cF : Col (fun i t => .bytes (lets 3 (nums zs i).natAbs).toArray t) n vs1 tk1) (cS : Col (fun i t => .int (((nums zs i).natAbs : Nat) : Int) t) n vs2 tk2)
   (m1 : (D1, listOf vs1.toArray c1) ∈ news) (m2 : (D2, listOf vs2.toArray c2) ∈ news)
   (G : Gd w mean mg mb A₀ base outer h₀) (F : Fr h₀ L s.heap m) (N : News h₀ L s.heap news)
   (hd : dp + 50 < recursionLimit) (hu : un + 500 < cLine)
   (hQ : ∀ h₁ h' (tk' : Nat) t, Gd w mean mg mb A₀ base outer h₁ → KtsTurn (Fs outer) h₀ h₁ → Fr h₁ L h' m → News h₁ L h' news → s.toks ≤ tk' → Q (.float 4607182418800017408 t) { s with heap := h', toks := tk' }) :
   wpAny (model Challenge.rw_ij0174_01.row.prog w) (AT dp un gd cn nm ig ic mo L a ccd outer) (call (.ref 312) [.ref D1, .ref D2] [("method", .str (Str.ofString "ranked") tm)]) Q E s := by
  obtain ⟨key1, rfl, ⟨a1, a2, a3⟩, a4⟩ := KCol.of_bytes cF
  obtain ⟨key2, rfl, ⟨b1, b2, b3⟩, b4⟩ := KCol.of_int cS
  refine corr_kap (ka := fun i => (nums zs i).natAbs) (kb := fun i => (nums zs i).natAbs) (by ((try dsimp only); first | assumption | exact om1 ‹_› ‹_› rfl | exact om1 rfl ‹_› rfl | exact om3 ‹_› ‹_› rfl | exact om3 rfl ‹_› rfl | exact om2 ‹_› ‹_› rfl | exact om2 rfl ‹_› rfl | exact om14 ‹_› rfl | exact om15 ‹_› | exact om16 ‹_› ‹_› | exact om17 ‹_› ‹_› rfl | exact om9 ‹_› ‹_› | exact om24 ‹_› ‹_› | ((try refine And.intro ?_ ?_); (all_goals ((try show _ + 1 ≤ _); (iterate 20 (try first | exact Nat.le_refl _ | exact Nat.zero_le _ | assumption | refine om20 (by k_asm) ?_ | refine om21 (by k_asm) ?_ | (with_reducible show _ + 1 ≤ _ + 1; refine Nat.succ_le_succ ?_) | (with_reducible show _ ≤ _ + _; refine Nat.le_succ_of_le ?_) | refine om20 (om13 (by k_asm)) ?_ | refine om21 (om13 (by k_asm)) ?_ | refine om20 (A1 (by k_asm)) ?_ | refine om21 (A1 (by k_asm)) ?_)); done))) | omega)) (by ((try dsimp only); first | assumption | exact om1 ‹_› ‹_› rfl | exact om1 rfl ‹_› rfl | exact om3 ‹_› ‹_› rfl | exact om3 rfl ‹_› rfl | exact om2 ‹_› ‹_› rfl | exact om2 rfl ‹_› rfl | exact om14 ‹_› rfl | exact om15 ‹_› | exact om16 ‹_› ‹_› | exact om17 ‹_› ‹_› rfl | exact om9 ‹_› ‹_› | exact om24 ‹_› ‹_› | ((try refine And.intro ?_ ?_); (all_goals ((try show _ + 1 ≤ _); (iterate 20 (try first | exact Nat.le_refl _ | exact Nat.zero_le _ | assumption | refine om20 (by k_asm) ?_ | refine om21 (by k_asm) ?_ | (with_reducible show _ + 1 ≤ _ + 1; refine Nat.succ_le_succ ?_) | (with_reducible show _ ≤ _ + _; refine Nat.le_succ_of_le ?_) | refine om20 (om13 (by k_asm)) ?_ | refine om21 (om13 (by k_asm)) ?_ | refine om20 (A1 (by k_asm)) ?_ | refine om21 (A1 (by k_asm)) ?_)); done))) | omega)) (fun i j _ _ => key_ty a3 i j) (key_pairs a1 a2 a3) (fun i j _ _ => key_ty b3 i j) (key_pairs b1 b2 b3) (fill_keys a4) (int_keys b4) (fun i j _ _ => Iff.rfl) (sq3_nums hnn) m1 m2 G F N hd hu ?_
  have := frac_one (sq3_nums hnn)
  unfold sq3 at this ⊢
  rw [this]
  exact hQ
end
end
end Mine
end
-- WLf
section
namespace Mine
theorem rstWLf : True := by (w_top off); trivial
section
variable {w : World} {mean : ExcName → Option Value} {mg mb : Str → Option Value}
   {dp un : Nat} {gd : Option (List Code)} {cn : Str} {nm : List (Str × NameKind)} {ig ic : Bool} {mo : List (Str × Const)} {a : Addr} {ccd : Value} {outer : List Env} {A₀ : Around} {base h₀ : Heap} {L : Addr} {m : Str → Option Value} {s : Shared} {Q E : Value → Shared → Prop} {news : List (Addr × Obj)}
inductive BackT (h₀ : Heap) (L I S : Addr) (P : Nat → (Str → Option Value) → List (Addr × Obj) → Prop) (j : Nat) (s₁ s₃ : Shared) : Prop
  | mk (h') (tk') (m') (nw) (p1 : s₃ = { s₁ with heap := h', toks := tk' }) (p2 : P j m' nw) (p3 : Fr h₀ L h' m') (p4 : News h₀ L h' ((I, tiObj S j) :: nw)) (p5 : s₁.toks ≤ tk') : BackT h₀ L I S P j s₁ s₃
inductive TupJ (h₀ : Heap) (L I S : Addr) (P : Nat → (Str → Option Value) → List (Addr × Obj) → Prop) (ws : List Value) (s : Shared) : Nat → Shared → Prop
  | mk (j : Nat) (h : Heap) (tk : Nat) (m' : Str → Option Value) (nw : List (Addr × Obj)) (p1 : j ≤ ws.length) (p2 : P j m' nw) (p3 : Fr h₀ L h m') (p4 : News h₀ L h ((I, tiObj S j) :: nw)) (p5 : s.toks ≤ tk) : TupJ h₀ L I S P ws s (ws.length - j) { s with heap := h, toks := tk }
theorem forK_tup {prog : Program} {A : Around} {env : Env} {I S : Addr} {ws : List Value} {x : Str} {px : Pos} {body : List Stmt} {Q : Flow → Shared → Prop} {nw0 : List (Addr × Obj)} (P : Nat → (Str → Option Value) → List (Addr × Obj) → Prop)
   (hh : A.handled = none) (hP : ∀ j m nw, P j m nw → (S, tupO ws) ∈ nw ∧ ∀ q ∈ nw, q.1 ≠ I)
   (F : Fr h₀ L s.heap m) (P0 : P 0 m nw0) (N : News h₀ L s.heap ((I, tiObj S 0) :: nw0))
   (turn : ∀ j v h tk m' nw, ws[j]? = some v → P j m' nw → Fr h₀ L h m' → News h₀ L h ((I, tiObj S (j + 1)) :: nw) → s.toks ≤ tk →
      wpAny (model prog w) A (assign (.Name x px) env v) (fun _ s₂ => wpAny (model prog w) A (execs body env) (OwitFlow Q (BackT h₀ L I S P (j + 1) { s with heap := h, toks := tk })) E s₂) E { s with heap := h, toks := tk })
   (done : ∀ h tk m' nw, P ws.length m' nw → Fr h₀ L h m' → News h₀ L h nw → s.toks ≤ tk → Q .next { s with heap := h, toks := tk }) :
   ForK prog w A E env (.Name x px) body Q (.ref I) s := by
  refine ⟨TupJ h₀ L I S P ws s,
    ws.length, (TupJ.mk 0 s.heap s.toks m nw0 (Nat.zero_le _) P0 F N (Nat.le_refl _)), ?_⟩
  rintro r s' ⟨j, h, tk, m', nw, hj, hPj, F₁, N₁, htk⟩
  obtain ⟨mS, nI⟩ := hP _ _ _ hPj
  cases hw : ws[j]? with
  | none =>
    have hje : j = ws.length := Nat.le_antisymm hj (by simpa using hw)
    refine ti_end (vs := ws) (k := 0) hh F₁ N₁ (.head nI) (.tail _ mS) hw fun h' F₂ N₂ => ?_
    subst hje
    exact done h' tk m' nw hPj F₂ (fun q hq => N₂ q (.tail _ hq)) htk
  | some v =>
    have hlt : j < ws.length := (List.getElem?_eq_some_iff.mp hw).1
    refine ti_item (vs := ws) (k := 0) F₁ N₁ (.head nI) (.tail _ mS) hw fun h' F₂ N₂ => ?_
    show wpAny _ _ (pure ()) _ _ _
    refine wpAny_pure ?_
    refine wpAny_mono (turn j v h' tk m' nw hw hPj F₂ N₂ htk) (fun _ s₂ hs₂ => wpAny_mono hs₂ (fun f s₃ hf => ?_) fun _ _ z => z) fun _ _ z => z
    have back : BackT h₀ L I S P (j + 1) { s with heap := h', toks := tk } s₃ → ∃ k', k' < ws.length - j ∧ TupJ h₀ L I S P ws s k' s₃ := by
      rintro ⟨h₃, tk₃, m₃, nw₃, rfl, hP₃, F₃, N₃, ht₃⟩
      exact ⟨ws.length - (j + 1), Nat.sub_lt_sub_left hlt (Nat.lt_succ_self j), TupJ.mk (j + 1) h₃ tk₃ m₃ nw₃ hlt hP₃ F₃ N₃ (Nat.le_trans htk ht₃)⟩
    cases f with
    | next => exact back hf
    | cont => exact back hf
    | brk => exact hf
    | ret v => exact hf
theorem cmp_self {x : UInt64} (h : Float64.isNaN x = false) : Float64.cmp x x = some .eq := by
  cases hd : Float64.decode x with
  | nan => unfold Float64.isNaN at h; rw [hd] at h; cases h
  | inf a => unfold Float64.cmp; rw [hd]; cases a <;> rfl
  | fin a m e =>
    rw [Float64.cmp_right hd hd]
    simp
theorem due_cmp (zs : List Int) (n : Nat) : (Float64.cmp (dueOf zs n) (dueOf zs n) != some Ordering.eq) = false := by
  have : Float64.isNaN (dueOf zs n) = false := by unfold dueOf Float64.ofFrac; exact W.isNaN_pack _ (W.roundMag_le _ _)
  rw [cmp_self this]; rfl
theorem law_F {Q : Flow → Shared → Prop} {qn : Str} {L a : Addr} {cdv : Value} {zs : List Int} {n : Nat} {td : Tok} (hnn : IsN zs n) (hS : St1 zs n m news s.toks) (hdue : m (Str.ofString "due") = some (.float (dueOf zs n) td))
   (G : Gd w mean mg mb callerA base [] h₀) (F₀ : Fr h₀ L s.heap m) (N₀ : News h₀ L s.heap news) (hE : PassesOwn (model Challenge.rw_ij0174_01.row.prog w) (callerA.deeper (lawEnv qn L a cdv)) (lawEnv qn L a cdv) E)
   (hQ : ∀ h₁ h' (tk' : Nat) m', Gd w mean mg mb callerA base [] h₁ → (∀ b o, h₀.get? b = some o → h₁.get? b = some o) → (∀ x, x ≠ Str.ofString "told" → m' x = m x) → Fr h₁ L h' m' → News h₁ L h' news → s.toks ≤ tk' → Q .next { s with heap := h', toks := tk' }) :
   wpAny (model Challenge.rw_ij0174_01.row.prog w) (callerA.deeper (lawEnv qn L a cdv)) (execs ((lawCode.1.drop 17).take 1) (lawEnv qn L a cdv)) Q E s := by
  have hn12 : n < 12 ∧ 5 ≤ n := hnn.five
  obtain ⟨NV, SV, WV, PV, nv, sv, wv, pv, mN, mS, mW, mP, iN, iS, iW, iP, cN, cS, cW, cP⟩ := hS
  have G₀ := G
  have B := G.B; have X := G.X; have T' := G.T; have XB := G.XB; have TB := G.TB; have D' := G.D
  unfold lawEnv at hE ⊢
  rw [lawCode_eq ?zo] at hE ⊢
  case zo => rfl
  dsimp only [List.drop, List.take] at hE ⊢
  revert X
  k_fill
  intro X
  refine let_ar ?_; intro ar9
  k_steps
  show wpAny _ _ _ _ _ _
  refine for_own ?_ ?ks hE
  case ks => (intro _; with_unfolding_all rfl)
  k_steps
  show wpAny _ _ _ _ _ _
  with_unfolding_all refine' corr_sw hnn cS cW iS iW ?z1 ?z2 ?z3 ?z4 ?z5 ?_
  case z2 => k_asm
  case z3 => k_asm
  case z1 => exact ⟨by assumption, by assumption, by assumption, by assumption, by assumption, by assumption⟩
  case z4 => k_room
  case z5 => k_units
  intro h5 g5 tk5 t5 G5 T5 F5 N5 ht5
  have G5' := G5
  have B5 := G5.B; have X5 := G5.X; have P5 := G5.T; have XB5 := G5.XB; have TB5 := G5.TB; have D5 := G5.D
  k_steps
  show wpAny _ _ _ _ _ _
  with_unfolding_all refine' corr_ws hnn cS cW iS iW ?z1 ?z2 ?z3 ?z4 ?z5 ?_
  case z2 => k_asm
  case z3 => k_asm
  case z1 => exact ⟨by assumption, by assumption, by assumption, by assumption, by assumption, by assumption⟩
  case z4 => k_room
  case z5 => k_units
  intro h6 g6 tk6 t6 G6 T6 F6 N6 ht6
  have G6' := G6
  have B6 := G6.B; have X6 := G6.X; have P6 := G6.T; have XB6 := G6.XB; have TB6 := G6.TB; have D6 := G6.D
  k_steps
  show wpAny _ _ _ _ _ _
  rename News _ L _ _ => kN7
  rename Fr _ L _ _ => kF7
  refine pyIter_T (k := 0) kF7 kN7 (.head _) ?_
  intro I h8 F8 N8 l8
  refine forK_tup (ws := [.float (dueOf zs n) t5, .float (dueOf zs n) t6]) (fun j m' nw => nw = _ ∧ ∀ x, x ≠ Str.ofString "told" → m' x = m x) rfl (fun j m' nw hj => ⟨by rw [hj.1]; exact .head _, fun q hq => Nat.ne_of_lt (l8 q (by rw [hj.1] at hq; exact hq))⟩) F8 ⟨rfl, fun _ _ => rfl⟩ N8 ?turn ?done
  case turn =>
    rintro j v h tk m' nw hv ⟨rfl, hm'⟩ F9 N9 ht9
    have hv' : ∃ t, v = .float (dueOf zs n) t := by
      rcases j with _ | _ | j
      · exact ⟨_, (Option.some.inj hv).symm⟩
      · exact ⟨_, (Option.some.inj hv).symm⟩
      · simp at hv
    obtain ⟨tt, rfl⟩ := hv'
    have hdue' : m' (Str.ofString "due") = some (.float (dueOf zs n) td) := (hm' _ (by decide)).trans hdue
    have hdc := due_cmp zs n
    k_steps
    exact ⟨_, _, _, _, rfl, ⟨rfl, fun x hx => (if_neg hx).trans (hm' x hx)⟩, by k_asm, by assumption, by dsimp only at *; ((try dsimp only); first | assumption | exact om1 ‹_› ‹_› rfl | exact om1 rfl ‹_› rfl | exact om3 ‹_› ‹_› rfl | exact om3 rfl ‹_› rfl | exact om2 ‹_› ‹_› rfl | exact om2 rfl ‹_› rfl | exact om14 ‹_› rfl | exact om15 ‹_› | exact om16 ‹_› ‹_› | exact om17 ‹_› ‹_› rfl | exact om9 ‹_› ‹_› | exact om24 ‹_› ‹_› | ((try refine And.intro ?_ ?_); (all_goals ((try show _ + 1 ≤ _); (iterate 20 (try first | exact Nat.le_refl _ | exact Nat.zero_le _ | assumption | refine om20 (by k_asm) ?_ | refine om21 (by k_asm) ?_ | (with_reducible show _ + 1 ≤ _ + 1; refine Nat.succ_le_succ ?_) | (with_reducible show _ ≤ _ + _; refine Nat.le_succ_of_le ?_) | refine om20 (om13 (by k_asm)) ?_ | refine om21 (om13 (by k_asm)) ?_ | refine om20 (A1 (by k_asm)) ?_ | refine om21 (A1 (by k_asm)) ?_)); done))) | omega)⟩
  case done =>
    rintro h tk m' nw ⟨rfl, hm'⟩ F9 N9 ht9
    k_steps
    exact hQ _ _ _ _ G6' (kt_keeps (T5.trans T6)) hm' (by k_asm) (by first | assumption | exact (news_drop (by assumption) fun _ hq => .tail _ hq)) (by dsimp only at *; ((try dsimp only); first | assumption | exact om1 ‹_› ‹_› rfl | exact om1 rfl ‹_› rfl | exact om3 ‹_› ‹_› rfl | exact om3 rfl ‹_› rfl | exact om2 ‹_› ‹_› rfl | exact om2 rfl ‹_› rfl | exact om14 ‹_› rfl | exact om15 ‹_› | exact om16 ‹_› ‹_› | exact om17 ‹_› ‹_› rfl | exact om9 ‹_› ‹_› | exact om24 ‹_› ‹_› | ((try refine And.intro ?_ ?_); (all_goals ((try show _ + 1 ≤ _); (iterate 20 (try first | exact Nat.le_refl _ | exact Nat.zero_le _ | assumption | refine om20 (by k_asm) ?_ | refine om21 (by k_asm) ?_ | (with_reducible show _ + 1 ≤ _ + 1; refine Nat.succ_le_succ ?_) | (with_reducible show _ ≤ _ + _; refine Nat.le_succ_of_le ?_) | refine om20 (om13 (by k_asm)) ?_ | refine om21 (om13 (by k_asm)) ?_ | refine om20 (A1 (by k_asm)) ?_ | refine om21 (A1 (by k_asm)) ?_)); done))) | omega))
end
end Mine
end
-- WLg
section
namespace Mine
theorem rstWLg : True := by (w_top off); trivial
section
variable {w : World} {mean : ExcName → Option Value} {mg mb : Str → Option Value}
   {dp un : Nat} {gd : Option (List Code)} {cn : Str} {nm : List (Str × NameKind)} {ig ic : Bool} {mo : List (Str × Const)} {a : Addr} {ccd : Value} {outer : List Env} {A₀ : Around} {base h₀ : Heap} {L : Addr} {m : Str → Option Value} {s : Shared} {Q E : Value → Shared → Prop} {news : List (Addr × Obj)}
local macro_rules | `(tactic| walk_at "subscriptTail Name Constant ref int") => `(tactic| (k_here; refine stop_here ?_))
theorem one_cmp : (Float64.cmp 4607182418800017408 4607182418800017408 != some Ordering.eq) = false := by decide +kernel
theorem const_zero {key : Nat → Key × Tok} {x : Key} (n : Nat) (h : ∀ i, (key i).1 = x) : psum (fun i => lg key n i * lg key n i) n = 0 := by
  have e : ∀ i, lg key n i = 0 := fun i => by
    have a : ∀ i j, (key i).1.lt (key j).1 = false := fun i j => by rw [h, h]; exact Key.lt_irr x
    unfold lg
    simp only [a, cnt_false]
    rfl
  rw [psum_congr (g := fun _ => 0) fun i _ => by rw [e]; rfl]
  exact psum_zero n
theorem twins_refuse {news : List (Addr × Obj)} {D1 D2 : Addr} {c1 c2 : Nat} {wd : Array UInt8} {t1 t2 u1 u2 : Nat} (h1 : 0 < t1) (h2 : t1 < t2) (h3 : 0 < u1) (h4 : u1 < u2) (m1 : (D1, listOf [.int 1 t1, .int 2 t2].toArray c1) ∈ news) (m2 : (D2, listOf [.bytes wd u1, .bytes wd u2].toArray c2) ∈ news) :
    Refuse news D1 D2 ∧ Refuse news D2 D1 := by
  obtain ⟨k1, e1⟩ : ∃ k1 : Nat → Key × Tok, k1 = fun i => (.i (if i = 0 then 1 else 2), if i = 0 then t1 else t2) := ⟨_, rfl⟩
  obtain ⟨k2, e2⟩ : ∃ k2 : Nat → Key × Tok, k2 = fun i => (.b wd, if i = 0 then u1 else u2) := ⟨_, rfl⟩
  have a3 : (∀ i, ∃ x, (k1 i).1 = .i x) ∨ (∀ i, ∃ x, (k1 i).1 = .b x) := .inl fun i => ⟨_, by rw [e1]⟩
  have b3 : (∀ i, ∃ x, (k2 i).1 = .i x) ∨ (∀ i, ∃ x, (k2 i).1 = .b x) := .inr fun i => ⟨_, by rw [e2]⟩
  have p1 : ∀ i j, i < 2 → j < 2 → KeyPair (k1 i) (k1 j) := key_pairs (fun i hi => by
      rw [e1]; show (if i = 0 then t1 else t2) ≠ (0 : Nat); split <;> ((try dsimp only); first | assumption | exact om1 ‹_› ‹_› rfl | exact om1 rfl ‹_› rfl | exact om3 ‹_› ‹_› rfl | exact om3 rfl ‹_› rfl | exact om2 ‹_› ‹_› rfl | exact om2 rfl ‹_› rfl | exact om14 ‹_› rfl | exact om15 ‹_› | exact om16 ‹_› ‹_› | exact om17 ‹_› ‹_› rfl | exact om9 ‹_› ‹_› | exact om24 ‹_› ‹_› | ((try refine And.intro ?_ ?_); (all_goals ((try show _ + 1 ≤ _); (iterate 20 (try first | exact Nat.le_refl _ | exact Nat.zero_le _ | assumption | refine om20 (by k_asm) ?_ | refine om21 (by k_asm) ?_ | (with_reducible show _ + 1 ≤ _ + 1; refine Nat.succ_le_succ ?_) | (with_reducible show _ ≤ _ + _; refine Nat.le_succ_of_le ?_) | refine om20 (om13 (by k_asm)) ?_ | refine om21 (om13 (by k_asm)) ?_ | refine om20 (A1 (by k_asm)) ?_ | refine om21 (A1 (by k_asm)) ?_)); done))) | omega)) (fun i i' hii hi' => by
      rw [e1]; show (if i = 0 then t1 else t2) ≠ (if i' = 0 then t1 else t2)
      rw [if_pos (by ((try dsimp only); first | assumption | exact om1 ‹_› ‹_› rfl | exact om1 rfl ‹_› rfl | exact om3 ‹_› ‹_› rfl | exact om3 rfl ‹_› rfl | exact om2 ‹_› ‹_› rfl | exact om2 rfl ‹_› rfl | exact om14 ‹_› rfl | exact om15 ‹_› | exact om16 ‹_› ‹_› | exact om17 ‹_› ‹_› rfl | exact om9 ‹_› ‹_› | exact om24 ‹_› ‹_› | ((try refine And.intro ?_ ?_); (all_goals ((try show _ + 1 ≤ _); (iterate 20 (try first | exact Nat.le_refl _ | exact Nat.zero_le _ | assumption | refine om20 (by k_asm) ?_ | refine om21 (by k_asm) ?_ | (with_reducible show _ + 1 ≤ _ + 1; refine Nat.succ_le_succ ?_) | (with_reducible show _ ≤ _ + _; refine Nat.le_succ_of_le ?_) | refine om20 (om13 (by k_asm)) ?_ | refine om21 (om13 (by k_asm)) ?_ | refine om20 (A1 (by k_asm)) ?_ | refine om21 (A1 (by k_asm)) ?_)); done))) | omega)), if_neg (by ((try dsimp only); first | assumption | exact om1 ‹_› ‹_› rfl | exact om1 rfl ‹_› rfl | exact om3 ‹_› ‹_› rfl | exact om3 rfl ‹_› rfl | exact om2 ‹_› ‹_› rfl | exact om2 rfl ‹_› rfl | exact om14 ‹_› rfl | exact om15 ‹_› | exact om16 ‹_› ‹_› | exact om17 ‹_› ‹_› rfl | exact om9 ‹_› ‹_› | exact om24 ‹_› ‹_› | ((try refine And.intro ?_ ?_); (all_goals ((try show _ + 1 ≤ _); (iterate 20 (try first | exact Nat.le_refl _ | exact Nat.zero_le _ | assumption | refine om20 (by k_asm) ?_ | refine om21 (by k_asm) ?_ | (with_reducible show _ + 1 ≤ _ + 1; refine Nat.succ_le_succ ?_) | (with_reducible show _ ≤ _ + _; refine Nat.le_succ_of_le ?_) | refine om20 (om13 (by k_asm)) ?_ | refine om21 (om13 (by k_asm)) ?_ | refine om20 (A1 (by k_asm)) ?_ | refine om21 (A1 (by k_asm)) ?_)); done))) | omega))]; exact Nat.ne_of_lt h2) a3
  have p2 : ∀ i j, i < 2 → j < 2 → KeyPair (k2 i) (k2 j) := key_pairs (fun i hi => by
      rw [e2]; show (if i = 0 then u1 else u2) ≠ (0 : Nat); split <;> ((try dsimp only); first | assumption | exact om1 ‹_› ‹_› rfl | exact om1 rfl ‹_› rfl | exact om3 ‹_› ‹_› rfl | exact om3 rfl ‹_› rfl | exact om2 ‹_› ‹_› rfl | exact om2 rfl ‹_› rfl | exact om14 ‹_› rfl | exact om15 ‹_› | exact om16 ‹_› ‹_› | exact om17 ‹_› ‹_› rfl | exact om9 ‹_› ‹_› | exact om24 ‹_› ‹_› | ((try refine And.intro ?_ ?_); (all_goals ((try show _ + 1 ≤ _); (iterate 20 (try first | exact Nat.le_refl _ | exact Nat.zero_le _ | assumption | refine om20 (by k_asm) ?_ | refine om21 (by k_asm) ?_ | (with_reducible show _ + 1 ≤ _ + 1; refine Nat.succ_le_succ ?_) | (with_reducible show _ ≤ _ + _; refine Nat.le_succ_of_le ?_) | refine om20 (om13 (by k_asm)) ?_ | refine om21 (om13 (by k_asm)) ?_ | refine om20 (A1 (by k_asm)) ?_ | refine om21 (A1 (by k_asm)) ?_)); done))) | omega)) (fun i i' hii hi' => by
      rw [e2]; show (if i = 0 then u1 else u2) ≠ (if i' = 0 then u1 else u2)
      rw [if_pos (by ((try dsimp only); first | assumption | exact om1 ‹_› ‹_› rfl | exact om1 rfl ‹_› rfl | exact om3 ‹_› ‹_› rfl | exact om3 rfl ‹_› rfl | exact om2 ‹_› ‹_› rfl | exact om2 rfl ‹_› rfl | exact om14 ‹_› rfl | exact om15 ‹_› | exact om16 ‹_› ‹_› | exact om17 ‹_› ‹_› rfl | exact om9 ‹_› ‹_› | exact om24 ‹_› ‹_› | ((try refine And.intro ?_ ?_); (all_goals ((try show _ + 1 ≤ _); (iterate 20 (try first | exact Nat.le_refl _ | exact Nat.zero_le _ | assumption | refine om20 (by k_asm) ?_ | refine om21 (by k_asm) ?_ | (with_reducible show _ + 1 ≤ _ + 1; refine Nat.succ_le_succ ?_) | (with_reducible show _ ≤ _ + _; refine Nat.le_succ_of_le ?_) | refine om20 (om13 (by k_asm)) ?_ | refine om21 (om13 (by k_asm)) ?_ | refine om20 (A1 (by k_asm)) ?_ | refine om21 (A1 (by k_asm)) ?_)); done))) | omega)), if_neg (by ((try dsimp only); first | assumption | exact om1 ‹_› ‹_› rfl | exact om1 rfl ‹_› rfl | exact om3 ‹_› ‹_› rfl | exact om3 rfl ‹_› rfl | exact om2 ‹_› ‹_› rfl | exact om2 rfl ‹_› rfl | exact om14 ‹_› rfl | exact om15 ‹_› | exact om16 ‹_› ‹_› | exact om17 ‹_› ‹_› rfl | exact om9 ‹_› ‹_› | exact om24 ‹_› ‹_› | ((try refine And.intro ?_ ?_); (all_goals ((try show _ + 1 ≤ _); (iterate 20 (try first | exact Nat.le_refl _ | exact Nat.zero_le _ | assumption | refine om20 (by k_asm) ?_ | refine om21 (by k_asm) ?_ | (with_reducible show _ + 1 ≤ _ + 1; refine Nat.succ_le_succ ?_) | (with_reducible show _ ≤ _ + _; refine Nat.le_succ_of_le ?_) | refine om20 (om13 (by k_asm)) ?_ | refine om21 (om13 (by k_asm)) ?_ | refine om20 (A1 (by k_asm)) ?_ | refine om21 (A1 (by k_asm)) ?_)); done))) | omega))]; exact Nat.ne_of_lt h4) b3
  have q1 : col k1 2 = [.int 1 t1, .int 2 t2] := by rw [e1]; rfl
  have q2 : col k2 2 = [.bytes wd u1, .bytes wd u2] := by rw [e2]; rfl
  have z := const_zero (key := k2) (x := .b wd) 2 fun i => by rw [e2]
  rw [← q1] at m1
  rw [← q2] at m2
  exact ⟨.inr ⟨2, c1, c2, k1, k2, by decide, by decide, fun i j _ _ => key_ty a3 i j, p1, fun i j _ _ => key_ty b3 i j, p2, m1, m2, .inr z⟩, .inr ⟨2, c2, c1, k2, k1, by decide, by decide, fun i j _ _ => key_ty b3 i j, p2, fun i j _ _ => key_ty a3 i j, p1, m2, m1, .inl z⟩⟩
theorem law_G {Q : Flow → Shared → Prop} {qn : Str} {L a : Addr} {cdv : Value} {zs : List Int} {n : Nat} (hnn : IsN zs n) (hS : St1 zs n m news s.toks) (hS3 : St3 zs n m news s.toks)
   (G : Gd w mean mg mb callerA base [] h₀) (F₀ : Fr h₀ L s.heap m) (N₀ : News h₀ L s.heap news)
   (hQ : ∀ h' (tk' : Nat), (∀ b o, h₀.get? b = some o → h'.get? b = some o) → Q (.ret (.bool true)) { s with heap := h', toks := tk' }) :
   wpAny (model Challenge.rw_ij0174_01.row.prog w) (callerA.deeper (lawEnv qn L a cdv)) (execs (lawCode.1.drop 18) (lawEnv qn L a cdv)) Q E s := by
  have hn12 : n < 12 ∧ 5 ≤ n := hnn.five
  obtain ⟨NV, SV, WV, PV, nv, sv, wv, pv, mN, mS, mW, mP, iN, iS, iW, iP, cN, cS, cW, cP⟩ := hS
  obtain ⟨FV, fv, mF, iF, cF⟩ := hS3
  have hnvl := cN.len
  have hsvl := cS.len
  have hwvl := cW.len
  have ht0 : 0 < s.toks := by obtain ⟨τ, _, b, _⟩ := cN; have := b 0 (by ((try dsimp only); first | assumption | exact om1 ‹_› ‹_› rfl | exact om1 rfl ‹_› rfl | exact om3 ‹_› ‹_› rfl | exact om3 rfl ‹_› rfl | exact om2 ‹_› ‹_› rfl | exact om2 rfl ‹_› rfl | exact om14 ‹_› rfl | exact om15 ‹_› | exact om16 ‹_› ‹_› | exact om17 ‹_› ‹_› rfl | exact om9 ‹_› ‹_› | exact om24 ‹_› ‹_› | ((try refine And.intro ?_ ?_); (all_goals ((try show _ + 1 ≤ _); (iterate 20 (try first | exact Nat.le_refl _ | exact Nat.zero_le _ | assumption | refine om20 (by k_asm) ?_ | refine om21 (by k_asm) ?_ | (with_reducible show _ + 1 ≤ _ + 1; refine Nat.succ_le_succ ?_) | (with_reducible show _ ≤ _ + _; refine Nat.le_succ_of_le ?_) | refine om20 (om13 (by k_asm)) ?_ | refine om21 (om13 (by k_asm)) ?_ | refine om20 (A1 (by k_asm)) ?_ | refine om21 (A1 (by k_asm)) ?_)); done))) | omega)); ((try dsimp only); first | assumption | exact om1 ‹_› ‹_› rfl | exact om1 rfl ‹_› rfl | exact om3 ‹_› ‹_› rfl | exact om3 rfl ‹_› rfl | exact om2 ‹_› ‹_› rfl | exact om2 rfl ‹_› rfl | exact om14 ‹_› rfl | exact om15 ‹_› | exact om16 ‹_› ‹_› | exact om17 ‹_› ‹_› rfl | exact om9 ‹_› ‹_› | exact om24 ‹_› ‹_› | ((try refine And.intro ?_ ?_); (all_goals ((try show _ + 1 ≤ _); (iterate 20 (try first | exact Nat.le_refl _ | exact Nat.zero_le _ | assumption | refine om20 (by k_asm) ?_ | refine om21 (by k_asm) ?_ | (with_reducible show _ + 1 ≤ _ + 1; refine Nat.succ_le_succ ?_) | (with_reducible show _ ≤ _ + _; refine Nat.le_succ_of_le ?_) | refine om20 (om13 (by k_asm)) ?_ | refine om21 (om13 (by k_asm)) ?_ | refine om20 (A1 (by k_asm)) ?_ | refine om21 (A1 (by k_asm)) ?_)); done))) | omega)
  have G₀ := G
  have B := G.B; have X := G.X; have T' := G.T; have XB := G.XB; have TB := G.TB; have D' := G.D
  unfold lawEnv
  rw [lawCode_eq ?zo]
  case zo => rfl
  dsimp only [List.drop]
  revert X
  k_fill
  intro X
  refine let_ar ?_; intro ar9
  k_steps
  show wpAny _ _ _ _ _ _
  with_unfolding_all refine' corr_fs hnn cF cS iF iS ?z1 ?z2 ?z3 ?z4 ?z5 ?_
  case z2 => k_asm
  case z3 => k_asm
  case z1 => exact ⟨by assumption, by assumption, by assumption, by assumption, by assumption, by assumption⟩
  case z4 => k_room
  case z5 => k_units
  intro h5 g5 tk5 t5 G5 T5 F5 N5 ht5
  have G5' := G5
  have B5 := G5.B; have X5 := G5.X; have P5 := G5.T; have XB5 := G5.XB; have TB5 := G5.TB; have D5 := G5.D
  have h1c := one_cmp
  k_steps
  show wpAny _ _ _ _ _ _
  obtain ⟨t0, hl0⟩ := cN.row.get (i := 0) (by ((try dsimp only); first | assumption | exact om1 ‹_› ‹_› rfl | exact om1 rfl ‹_› rfl | exact om3 ‹_› ‹_› rfl | exact om3 rfl ‹_› rfl | exact om2 ‹_› ‹_› rfl | exact om2 rfl ‹_› rfl | exact om14 ‹_› rfl | exact om15 ‹_› | exact om16 ‹_› ‹_› | exact om17 ‹_› ‹_› rfl | exact om9 ‹_› ‹_› | exact om24 ‹_› ‹_› | ((try refine And.intro ?_ ?_); (all_goals ((try show _ + 1 ≤ _); (iterate 20 (try first | exact Nat.le_refl _ | exact Nat.zero_le _ | assumption | refine om20 (by k_asm) ?_ | refine om21 (by k_asm) ?_ | (with_reducible show _ + 1 ≤ _ + 1; refine Nat.succ_le_succ ?_) | (with_reducible show _ ≤ _ + _; refine Nat.le_succ_of_le ?_) | refine om20 (om13 (by k_asm)) ?_ | refine om21 (om13 (by k_asm)) ?_ | refine om20 (A1 (by k_asm)) ?_ | refine om21 (A1 (by k_asm)) ?_)); done))) | omega))
  refine sub_listI (j := 0) rfl N5 iN hl0 (by ((try dsimp only); first | assumption | exact om1 ‹_› ‹_› rfl | exact om1 rfl ‹_› rfl | exact om3 ‹_› ‹_› rfl | exact om3 rfl ‹_› rfl | exact om2 ‹_› ‹_› rfl | exact om2 rfl ‹_› rfl | exact om14 ‹_› rfl | exact om15 ‹_› | exact om16 ‹_› ‹_› | exact om17 ‹_› ‹_› rfl | exact om9 ‹_› ‹_› | exact om24 ‹_› ‹_› | ((try refine And.intro ?_ ?_); (all_goals ((try show _ + 1 ≤ _); (iterate 20 (try first | exact Nat.le_refl _ | exact Nat.zero_le _ | assumption | refine om20 (by k_asm) ?_ | refine om21 (by k_asm) ?_ | (with_reducible show _ + 1 ≤ _ + 1; refine Nat.succ_le_succ ?_) | (with_reducible show _ ≤ _ + _; refine Nat.le_succ_of_le ?_) | refine om20 (om13 (by k_asm)) ?_ | refine om21 (om13 (by k_asm)) ?_ | refine om20 (A1 (by k_asm)) ?_ | refine om21 (A1 (by k_asm)) ?_)); done))) | omega)) ?_
  k_steps
  show wpAny _ _ _ _ _ _
  with_unfolding_all refine' int2ap_call (nums_lt zs 0) ?z1 ?z2 ?z3 ?z4 ?z5 ?z6 ?z7 ?_
  case z2 => k_asm
  case z4 => k_asm
  case z1 => assumption
  case z3 => assumption
  case z5 => assumption
  case z6 => k_room
  case z7 => k_units
  intro h6 tk6 tv6 F6 N6 ht6 ht6'
  k_steps
  show wpAny _ _ _ _ _ _
  refine sub_listI (j := 0) rfl N6 iN hl0 (by ((try dsimp only); first | assumption | exact om1 ‹_› ‹_› rfl | exact om1 rfl ‹_› rfl | exact om3 ‹_› ‹_› rfl | exact om3 rfl ‹_› rfl | exact om2 ‹_› ‹_› rfl | exact om2 rfl ‹_› rfl | exact om14 ‹_› rfl | exact om15 ‹_› | exact om16 ‹_› ‹_› | exact om17 ‹_› ‹_› rfl | exact om9 ‹_› ‹_› | exact om24 ‹_› ‹_› | ((try refine And.intro ?_ ?_); (all_goals ((try show _ + 1 ≤ _); (iterate 20 (try first | exact Nat.le_refl _ | exact Nat.zero_le _ | assumption | refine om20 (by k_asm) ?_ | refine om21 (by k_asm) ?_ | (with_reducible show _ + 1 ≤ _ + 1; refine Nat.succ_le_succ ?_) | (with_reducible show _ ≤ _ + _; refine Nat.le_succ_of_le ?_) | refine om20 (om13 (by k_asm)) ?_ | refine om21 (om13 (by k_asm)) ?_ | refine om20 (A1 (by k_asm)) ?_ | refine om21 (A1 (by k_asm)) ?_)); done))) | omega)) ?_
  k_steps
  show wpAny _ _ _ _ _ _
  with_unfolding_all refine' int2ap_call (i := -nums zs 0) (by rw [Int.natAbs_neg]; exact nums_lt zs 0) ?z1 ?z2 ?z3 ?z4 ?z5 ?z6 ?z7 ?_
  case z2 => k_asm
  case z4 => k_asm
  case z1 => assumption
  case z3 => assumption
  case z5 => assumption
  case z6 => k_room
  case z7 => k_units
  intro h7 tk7 tv7 F7 N7 ht7 ht7'
  rw [Int.natAbs_neg]
  k_steps
  rename_i TW hh1 la hh2 ltk OT hh3 FF NN lb
  show wpAny _ _ _ _ _ _
  with_unfolding_all refine' refused_call ?zR ?z1 ?z2 ?z3 ?z4 ?z5 ?_
  case z2 => k_asm
  case z3 => k_asm
  case z1 => exact ⟨by assumption, by assumption, by assumption, by assumption, by assumption, by assumption⟩
  case zR => exact (twins_refuse (t1 := tk7 + 1) (t2 := tk7 + 1 + 1) (u1 := tv6) (u2 := tv7) (by dsimp only at *; omega) (by omega) (by dsimp only at *; omega) (by dsimp only at *; omega) (.head _) (.tail _ (.head _))).1
  case z4 => k_room
  case z5 => k_units
  intro h8 g8 tk8 G8 T8 F8 N8 ht8
  have B8 := G8.B; have X8 := G8.X; have P8 := G8.T; have XB8 := G8.XB; have TB8 := G8.TB; have D8 := G8.D
  k_steps
  show wpAny _ _ _ _ _ _
  with_unfolding_all refine' refused_call ?zR ?z1 ?z2 ?z3 ?z4 ?z5 ?_
  case z2 => k_asm
  case z3 => k_asm
  case z1 => exact ⟨by assumption, by assumption, by assumption, by assumption, by assumption, by assumption⟩
  case zR => exact (twins_refuse (t1 := tk8) (t2 := tk8 + 1) (u1 := tv6) (u2 := tv7) (by dsimp only at *; omega) (by omega) (by dsimp only at *; omega) (by dsimp only at *; omega) (.head _) (.tail _ (.tail _ (.head _)))).2
  case z4 => k_room
  case z5 => k_units
  intro h9 g9 tk9 G9 T9 F9 N9 ht9
  have B9 := G9.B; have X9 := G9.X; have P9 := G9.T; have XB9 := G9.XB; have TB9 := G9.TB; have D9 := G9.D
  k_steps
  have e1 : (kms_pick wv.toArray.toList (some 1) none).length = n - 1 := by
    have := pick_from wv 1
    rw [show kms_pick wv.toArray.toList (some 1) none = wv.drop 1 from this, List.length_drop, hwvl]
  have e2 : (kms_pick wv.toArray.toList none (some 1)).length = 1 := by
    have := pick_upto wv 1
    rw [show kms_pick wv.toArray.toList none (some 1) = wv.take 1 from this, List.length_take, hwvl]
    ((try dsimp only); first | assumption | exact om1 ‹_› ‹_› rfl | exact om1 rfl ‹_› rfl | exact om3 ‹_› ‹_› rfl | exact om3 rfl ‹_› rfl | exact om2 ‹_› ‹_› rfl | exact om2 rfl ‹_› rfl | exact om14 ‹_› rfl | exact om15 ‹_› | exact om16 ‹_› ‹_› | exact om17 ‹_› ‹_› rfl | exact om9 ‹_› ‹_› | exact om24 ‹_› ‹_› | ((try refine And.intro ?_ ?_); (all_goals ((try show _ + 1 ≤ _); (iterate 20 (try first | exact Nat.le_refl _ | exact Nat.zero_le _ | assumption | refine om20 (by k_asm) ?_ | refine om21 (by k_asm) ?_ | (with_reducible show _ + 1 ≤ _ + 1; refine Nat.succ_le_succ ?_) | (with_reducible show _ ≤ _ + _; refine Nat.le_succ_of_le ?_) | refine om20 (om13 (by k_asm)) ?_ | refine om21 (om13 (by k_asm)) ?_ | refine om20 (A1 (by k_asm)) ?_ | refine om21 (A1 (by k_asm)) ?_)); done))) | omega)
  have e3 : (kms_pick sv.toArray.toList none (some 1)).length = 1 := by
    have := pick_upto sv 1
    rw [show kms_pick sv.toArray.toList none (some 1) = sv.take 1 from this, List.length_take, hsvl]
    ((try dsimp only); first | assumption | exact om1 ‹_› ‹_› rfl | exact om1 rfl ‹_› rfl | exact om3 ‹_› ‹_› rfl | exact om3 rfl ‹_› rfl | exact om2 ‹_› ‹_› rfl | exact om2 rfl ‹_› rfl | exact om14 ‹_› rfl | exact om15 ‹_› | exact om16 ‹_› ‹_› | exact om17 ‹_› ‹_› rfl | exact om9 ‹_› ‹_› | exact om24 ‹_› ‹_› | ((try refine And.intro ?_ ?_); (all_goals ((try show _ + 1 ≤ _); (iterate 20 (try first | exact Nat.le_refl _ | exact Nat.zero_le _ | assumption | refine om20 (by k_asm) ?_ | refine om21 (by k_asm) ?_ | (with_reducible show _ + 1 ≤ _ + 1; refine Nat.succ_le_succ ?_) | (with_reducible show _ ≤ _ + _; refine Nat.le_succ_of_le ?_) | refine om20 (om13 (by k_asm)) ?_ | refine om21 (om13 (by k_asm)) ?_ | refine om20 (A1 (by k_asm)) ?_ | refine om21 (A1 (by k_asm)) ?_)); done))) | omega)
  show wpAny _ _ _ _ _ _
  with_unfolding_all refine' refused_call ?zR ?z1 ?z2 ?z3 ?z4 ?z5 ?_
  case z2 => k_asm
  case z3 => k_asm
  case z1 => exact ⟨by assumption, by assumption, by assumption, by assumption, by assumption, by assumption⟩
  case zR => exact .inl ⟨sv, kms_pick wv.toArray.toList (some 1) none, n, 0, by omega, by omega, .inl (by omega), (by repeat (first | assumption | refine List.Mem.tail _ ?_)), .head _⟩
  case z4 => k_room
  case z5 => k_units
  intro h10 g10 tk10 G10 T10 F10 N10 ht10
  have B10 := G10.B; have X10 := G10.X; have P10 := G10.T; have XB10 := G10.XB; have TB10 := G10.TB; have D10 := G10.D
  k_steps
  show wpAny _ _ _ _ _ _
  with_unfolding_all refine' refused_call ?zR ?z1 ?z2 ?z3 ?z4 ?z5 ?_
  case z2 => k_asm
  case z3 => k_asm
  case z1 => exact ⟨by assumption, by assumption, by assumption, by assumption, by assumption, by assumption⟩
  case zR => exact .inl ⟨kms_pick sv.toArray.toList none (some 1), kms_pick wv.toArray.toList none (some 1), 0, 0, by omega, by omega, .inr (by omega), .tail _ (.head _), .head _⟩
  case z4 => k_room
  case z5 => k_units
  intro h11 g11 tk11 G11 T11 F11 N11 ht11
  have B11 := G11.B; have X11 := G11.X; have P11 := G11.T; have XB11 := G11.XB; have TB11 := G11.TB; have D11 := G11.D
  k_steps
  · exact hQ _ _ (fun b o e => F11.keep b o (kt_keeps (((((T5.trans T8).trans T9).trans T10).trans T11)) b o e))
  · exfalso
    exact absurd ‹(Float64.cmp _ _ != _) = true› (by rw [h1c]; decide)
end
end Mine
end
-- WLh
section
namespace Mine
theorem rstWLh : True := by (w_top off); trivial
section
variable {w : World} {mean : ExcName → Option Value} {mg mb : Str → Option Value}
   {dp un : Nat} {gd : Option (List Code)} {cn : Str} {nm : List (Str × NameKind)} {ig ic : Bool} {mo : List (Str × Const)} {a : Addr} {ccd : Value} {outer : List Env} {A₀ : Around} {base h₀ : Heap} {L : Addr} {m : Str → Option Value} {s : Shared} {Q E : Value → Shared → Prop} {news : List (Addr × Obj)}
theorem wpAny_cut {M : Model} {A : Around} {env : Env} {l : List Stmt} {i k j : Nat} {Q : Flow → Shared → Prop} (hj : i + k = j) (h : wpAny M A (execs ((l.drop i).take k) env) (fun f s' => match f with | .next => wpAny M A (execs (l.drop j) env) Q E s' | f => Q f s') E s) : wpAny M A (execs (l.drop i) env) Q E s := by
  have e : l.drop i = (l.drop i).take k ++ l.drop j := by
    rw [← hj, ← List.drop_drop, List.take_append_drop]
  rw [e]
  exact wpAny_app h
theorem St1.via {zs : List Int} {n tk tk' : Nat} {m m' : Str → Option Value} {news : List (Addr × Obj)} (S : St1 zs n m news tk) (ht : tk ≤ tk') (h1 : m' (Str.ofString "numbers") = m (Str.ofString "numbers")) (h2 : m' (Str.ofString "sizes") = m (Str.ofString "sizes")) (h3 : m' (Str.ofString "words") = m (Str.ofString "words")) (h4 : m' (Str.ofString "plain") = m (Str.ofString "plain")) :
    St1 zs n m' news tk' := by
  obtain ⟨NV, SV, WV, PV, nv, sv, wv, pv, mN, mS, mW, mP, iN, iS, iW, iP, cN, cS, cW, cP⟩ := S
  exact ⟨NV, SV, WV, PV, nv, sv, wv, pv, h1.trans mN, h2.trans mS, h3.trans mW, h4.trans mP, iN, iS, iW, iP, cN.mono ht, cS.mono ht, cW.mono ht, cP⟩
theorem St3.via {zs : List Int} {n tk tk' : Nat} {m m' : Str → Option Value} {news : List (Addr × Obj)} (S : St3 zs n m news tk) (ht : tk ≤ tk') (h1 : m' (Str.ofString "filled") = m (Str.ofString "filled")) : St3 zs n m' news tk' := by
  obtain ⟨FV, fv, a, b, c⟩ := S
  exact ⟨FV, fv, h1.trans a, b, c.mono ht⟩
theorem St1.toks {zs : List Int} {n tk : Nat} {m : Str → Option Value} {news : List (Addr × Obj)} (S : St1 zs n m news tk) (hn : 0 < n) : 0 < tk := by
  obtain ⟨NV, SV, WV, PV, nv, sv, wv, pv, mN, mS, mW, mP, iN, iS, iW, iP, cN, cS, cW, cP⟩ := S
  obtain ⟨τ, _, b, _⟩ := cN
  have := b 0 hn
  omega
theorem law_main {Q : Flow → Shared → Prop} {qn : Str} {L a : Addr} {cdv : Value} {D : Addr} {ws : List Value} {zs : List Int} {τ0 : Nat → Nat} (hn : zs.length < 64) (hI : ws = (List.range zs.length).map fun i => Value.int (zs.getD i 0) (τ0 i)) (hτ : ∀ i, i < zs.length → 0 < τ0 i ∧ τ0 i < s.toks) (hτi : ∀ i i', i < i' → i' < zs.length → τ0 i ≠ τ0 i') (hD : h₀.IsList D ws.toArray)
   (G : Gd w mean mg mb callerA base [] h₀) (F₀ : Fr h₀ L s.heap m) (N₀ : News h₀ L s.heap []) (hm : m (Str.ofString "script") = some (.ref D))
   (hE : PassesOwn (model Challenge.rw_ij0174_01.row.prog w) (callerA.deeper (lawEnv qn L a cdv)) (lawEnv qn L a cdv) E)
   (hQ : ∀ h' (tk' : Nat), (∀ b o, h₀.get? b = some o → h'.get? b = some o) → Q (.ret (.bool true)) { s with heap := h', toks := tk' }) :
   wpAny (model Challenge.rw_ij0174_01.row.prog w) (callerA.deeper (lawEnv qn L a cdv)) (execs (lawCode.1.drop 0) (lawEnv qn L a cdv)) Q E s := by
  obtain ⟨n, hnn⟩ : ∃ n, n = min 6 zs.length + 5 := ⟨_, rfl⟩
  refine wpAny_cut (k := 5) (j := 5) rfl (law_A hn hI hτ hτi hD G F₀ N₀ hm fun h1 tk1 m1 news1 F1 N1 S1 ht1 => ?_)
  rw [← hnn] at S1
  refine wpAny_cut (k := 4) (j := 9) rfl (law_B hnn S1 G F1 N1 fun h2 tk2 m2 news2 F2 N2 S2 R2 ht2 => ?_)
  refine wpAny_cut (k := 1) (j := 10) rfl (law_C hnn S2 R2 G F2 N2 fun g3 h3 tk3 G3 K3 F3 N3 ht3 => ?_)
  have S3 := S2.mono ht3
  refine wpAny_cut (k := 1) (j := 11) rfl (law_C2 hnn S3 R2 G3 F3 N3 fun g4 h4 tk4 G4 K4 F4 N4 ht4 => ?_)
  have S4 := S3.mono ht4
  refine wpAny_cut (k := 1) (j := 12) rfl (law_D hnn S4 (S4.toks (by omega)) G4 F4 N4 fun h5 tk5 v5 news5 F5 N5 sub5 T5 ht5 => ?_)
  have S5 := S4.set (y := Str.ofString "filled") (v := some v5) sub5 ht5 (by decide) (by decide) (by decide) (by decide)
  have R5 := R2.set (y := Str.ofString "filled") (v := some v5) sub5 (by decide) (by decide) (by decide) (by decide)
  refine wpAny_cut (k := 2) (j := 14) rfl (law_D2 hnn S5 R5 T5 G4 F5 N5 fun h6 tk6 F6 N6 ht6 => ?_)
  have S6 := S5.mono ht6
  have T6 := T5.mono ht6
  refine wpAny_cut (k := 3) (j := 17) rfl (law_E hnn S6 R5 G4 F6 N6 fun h7 tk7 m7 td e7 d7 F7 N7 ht7 => ?_)
  have S7 := S6.via ht7 (e7 _ (by decide) (by decide) (by decide)) (e7 _ (by decide) (by decide) (by decide)) (e7 _ (by decide) (by decide) (by decide)) (e7 _ (by decide) (by decide) (by decide))
  have T7 := T6.via ht7 (e7 _ (by decide) (by decide) (by decide))
  refine wpAny_cut (k := 1) (j := 18) rfl (law_F hnn S7 d7 G4 F7 N7 hE fun g8 h8 tk8 m8 G8 K8 e8 F8 N8 ht8 => ?_)
  have S8 := S7.via ht8 (e8 _ (by decide)) (e8 _ (by decide)) (e8 _ (by decide)) (e8 _ (by decide))
  have T8 := T7.via ht8 (e8 _ (by decide))
  exact law_G hnn S8 T8 G8 F8 N8 fun h' tk' k => hQ h' tk' fun b o e => k b o (K8 b o (K4 b o (K3 b o e)))
end
end Mine
end
end
end
end
end
end
end
-- WLaw
section
open PySem PySem.W PyProof.Rows PySem.Spec PySem.Calls
namespace Mine
local macro_rules | `(tactic| k_qdec) => `(tactic| decide +kernel)
theorem kx_of {w : World} {s₀ s₁ : Shared} {R : WRecords} {args : List WData} {vs : List Value} {as : List Addr} {as0 : List Addr} {n t : Nat} (e : ∀ P, as0 = ((Mine.hd.heap_1) P).map (·.1)) (y : X.obsZ as0 s₀ = X.valZ Mine.hd.heap_1 n t w) (L : Laid R w s₀ s₁ args vs as) : (Mine.hd.heap_1 w.params).In s₁.heap ∧ s₀.toks = t :=
  ⟨Frag.In.keeps (X.z_facts e y).2.1 L.keeps, (X.z_facts e y).2.2.2⟩
theorem range_cons {α : Type} (f : Nat → α) (n : Nat) : (List.range (n + 1)).map f = f 0 :: (List.range n).map fun i => f (i + 1) := by
  rw [List.range_succ_eq_map, List.map_cons, List.map_map]; rfl
theorem lay_vals {R : WRecords} {cl : Str → Option Addr} {P : Params} {ord : List DictEntry → List DictEntry} : ∀ (ns : List Int) (s : Shared) (r : List Value × Shared), layAllW R cl P ord (ofPys (ns.map PyData.int)) s = some r → r.1 = (List.range ns.length).map (fun i => Value.int (ns.getD i 0) (s.toks + i : Nat)) ∧ r.2.toks = s.toks + ns.length
  | [], s, r, e => by
    have : layAllW R cl P ord (ofPys (List.map PyData.int [])) s = some ([], s) := by simp [ofPys, layAllW]
    rw [this] at e
    cases e; exact ⟨rfl, rfl⟩
  | n :: ns, s, r, e => by
    simp only [List.map_cons, ofPys, ofPy, layAllW, layW] at e
    cases q : layAllW R cl P ord (ofPys (List.map PyData.int ns)) { s with toks := s.toks + 1 } with
    | none => rw [q] at e; cases e
    | some r' =>
      rw [q] at e
      cases e
      obtain ⟨z1, z2⟩ := lay_vals ns { s with toks := s.toks + 1 } r' q
      refine ⟨?_, ?_⟩
      · rw [List.length_cons, range_cons]
        show _ :: r'.1 = _
        rw [z1]
        congr 1
        refine List.map_congr_left fun i _ => ?_
        show Value.int _ (s.toks + 1 + i : Nat) = Value.int _ (s.toks + (i + 1) : Nat)
        rw [Nat.add_right_comm]
        rfl
      · show r'.2.toks = _
        rw [z2, List.length_cons]
        show s.toks + 1 + ns.length = s.toks + (ns.length + 1)
        omega
theorem script_vals {R : WRecords} {w : World} {s₀ s₁ : Shared} {ns : List Int} {a : Addr} {as : List Addr} {vs : List Value} (L : Laid R w s₀ s₁ [ofPy (PyData.list (ns.map PyData.int))] [.ref a] as) (hL : s₁.heap.IsList a vs.toArray) :
    vs = (List.range ns.length).map (fun i => Value.int (ns.getD i 0) (s₀.toks + i : Nat)) ∧ s₀.toks + ns.length ≤ s₁.toks := by
  obtain ⟨ord, _, e⟩ := L.laid
  simp only [ofPy, layAllW, layW] at e
  cases q : layAllW R (classAt s₀.heap) w.params ord (ofPys (List.map PyData.int ns)) s₀ with
  | none => rw [q] at e; cases e
  | some r =>
    rw [q] at e
    obtain ⟨z1, z2⟩ := lay_vals ns s₀ r q
    simp only [Option.some.injEq, Prod.mk.injEq, List.cons.injEq, Value.ref.injEq] at e
    obtain ⟨⟨ea, _⟩, es⟩ := e
    have g : s₁.heap.get? a = some { cls := .type "list", data := .seq r.1.toArray } := by
      rw [← es, ← ea]
      exact Heap.get?_push_size _ rfl
    obtain ⟨o, ho, _, n, hd⟩ := hL
    rw [g] at ho
    cases ho
    simp only [Data.seq.injEq] at hd
    have hv : r.1 = vs := by have := congrArg Array.toList hd.1; simpa using this
    refine ⟨by rw [← hv]; exact z1, ?_⟩
    rw [← es, ← z2]
    exact Nat.le_refl _
theorem law_all : PySem.Challenge.rw_ij0174_01.Holds := by
  refine hd ?_
  k_fill
  intro w s₀ s₁ mg mb G y fa o pm cd doc dV kV ho hd hcd hD hmg hg args vals as LD hpre hlay hrd hwl hlo
  obtain ⟨KX, htk⟩ := kx_of (fun _ => by kernel_rfl) y LD
  clear y
  k_behind G ho hd hcd hD hmg hpre hlay hrd hwl hlo cd
  rename_i sX sV sGL sT sB sTE sTW x1 x2 sM x3 x4 zs x5 x6 x7 x8 x9 x10 x11 D ws x12 hL x13 x14 x15 hI x16 hc1 hc2 K0 h1 F0 N0
  obtain ⟨hvs, hts⟩ := script_vals LD hL
  have hlen : zs.length < 64 := by omega
  have main := @law_main w (ExcName.means s₀.heap) mg mb s₁.heap s₁.heap
  unfold lawEnv at main
  rw [lawCode_eq ?zo] at main
  case zo => rfl
  dsimp only [List.drop] at main
  refine main hlen hvs ?t1 ?t2 hL ⟨K0, KX, sT, KX, sT, fun b hb => by cases hb⟩ F0 N0 ?hm ?hE ?hQ
  case t1 => intro i hi; dsimp only; omega
  case t2 => intro i i' h1 h2; omega
  case hm => with_unfolding_all rfl
  case hE => passes_own
  case hQ =>
    intro h' tk' k
    refine ⟨.inl ⟨_, .bool true, [], rfl, raisesW_false ?r1, ReadsW.bool true, ?r2, unshared_nil⟩, k, rfl, hg⟩
    case r1 => wrow_none_raised
    case r2 => first | rfl | wrow_post
end Mine
end
theorem PySem.Challenge.cw_ij0174_01_holds : PySem.Challenge.rw_ij0174_01.Holds := by
  exact Mine.law_all
